import JvmDerived
import JvmDerived.Pilot.@@N@@Statement
import JvmDerived.Pilot.@@N@@Code
set_option linter.unusedVariables false
set_option linter.unusedSimpArgs false
namespace Jvm.Pilot.@@N@@
open Jvm Jvm.ClassFile Sem Op Lib Jvm.Free Jvm.Stand Jvm.LawKit Jvm.RoadKit Bundle Jvm.Pilot.@@N@@.Jvm.D
section OwnLayer
variable {p : Program} {l : Launch} {e : Env} {R : Room} {s : State} {m : MethodId} {args : Array Value} {below : List Frame} {meth : Method} {c : Code} {T : State} {cells slots : Nat} {Z : State} {a0 : Array Value} {h h' : Heap} {n0 : Nat} {A : State → Outcome → Prop} {bs : ByteArray} {maxL : Nat} {own : String} {pc pc' : Nat} {L L' : Array Slot} {st : List Value}
/-- the run that stands over T with the frame f comes to an end that A allows -/
def own_Wins (p : Program) (e : Env) (below : List Frame) (A : State → Outcome → Prop) (T : State) (f : JFrame) : Prop := ∃ U o, Steps p.tables e below (T.setTop f) U ∧ A U o
theorem own_by {T' : State} {f f' : JFrame} (q : ∀ target, Steps p.tables e below (T'.setTop f') target → Steps p.tables e below (T.setTop f) target) (k : own_Wins p e below A T' f') : own_Wins p e below A T f := by
  obtain ⟨U, o, h1, h2⟩ := k
  exact ⟨U, o, q _ h1, h2⟩
/-- where the walk stands: the kit's Stand, the heap, what was written is new, and what the walk knows of the body -/
def own_St (p : Program) (l : Launch) (e : Env) (R : Room) (s : State) (m : MethodId) (args : Array Value) (below : List Frame) (meth : Method) (c : Code) (Z : State) (n0 : Nat) (bs : ByteArray) (maxL : Nat) (own : String) (T : State) (h : Heap) (cells slots : Nat) : Prop :=
  ∃ locs, Stand p l e R s m args below meth c T locs cells slots ∧ T.heap = h ∧ Fr n0 locs ∧ n0 ≤ h.size ∧ p.tables.exec = Jvm.exec ∧ c.code = bs ∧ c.maxLocals = maxL ∧ s.vm.findClass own = some m.cls ∧ Z.Warmed39 s.vm ∧ meth.locks = false
theorem own_St.here (X : own_St p l e R s m args below meth c Z n0 bs maxL own T h cells slots) : At T m c below := by obtain ⟨_, Y, -⟩ := X; exact Y.here
theorem own_St.ex (X : own_St p l e R s m args below meth c Z n0 bs maxL own T h cells slots) : p.tables.exec = Jvm.exec := by obtain ⟨_, -, -, -, -, q, -⟩ := X; exact q
theorem own_St.cd (X : own_St p l e R s m args below meth c Z n0 bs maxL own T h cells slots) : c.code = bs := by obtain ⟨_, -, -, -, -, -, q, -⟩ := X; exact q
theorem own_St.ml (X : own_St p l e R s m args below meth c Z n0 bs maxL own T h cells slots) : c.maxLocals = maxL := by obtain ⟨_, -, -, -, -, -, -, q, -⟩ := X; exact q
theorem own_St.sz (X : own_St p l e R s m args below meth c Z n0 bs maxL own T h cells slots) : n0 ≤ h.size := by obtain ⟨_, -, -, -, q, -⟩ := X; exact q
theorem own_St.wz (X : own_St p l e R s m args below meth c Z n0 bs maxL own T h cells slots) : Z.Warmed39 s.vm := by obtain ⟨_, -, -, -, -, -, -, -, -, q, -⟩ := X; exact q
theorem own_St.more (X : own_St p l e R s m args below meth c Z n0 bs maxL own T h cells slots) {cells' slots' : Nat} (hc : cells ≤ cells') (hs : slots ≤ slots') : own_St p l e R s m args below meth c Z n0 bs maxL own T h cells' slots' := by
  obtain ⟨locs, Y, r⟩ := X
  exact ⟨locs, Y.more hc hs, r⟩
/-- an instruction, with the pc behind it -/
def own_ix (bs : ByteArray) (pc : Nat) (i : Instr) (n pc' : Nat) : Prop := decode bs pc = .ok (i, n) ∧ pc + n = pc'
def own_ik (bs : ByteArray) (pc : Nat) (v : Int32) (pc' : Nat) : Prop := ∃ i : Int, (decode bs pc = .ok (.iconst i, 1) ∧ Int32.ofInt i = v ∧ pc + 1 = pc') ∨ (decode bs pc = .ok (.bipush i, 2) ∧ (Int8.ofInt i).toInt32 = v ∧ pc + 2 = pc') ∨ (decode bs pc = .ok (.sipush i, 3) ∧ (Int16.ofInt i).toInt32 = v ∧ pc + 3 = pc')
def own_lk (bs : ByteArray) (pc : Nat) (v : Int64) (pc' : Nat) : Prop := ∃ k : Fin 2, decode bs pc = .ok (.lconst k, 1) ∧ Int64.ofNat k = v ∧ pc + 1 = pc'
def own_ii (bs : ByteArray) (pc : Nat) (k : Nat) (w : Int32) (pc' : Nat) : Prop := ∃ cst : Int, decode bs pc = .ok (.iinc k cst, 3) ∧ Int32.ofInt cst = w ∧ pc + 3 = pc'
def own_gt (bs : ByteArray) (pc tgt : Nat) : Prop := ∃ o : Int, decode bs pc = .ok (.goto o, 3) ∧ 0 ≤ (pc : Int) + o ∧ ((pc : Int) + o).toNat = tgt
def own_ifc (bs : ByteArray) (pc : Nat) (cd : ClassFile.Cond) (pc' tgt : Nat) : Prop := ∃ o : Int, decode bs pc = .ok (.ifCond cd o, 3) ∧ pc + 3 = pc' ∧ 0 ≤ (pc : Int) + o ∧ ((pc : Int) + o).toNat = tgt
def own_icm (bs : ByteArray) (pc : Nat) (cd : ClassFile.Cond) (pc' tgt : Nat) : Prop := ∃ o : Int, decode bs pc = .ok (.if_icmp cd o, 3) ∧ pc + 3 = pc' ∧ 0 ≤ (pc : Int) + o ∧ ((pc : Int) + o).toNat = tgt
def own_inl (bs : ByteArray) (pc : Nat) (pc' tgt : Nat) : Prop := ∃ o : Int, decode bs pc = .ok (.ifnull o, 3) ∧ pc + 3 = pc' ∧ 0 ≤ (pc : Int) + o ∧ ((pc : Int) + o).toNat = tgt
def own_inn (bs : ByteArray) (pc : Nat) (pc' tgt : Nat) : Prop := ∃ o : Int, decode bs pc = .ok (.ifnonnull o, 3) ∧ pc + 3 = pc' ∧ 0 ≤ (pc : Int) + o ∧ ((pc : Int) + o).toNat = tgt
def own_il (bs : ByteArray) (pc k pc' : Nat) : Prop := (∃ q : Fin 4, decode bs pc = .ok (.iload_n q, 1) ∧ q.val = k ∧ pc + 1 = pc') ∨ (decode bs pc = .ok (.iload k, 2) ∧ pc + 2 = pc')
def own_ll (bs : ByteArray) (pc k pc' : Nat) : Prop := (∃ q : Fin 4, decode bs pc = .ok (.lload_n q, 1) ∧ q.val = k ∧ pc + 1 = pc') ∨ (decode bs pc = .ok (.lload k, 2) ∧ pc + 2 = pc')
def own_al (bs : ByteArray) (pc k pc' : Nat) : Prop := (∃ q : Fin 4, decode bs pc = .ok (.aload_n q, 1) ∧ q.val = k ∧ pc + 1 = pc') ∨ (decode bs pc = .ok (.aload k, 2) ∧ pc + 2 = pc')
def own_si (bs : ByteArray) (pc k pc' : Nat) : Prop := (∃ q : Fin 4, decode bs pc = .ok (.istore_n q, 1) ∧ q.val = k ∧ pc + 1 = pc') ∨ (decode bs pc = .ok (.istore k, 2) ∧ pc + 2 = pc')
def own_sl (bs : ByteArray) (pc k pc' : Nat) : Prop := (∃ q : Fin 4, decode bs pc = .ok (.lstore_n q, 1) ∧ q.val = k ∧ pc + 1 = pc') ∨ (decode bs pc = .ok (.lstore k, 2) ∧ pc + 2 = pc')
def own_sa (bs : ByteArray) (pc k pc' : Nat) : Prop := (∃ q : Fin 4, decode bs pc = .ok (.astore_n q, 1) ∧ q.val = k ∧ pc + 1 = pc') ∨ (decode bs pc = .ok (.astore k, 2) ∧ pc + 2 = pc')
def own_Lshl (x : Int64) (q : Int32) : Int64 := x <<< (q &&& 0x3f).toInt64
def own_Lshr (x : Int64) (q : Int32) : Int64 := x >>> (q &&& 0x3f).toInt64
def own_Lushr (x : Int64) (q : Int32) : Int64 := (x.toUInt64 >>> (q &&& 0x3f).toInt64.toUInt64).toInt64
def own_Ishl (x q : Int32) : Int32 := x <<< (q &&& 31)
def own_Ishr (x q : Int32) : Int32 := x >>> (q &&& 31)
def own_Iushr (x q : Int32) : Int32 := (x.toUInt32 >>> (q &&& 31).toUInt32).toInt32
theorem own_iadd (X : own_St p l e R s m args below meth c Z n0 bs maxL own T h cells slots) {x y : Int32} (d : own_ix bs pc .iadd 1 pc')  (k : own_Wins p e below A T (mkF m pc' L (.int (x + y) :: st))) : own_Wins p e below A T (mkF m pc L (.int y :: .int x :: st)) := by
  obtain ⟨d, rfl⟩ := d
  exact own_by (fun _ q => XS.iadd X.here X.ex rfl (hb X.cd d) rfl q) k
theorem own_isub (X : own_St p l e R s m args below meth c Z n0 bs maxL own T h cells slots) {x y : Int32} (d : own_ix bs pc .isub 1 pc')  (k : own_Wins p e below A T (mkF m pc' L (.int (x - y) :: st))) : own_Wins p e below A T (mkF m pc L (.int y :: .int x :: st)) := by
  obtain ⟨d, rfl⟩ := d
  exact own_by (fun _ q => XS.isub X.here X.ex rfl (hb X.cd d) rfl q) k
theorem own_imul (X : own_St p l e R s m args below meth c Z n0 bs maxL own T h cells slots) {x y : Int32} (d : own_ix bs pc .imul 1 pc')  (k : own_Wins p e below A T (mkF m pc' L (.int (x * y) :: st))) : own_Wins p e below A T (mkF m pc L (.int y :: .int x :: st)) := by
  obtain ⟨d, rfl⟩ := d
  exact own_by (fun _ q => XS.imul X.here X.ex rfl (hb X.cd d) rfl q) k
theorem own_iand (X : own_St p l e R s m args below meth c Z n0 bs maxL own T h cells slots) {x y : Int32} (d : own_ix bs pc .iand 1 pc')  (k : own_Wins p e below A T (mkF m pc' L (.int (x &&& y) :: st))) : own_Wins p e below A T (mkF m pc L (.int y :: .int x :: st)) := by
  obtain ⟨d, rfl⟩ := d
  exact own_by (fun _ q => XS.iand X.here X.ex rfl (hb X.cd d) rfl q) k
theorem own_ior (X : own_St p l e R s m args below meth c Z n0 bs maxL own T h cells slots) {x y : Int32} (d : own_ix bs pc .ior 1 pc')  (k : own_Wins p e below A T (mkF m pc' L (.int (x ||| y) :: st))) : own_Wins p e below A T (mkF m pc L (.int y :: .int x :: st)) := by
  obtain ⟨d, rfl⟩ := d
  exact own_by (fun _ q => XS.ior X.here X.ex rfl (hb X.cd d) rfl q) k
theorem own_ixor (X : own_St p l e R s m args below meth c Z n0 bs maxL own T h cells slots) {x y : Int32} (d : own_ix bs pc .ixor 1 pc')  (k : own_Wins p e below A T (mkF m pc' L (.int (x ^^^ y) :: st))) : own_Wins p e below A T (mkF m pc L (.int y :: .int x :: st)) := by
  obtain ⟨d, rfl⟩ := d
  exact own_by (fun _ q => XS.ixor X.here X.ex rfl (hb X.cd d) rfl q) k
theorem own_ladd (X : own_St p l e R s m args below meth c Z n0 bs maxL own T h cells slots) {x y : Int64} (d : own_ix bs pc .ladd 1 pc')  (k : own_Wins p e below A T (mkF m pc' L (.long (x + y) :: st))) : own_Wins p e below A T (mkF m pc L (.long y :: .long x :: st)) := by
  obtain ⟨d, rfl⟩ := d
  exact own_by (fun _ q => XS.ladd X.here X.ex rfl (hb X.cd d) rfl q) k
theorem own_lsub (X : own_St p l e R s m args below meth c Z n0 bs maxL own T h cells slots) {x y : Int64} (d : own_ix bs pc .lsub 1 pc')  (k : own_Wins p e below A T (mkF m pc' L (.long (x - y) :: st))) : own_Wins p e below A T (mkF m pc L (.long y :: .long x :: st)) := by
  obtain ⟨d, rfl⟩ := d
  exact own_by (fun _ q => XS.lsub X.here X.ex rfl (hb X.cd d) rfl q) k
theorem own_lmul (X : own_St p l e R s m args below meth c Z n0 bs maxL own T h cells slots) {x y : Int64} (d : own_ix bs pc .lmul 1 pc')  (k : own_Wins p e below A T (mkF m pc' L (.long (x * y) :: st))) : own_Wins p e below A T (mkF m pc L (.long y :: .long x :: st)) := by
  obtain ⟨d, rfl⟩ := d
  exact own_by (fun _ q => XS.lmul X.here X.ex rfl (hb X.cd d) rfl q) k
theorem own_land (X : own_St p l e R s m args below meth c Z n0 bs maxL own T h cells slots) {x y : Int64} (d : own_ix bs pc .land 1 pc')  (k : own_Wins p e below A T (mkF m pc' L (.long (x &&& y) :: st))) : own_Wins p e below A T (mkF m pc L (.long y :: .long x :: st)) := by
  obtain ⟨d, rfl⟩ := d
  exact own_by (fun _ q => XS.land X.here X.ex rfl (hb X.cd d) rfl q) k
theorem own_lor (X : own_St p l e R s m args below meth c Z n0 bs maxL own T h cells slots) {x y : Int64} (d : own_ix bs pc .lor 1 pc')  (k : own_Wins p e below A T (mkF m pc' L (.long (x ||| y) :: st))) : own_Wins p e below A T (mkF m pc L (.long y :: .long x :: st)) := by
  obtain ⟨d, rfl⟩ := d
  exact own_by (fun _ q => XS.lor X.here X.ex rfl (hb X.cd d) rfl q) k
theorem own_lxor (X : own_St p l e R s m args below meth c Z n0 bs maxL own T h cells slots) {x y : Int64} (d : own_ix bs pc .lxor 1 pc')  (k : own_Wins p e below A T (mkF m pc' L (.long (x ^^^ y) :: st))) : own_Wins p e below A T (mkF m pc L (.long y :: .long x :: st)) := by
  obtain ⟨d, rfl⟩ := d
  exact own_by (fun _ q => XS.lxor X.here X.ex rfl (hb X.cd d) rfl q) k
theorem own_ishl (X : own_St p l e R s m args below meth c Z n0 bs maxL own T h cells slots) {x y : Int32} (d : own_ix bs pc .ishl 1 pc')  (k : own_Wins p e below A T (mkF m pc' L (.int (own_Ishl x y) :: st))) : own_Wins p e below A T (mkF m pc L (.int y :: .int x :: st)) := by
  obtain ⟨d, rfl⟩ := d
  exact own_by (fun _ q => XS.ishl X.here X.ex rfl (hb X.cd d) rfl q) k
theorem own_ishr (X : own_St p l e R s m args below meth c Z n0 bs maxL own T h cells slots) {x y : Int32} (d : own_ix bs pc .ishr 1 pc')  (k : own_Wins p e below A T (mkF m pc' L (.int (own_Ishr x y) :: st))) : own_Wins p e below A T (mkF m pc L (.int y :: .int x :: st)) := by
  obtain ⟨d, rfl⟩ := d
  exact own_by (fun _ q => XS.ishr X.here X.ex rfl (hb X.cd d) rfl q) k
theorem own_iushr (X : own_St p l e R s m args below meth c Z n0 bs maxL own T h cells slots) {x y : Int32} (d : own_ix bs pc .iushr 1 pc')  (k : own_Wins p e below A T (mkF m pc' L (.int (own_Iushr x y) :: st))) : own_Wins p e below A T (mkF m pc L (.int y :: .int x :: st)) := by
  obtain ⟨d, rfl⟩ := d
  exact own_by (fun _ q => XS.iushr X.here X.ex rfl (hb X.cd d) rfl q) k
theorem own_lshl (X : own_St p l e R s m args below meth c Z n0 bs maxL own T h cells slots) {x : Int64} {y : Int32} (d : own_ix bs pc .lshl 1 pc')  (k : own_Wins p e below A T (mkF m pc' L (.long (own_Lshl x y) :: st))) : own_Wins p e below A T (mkF m pc L (.int y :: .long x :: st)) := by
  obtain ⟨d, rfl⟩ := d
  exact own_by (fun _ q => XS.lshl X.here X.ex rfl (hb X.cd d) rfl q) k
theorem own_lshr (X : own_St p l e R s m args below meth c Z n0 bs maxL own T h cells slots) {x : Int64} {y : Int32} (d : own_ix bs pc .lshr 1 pc')  (k : own_Wins p e below A T (mkF m pc' L (.long (own_Lshr x y) :: st))) : own_Wins p e below A T (mkF m pc L (.int y :: .long x :: st)) := by
  obtain ⟨d, rfl⟩ := d
  exact own_by (fun _ q => XS.lshr X.here X.ex rfl (hb X.cd d) rfl q) k
theorem own_lushr (X : own_St p l e R s m args below meth c Z n0 bs maxL own T h cells slots) {x : Int64} {y : Int32} (d : own_ix bs pc .lushr 1 pc')  (k : own_Wins p e below A T (mkF m pc' L (.long (own_Lushr x y) :: st))) : own_Wins p e below A T (mkF m pc L (.int y :: .long x :: st)) := by
  obtain ⟨d, rfl⟩ := d
  exact own_by (fun _ q => XS.lushr X.here X.ex rfl (hb X.cd d) rfl q) k
theorem own_idiv (X : own_St p l e R s m args below meth c Z n0 bs maxL own T h cells slots) {x y : Int32} (d : own_ix bs pc .idiv 1 pc') (hy : y ≠ 0) (k : own_Wins p e below A T (mkF m pc' L (.int (x / y) :: st))) : own_Wins p e below A T (mkF m pc L (.int y :: .int x :: st)) := by
  obtain ⟨d, rfl⟩ := d
  exact own_by (fun _ q => XS.idiv X.here X.ex rfl (hb X.cd d) rfl hy q) k
theorem own_ldiv (X : own_St p l e R s m args below meth c Z n0 bs maxL own T h cells slots) {x y : Int64} (d : own_ix bs pc .ldiv 1 pc') (hy : y ≠ 0) (k : own_Wins p e below A T (mkF m pc' L (.long (x / y) :: st))) : own_Wins p e below A T (mkF m pc L (.long y :: .long x :: st)) := by
  obtain ⟨d, rfl⟩ := d
  exact own_by (fun _ q => XS.ldiv X.here X.ex rfl (hb X.cd d) rfl hy q) k
theorem own_irem (X : own_St p l e R s m args below meth c Z n0 bs maxL own T h cells slots) {x y : Int32} (d : own_ix bs pc .irem 1 pc') (hy : y ≠ 0) (k : own_Wins p e below A T (mkF m pc' L (.int (x % y) :: st))) : own_Wins p e below A T (mkF m pc L (.int y :: .int x :: st)) := by
  obtain ⟨d, rfl⟩ := d
  have e1 : x - x / y * y = x % y := irem_eq_mod x y
  exact own_by (fun _ q => XS.irem X.here X.ex rfl (hb X.cd d) rfl hy (by rw [e1]; exact q)) k
theorem own_lrem (X : own_St p l e R s m args below meth c Z n0 bs maxL own T h cells slots) {x y : Int64} (d : own_ix bs pc .lrem 1 pc') (hy : y ≠ 0) (k : own_Wins p e below A T (mkF m pc' L (.long (x % y) :: st))) : own_Wins p e below A T (mkF m pc L (.long y :: .long x :: st)) := by
  obtain ⟨d, rfl⟩ := d
  have e1 : x - x / y * y = x % y := lrem_mod x y
  exact own_by (fun _ q => XS.lrem X.here X.ex rfl (hb X.cd d) rfl hy (by rw [e1]; exact q)) k
theorem own_ineg (X : own_St p l e R s m args below meth c Z n0 bs maxL own T h cells slots) {x : Int32} (d : own_ix bs pc .ineg 1 pc')  (k : own_Wins p e below A T (mkF m pc' L (.int (-x) :: st))) : own_Wins p e below A T (mkF m pc L (.int x :: st)) := by
  obtain ⟨d, rfl⟩ := d
  exact own_by (fun _ q => XS.ineg X.here X.ex rfl (hb X.cd d) rfl q) k
theorem own_lneg (X : own_St p l e R s m args below meth c Z n0 bs maxL own T h cells slots) {x : Int64} (d : own_ix bs pc .lneg 1 pc')  (k : own_Wins p e below A T (mkF m pc' L (.long (-x) :: st))) : own_Wins p e below A T (mkF m pc L (.long x :: st)) := by
  obtain ⟨d, rfl⟩ := d
  exact own_by (fun _ q => XS.lneg X.here X.ex rfl (hb X.cd d) rfl q) k
theorem own_i2l (X : own_St p l e R s m args below meth c Z n0 bs maxL own T h cells slots) {x : Int32} (d : own_ix bs pc .i2l 1 pc')  (k : own_Wins p e below A T (mkF m pc' L (.long x.toInt64 :: st))) : own_Wins p e below A T (mkF m pc L (.int x :: st)) := by
  obtain ⟨d, rfl⟩ := d
  exact own_by (fun _ q => XS.i2l X.here X.ex rfl (hb X.cd d) rfl q) k
theorem own_l2i (X : own_St p l e R s m args below meth c Z n0 bs maxL own T h cells slots) {x : Int64} (d : own_ix bs pc .l2i 1 pc')  (k : own_Wins p e below A T (mkF m pc' L (.int x.toInt32 :: st))) : own_Wins p e below A T (mkF m pc L (.long x :: st)) := by
  obtain ⟨d, rfl⟩ := d
  exact own_by (fun _ q => XS.l2i X.here X.ex rfl (hb X.cd d) rfl q) k
theorem own_i2b (X : own_St p l e R s m args below meth c Z n0 bs maxL own T h cells slots) {x : Int32} (d : own_ix bs pc .i2b 1 pc')  (k : own_Wins p e below A T (mkF m pc' L (.int x.toInt8.toInt32 :: st))) : own_Wins p e below A T (mkF m pc L (.int x :: st)) := by
  obtain ⟨d, rfl⟩ := d
  exact own_by (fun _ q => XS.i2b X.here X.ex rfl (hb X.cd d) rfl q) k
theorem own_lcmp (X : own_St p l e R s m args below meth c Z n0 bs maxL own T h cells slots) {x y : Int64} (d : own_ix bs pc .lcmp 1 pc')  (k : own_Wins p e below A T (mkF m pc' L (.int (lcmpW x y) :: st))) : own_Wins p e below A T (mkF m pc L (.long y :: .long x :: st)) := by
  obtain ⟨d, rfl⟩ := d
  exact own_by (fun _ q => XS.lcmp X.here X.ex rfl (hb X.cd d) rfl q) k
theorem own_dup (X : own_St p l e R s m args below meth c Z n0 bs maxL own T h cells slots) {x : Value} (d : own_ix bs pc .dup 1 pc') (hc : x.category = 1) (k : own_Wins p e below A T (mkF m pc' L (x :: x :: st))) : own_Wins p e below A T (mkF m pc L (x :: st)) := by
  obtain ⟨d, rfl⟩ := d
  exact own_by (fun _ q => XS.dup X.here X.ex rfl (hb X.cd d) rfl hc q) k
theorem own_pop (X : own_St p l e R s m args below meth c Z n0 bs maxL own T h cells slots) {x : Value} (d : own_ix bs pc .pop 1 pc') (hc : x.category = 1) (k : own_Wins p e below A T (mkF m pc' L st)) : own_Wins p e below A T (mkF m pc L (x :: st)) := by
  obtain ⟨d, rfl⟩ := d
  exact own_by (fun _ q => XS.pop X.here X.ex rfl (hb X.cd d) rfl hc q) k
theorem own_dup2 (X : own_St p l e R s m args below meth c Z n0 bs maxL own T h cells slots) {x : Int32} {y : Addr} (d : own_ix bs pc .dup2 1 pc')  (k : own_Wins p e below A T (mkF m pc' L (.int x :: .ref y :: .int x :: .ref y :: st))) : own_Wins p e below A T (mkF m pc L (.int x :: .ref y :: st)) := by
  obtain ⟨d, rfl⟩ := d
  refine own_by (fun _ q => ?_) k
  show Steps p.tables e below (T.setTop (mkF m pc L (.int x :: .ref y :: st))) _
  jvm_step X.here [X.here.top, X.ex, (hb X.cd d), Value.category]
  exact q
theorem own_anull (X : own_St p l e R s m args below meth c Z n0 bs maxL own T h cells slots)  (d : own_ix bs pc .aconst_null 1 pc')  (k : own_Wins p e below A T (mkF m pc' L (.null :: st))) : own_Wins p e below A T (mkF m pc L st) := by
  obtain ⟨d, rfl⟩ := d
  exact own_by (fun _ q => XS.aconstNull X.here X.ex rfl (hb X.cd d) q) k
theorem own_ipush (X : own_St p l e R s m args below meth c Z n0 bs maxL own T h cells slots) {v : Int32} (d : own_ik bs pc v pc')  (k : own_Wins p e below A T (mkF m pc' L (.int v :: st))) : own_Wins p e below A T (mkF m pc L st) := by
  obtain ⟨i, ⟨d, rfl, rfl⟩ | ⟨d, rfl, rfl⟩ | ⟨d, rfl, rfl⟩⟩ := d
  · exact own_by (fun _ q => XS.iconst X.here X.ex rfl (hb X.cd d) q) k
  · exact own_by (fun _ q => XS.bipush X.here X.ex rfl (hb X.cd d) q) k
  · exact own_by (fun _ q => XS.sipush X.here X.ex rfl (hb X.cd d) q) k
theorem own_lpush (X : own_St p l e R s m args below meth c Z n0 bs maxL own T h cells slots) {v : Int64} (d : own_lk bs pc v pc')  (k : own_Wins p e below A T (mkF m pc' L (.long v :: st))) : own_Wins p e below A T (mkF m pc L st) := by
  obtain ⟨i, d, rfl, rfl⟩ := d
  exact own_by (fun _ q => XS.lconst X.here X.ex rfl (hb X.cd d) q) k
theorem own_iload (X : own_St p l e R s m args below meth c Z n0 bs maxL own T h cells slots) {i : Nat} {v : Int32} (d : own_il bs pc i pc') (hl : L[i]? = some (.val (.int v))) (k : own_Wins p e below A T (mkF m pc' L (.int v :: st))) : own_Wins p e below A T (mkF m pc L st) := by
  obtain ⟨i', d, rfl, rfl⟩ | ⟨d, rfl⟩ := d
  · exact own_by (fun _ q => XS.iloadN X.here X.ex rfl (hb X.cd d) hl q) k
  · exact own_by (fun _ q => XS.iload X.here X.ex rfl (hb X.cd d) hl q) k
theorem own_lload (X : own_St p l e R s m args below meth c Z n0 bs maxL own T h cells slots) {i : Nat} {v : Int64} (d : own_ll bs pc i pc') (hl : L[i]? = some (.val (.long v))) (k : own_Wins p e below A T (mkF m pc' L (.long v :: st))) : own_Wins p e below A T (mkF m pc L st) := by
  obtain ⟨i', d, rfl, rfl⟩ | ⟨d, rfl⟩ := d
  · exact own_by (fun _ q => XS.lloadN X.here X.ex rfl (hb X.cd d) hl q) k
  · exact own_by (fun _ q => XS.lload X.here X.ex rfl (hb X.cd d) hl q) k
theorem own_aload (X : own_St p l e R s m args below meth c Z n0 bs maxL own T h cells slots) {i : Nat} {v : Addr} (d : own_al bs pc i pc') (hl : L[i]? = some (.val (.ref v))) (k : own_Wins p e below A T (mkF m pc' L (.ref v :: st))) : own_Wins p e below A T (mkF m pc L st) := by
  obtain ⟨i', d, rfl, rfl⟩ | ⟨d, rfl⟩ := d
  · exact own_by (fun _ q => XS.aloadN X.here X.ex rfl (hb X.cd d) hl rfl q) k
  · exact own_by (fun _ q => XS.aload X.here X.ex rfl (hb X.cd d) hl rfl q) k
theorem own_aloadN (X : own_St p l e R s m args below meth c Z n0 bs maxL own T h cells slots) {i : Nat} (d : own_al bs pc i pc') (hl : L[i]? = some (.val .null)) (k : own_Wins p e below A T (mkF m pc' L (.null :: st))) : own_Wins p e below A T (mkF m pc L st) := by
  obtain ⟨i', d, rfl, rfl⟩ | ⟨d, rfl⟩ := d
  · exact own_by (fun _ q => XS.aloadN X.here X.ex rfl (hb X.cd d) hl rfl q) k
  · exact own_by (fun _ q => XS.aload X.here X.ex rfl (hb X.cd d) hl rfl q) k
theorem own_istore (X : own_St p l e R s m args below meth c Z n0 bs maxL own T h cells slots) {i : Nat} {v : Int32} (L' : Array Slot) (d : own_si bs pc i pc') (hl : storeLocals L i (.int v) = some L') (k : own_Wins p e below A T (mkF m pc' L' st)) : own_Wins p e below A T (mkF m pc L (.int v :: st)) := by
  obtain ⟨i', d, rfl, rfl⟩ | ⟨d, rfl⟩ := d
  · exact own_by (fun _ q => XS.istoreN X.here X.ex rfl (hb X.cd d) rfl hl q) k
  · exact own_by (fun _ q => XS.istore X.here X.ex rfl (hb X.cd d) rfl hl q) k
theorem own_lstore (X : own_St p l e R s m args below meth c Z n0 bs maxL own T h cells slots) {i : Nat} {v : Int64} (L' : Array Slot) (d : own_sl bs pc i pc') (hl : storeLocals L i (.long v) = some L') (k : own_Wins p e below A T (mkF m pc' L' st)) : own_Wins p e below A T (mkF m pc L (.long v :: st)) := by
  obtain ⟨i', d, rfl, rfl⟩ | ⟨d, rfl⟩ := d
  · exact own_by (fun _ q => XS.lstoreN X.here X.ex rfl (hb X.cd d) rfl hl q) k
  · exact own_by (fun _ q => XS.lstore X.here X.ex rfl (hb X.cd d) rfl hl q) k
theorem own_astore (X : own_St p l e R s m args below meth c Z n0 bs maxL own T h cells slots) {i : Nat} {v : Addr} (L' : Array Slot) (d : own_sa bs pc i pc') (hl : storeLocals L i (.ref v) = some L') (k : own_Wins p e below A T (mkF m pc' L' st)) : own_Wins p e below A T (mkF m pc L (.ref v :: st)) := by
  obtain ⟨i', d, rfl, rfl⟩ | ⟨d, rfl⟩ := d
  · exact own_by (fun _ q => XS.astoreN X.here X.ex rfl (hb X.cd d) rfl rfl hl q) k
  · exact own_by (fun _ q => XS.astore X.here X.ex rfl (hb X.cd d) rfl rfl hl q) k
theorem own_iinc (X : own_St p l e R s m args below meth c Z n0 bs maxL own T h cells slots) {i : Nat} {x w : Int32} (L' : Array Slot) (d : own_ii bs pc i w pc') (hl : L[i]? = some (.val (.int x))) (hl' : storeLocals L i (.int (x + w)) = some L') (k : own_Wins p e below A T (mkF m pc' L' st)) : own_Wins p e below A T (mkF m pc L st) := by
  obtain ⟨i', d, rfl, rfl⟩ := d
  exact own_by (fun _ q => XS.iinc X.here X.ex rfl (hb X.cd d) hl hl' q) k
theorem own_goto (X : own_St p l e R s m args below meth c Z n0 bs maxL own T h cells slots) (d : own_gt bs pc pc') (k : own_Wins p e below A T (mkF m pc' L st)) : own_Wins p e below A T (mkF m pc L st) := by
  obtain ⟨o, d, h1, h2⟩ := d
  exact own_by (fun _ q => XS.goto X.here X.ex rfl rfl (hb X.cd d) h1 h2 q) k
theorem own_ifYes (X : own_St p l e R s m args below meth c Z n0 bs maxL own T h cells slots) {cd : ClassFile.Cond} {x : Int32} {nx : Nat} (d : own_ifc bs pc cd nx pc') (hc : ifCond.holds cd x = true) (k : own_Wins p e below A T (mkF m pc' L st)) : own_Wins p e below A T (mkF m pc L (.int x :: st)) := by
  obtain ⟨o, d, -, h1, h2⟩ := d
  exact own_by (fun _ q => XS.ifYes X.here X.ex rfl rfl (hb X.cd d) rfl hc h1 h2 q) k
theorem own_ifNo (X : own_St p l e R s m args below meth c Z n0 bs maxL own T h cells slots) {cd : ClassFile.Cond} {x : Int32} {tg : Nat} (d : own_ifc bs pc cd pc' tg) (hc : ifCond.holds cd x = false) (k : own_Wins p e below A T (mkF m pc' L st)) : own_Wins p e below A T (mkF m pc L (.int x :: st)) := by
  obtain ⟨o, d, rfl, h1, h2⟩ := d
  exact own_by (fun _ q => XS.ifNo X.here X.ex rfl (hb X.cd d) rfl hc q) k
theorem own_icYes (X : own_St p l e R s m args below meth c Z n0 bs maxL own T h cells slots) {cd : ClassFile.Cond} {x y : Int32} {nx : Nat} (d : own_icm bs pc cd nx pc') (hc : if_icmp.holds cd x y = true) (k : own_Wins p e below A T (mkF m pc' L st)) : own_Wins p e below A T (mkF m pc L (.int y :: .int x :: st)) := by
  obtain ⟨o, d, -, h1, h2⟩ := d
  exact own_by (fun _ q => XS.icmpYes X.here X.ex rfl rfl (hb X.cd d) rfl hc h1 h2 q) k
theorem own_icNo (X : own_St p l e R s m args below meth c Z n0 bs maxL own T h cells slots) {cd : ClassFile.Cond} {x y : Int32} {tg : Nat} (d : own_icm bs pc cd pc' tg) (hc : if_icmp.holds cd x y = false) (k : own_Wins p e below A T (mkF m pc' L st)) : own_Wins p e below A T (mkF m pc L (.int y :: .int x :: st)) := by
  obtain ⟨o, d, rfl, h1, h2⟩ := d
  exact own_by (fun _ q => XS.icmpNo X.here X.ex rfl (hb X.cd d) rfl hc q) k
theorem own_inlYes (X : own_St p l e R s m args below meth c Z n0 bs maxL own T h cells slots) {nx : Nat} (d : own_inl bs pc nx pc') (k : own_Wins p e below A T (mkF m pc' L st)) : own_Wins p e below A T (mkF m pc L (.null :: st)) := by
  obtain ⟨o, d, -, h1, h2⟩ := d
  exact own_by (fun _ q => XS.ifnullYes X.here X.ex rfl rfl (hb X.cd d) rfl h1 h2 q) k
theorem own_inlNo (X : own_St p l e R s m args below meth c Z n0 bs maxL own T h cells slots) {a : Addr} {tg : Nat} (d : own_inl bs pc pc' tg) (k : own_Wins p e below A T (mkF m pc' L st)) : own_Wins p e below A T (mkF m pc L (.ref a :: st)) := by
  obtain ⟨o, d, rfl, h1, h2⟩ := d
  exact own_by (fun _ q => XS.ifnullNo X.here X.ex rfl (hb X.cd d) rfl q) k
theorem own_innYes (X : own_St p l e R s m args below meth c Z n0 bs maxL own T h cells slots) {a : Addr} {nx : Nat} (d : own_inn bs pc nx pc') (k : own_Wins p e below A T (mkF m pc' L st)) : own_Wins p e below A T (mkF m pc L (.ref a :: st)) := by
  obtain ⟨o, d, -, h1, h2⟩ := d
  exact own_by (fun _ q => XS.ifnonnullYes X.here X.ex rfl rfl (hb X.cd d) rfl h1 h2 q) k
theorem own_innNo (X : own_St p l e R s m args below meth c Z n0 bs maxL own T h cells slots) {tg : Nat} (d : own_inn bs pc pc' tg) (k : own_Wins p e below A T (mkF m pc' L st)) : own_Wins p e below A T (mkF m pc L (.null :: st)) := by
  obtain ⟨o, d, rfl, h1, h2⟩ := d
  exact own_by (fun _ q => XS.ifnonnullNo X.here X.ex rfl (hb X.cd d) rfl q) k
theorem own_ldc (X : own_St p l e R s m args below meth c Z n0 bs maxL own T h cells slots) {i : Nat} {v : Int32} (w : (Jvm.Cond.constant own i v).before a0 Z = true) (d : own_ix bs pc (.ldc i) 2 pc') (k : own_Wins p e below A T (mkF m pc' L (.int v :: st))) : own_Wins p e below A T (mkF m pc L st) := by
  obtain ⟨locs, Y, eT, N, hn, hx, hby, hml, hown, hZ, hlk⟩ := X
  obtain ⟨d, rfl⟩ := d
  exact own_by (Y.ldcInt hx hown (mvT hZ w) (g := mkF m pc L st) rfl (hb hby d)) k
theorem own_ldc2 (X : own_St p l e R s m args below meth c Z n0 bs maxL own T h cells slots) {i : Nat} {v : Int64} (w : (Jvm.Cond.constantLong own i v).before a0 Z = true) (d : own_ix bs pc (.ldc2_w i) 3 pc') (k : own_Wins p e below A T (mkF m pc' L (.long v :: st))) : own_Wins p e below A T (mkF m pc L st) := by
  obtain ⟨locs, Y, eT, N, hn, hx, hby, hml, hown, hZ, hlk⟩ := X
  obtain ⟨d, rfl⟩ := d
  exact own_by (Y.ldc2Long hx hown (mvT hZ w) (g := mkF m pc L st) rfl (hb hby d)) k
/-- an array of primitives: its values as a list -/
def own_AL (Z : State) (h : Heap) (a : Addr) (ty : FieldType) (vs : List Value) : Prop := ∃ c : Cell, Arr Z h a c ty ∧ c.slots = vs.toArray ∧ vs.length < 2147483648
theorem own_AL.lt {a : Addr} {ty : FieldType} {vs : List Value} (V : own_AL Z h a ty vs) : a < h.size := by obtain ⟨c, A, -⟩ := V; exact A.lt
theorem own_AL.ext {a : Addr} {ty : FieldType} {vs : List Value} (V : own_AL Z h a ty vs) (E : Ext h h') : own_AL Z h' a ty vs := by obtain ⟨c, A, r⟩ := V; exact ⟨c, A.ext E, r⟩
theorem own_AL.other {a b : Addr} {sl : Nat} {v : Value} {ty : FieldType} {vs : List Value} (V : own_AL Z h b ty vs) (W : Wr h h' a sl v) (q : b ≠ a) : own_AL Z h' b ty vs := by obtain ⟨c, A, r⟩ := V; exact ⟨c, A.other W q, r⟩
theorem own_AL.keep {a : Addr} {ws : List Addr} {ty : FieldType} {vs : List Value} (V : own_AL Z h a ty vs) (K : Keep h h' ws) (q : a ∉ ws) : own_AL Z h' a ty vs := by obtain ⟨c, A, r⟩ := V; exact ⟨c, ⟨K.2.1 a c A.1 q, A.2⟩, r⟩
theorem own_AL.new {a : Addr} {k : ClassId} {ty : FieldType} {z : Int32} {n : Nat} (A : Arr Z h a (newA k ty z) ty) (hz : z.toNatClampNeg = n) (hn : n < 2147483648) : own_AL Z h a ty (List.replicate n (defaultValue ty)) :=
  ⟨_, A, by simp [newA, hz], by simpa using hn⟩
theorem own_AL.same {a : Addr} {k : Nat} {v : Value} {ty : FieldType} {vs : List Value} (V : own_AL Z h a ty vs) (W : Wr h h' a k v) : own_AL Z h' a ty (vs.set k v) := by
  obtain ⟨c, A, q, r⟩ := V
  exact ⟨_, A.same W, by simp [Cell.setSlot, q], by simpa using r⟩
/-- an index in its two forms -/
def own_idx (j : Int32) (k : Nat) : Prop := ¬ j < 0 ∧ j.toNatClampNeg = k
theorem own_in {j : Int32} {k : Nat} {cl : Cell} {vs : List Value} (hj : own_idx j k) (q : cl.slots = vs.toArray) (hk : k < vs.length) : ¬ (j < 0 ∨ cl.slots.size ≤ j.toNatClampNeg) := by
  rw [q, hj.2]; simp only [List.size_toArray]
  intro z; rcases z with z | z
  · exact hj.1 z
  · omega
theorem own_len {cl : Cell} {vs : List Value} (q : cl.slots = vs.toArray) : cl.slots.size.toInt32 = Int32.ofNat vs.length := by rw [q]; simp [Nat.toInt32]
theorem own_iaload (X : own_St p l e R s m args below meth c Z n0 bs maxL own T h cells slots) {a : Addr} {vs : List Value} (V : own_AL Z h a .int vs) {j : Int32} {i : Nat} {v : Value} (hj : own_idx j i) (hv : vs[i]? = some v) (d : own_ix bs pc .iaload 1 pc') (k : own_Wins p e below A T (mkF m pc' L (v :: st))) : own_Wins p e below A T (mkF m pc L (.int j :: .ref a :: st)) := by
  obtain ⟨locs, Y, eT, N, hn, hx, hby, hml, hown, hZ, hlk⟩ := X
  obtain ⟨d, rfl⟩ := d
  obtain ⟨cl, Ar, q, r⟩ := V
  have hk : i < vs.length := (List.getElem?_eq_some_iff.mp hv).1
  exact own_by (fun t kk => Y.iaload hx (j := j) (v := v) (by rw [eT]; exact Ar.1) (State.isArrayOf_alike hZ.alike Ar.2.1) Ar.2.2 (own_in hj q hk) (by rw [q, hj.2]; simpa using hv) (g := mkF m pc L (.int j :: .ref a :: st)) rfl rfl (hb hby d) t kk) k
theorem own_laload (X : own_St p l e R s m args below meth c Z n0 bs maxL own T h cells slots) {a : Addr} {vs : List Value} (V : own_AL Z h a .long vs) {j : Int32} {i : Nat} {v : Value} (hj : own_idx j i) (hv : vs[i]? = some v) (d : own_ix bs pc .laload 1 pc') (k : own_Wins p e below A T (mkF m pc' L (v :: st))) : own_Wins p e below A T (mkF m pc L (.int j :: .ref a :: st)) := by
  obtain ⟨locs, Y, eT, N, hn, hx, hby, hml, hown, hZ, hlk⟩ := X
  obtain ⟨d, rfl⟩ := d
  obtain ⟨cl, Ar, q, r⟩ := V
  have hk : i < vs.length := (List.getElem?_eq_some_iff.mp hv).1
  exact own_by (fun t kk => Y.laload hx (j := j) (v := v) (by rw [eT]; exact Ar.1) (State.isArrayOf_alike hZ.alike Ar.2.1) Ar.2.2 (own_in hj q hk) (by rw [q, hj.2]; simpa using hv) (g := mkF m pc L (.int j :: .ref a :: st)) rfl rfl (hb hby d) t kk) k
theorem own_baload (X : own_St p l e R s m args below meth c Z n0 bs maxL own T h cells slots) {a : Addr} {vs : List Value} (V : own_AL Z h a .byte vs) {j : Int32} {i : Nat} {v : Value} (hj : own_idx j i) (hv : vs[i]? = some v) (d : own_ix bs pc .baload 1 pc') (k : own_Wins p e below A T (mkF m pc' L (v :: st))) : own_Wins p e below A T (mkF m pc L (.int j :: .ref a :: st)) := by
  obtain ⟨locs, Y, eT, N, hn, hx, hby, hml, hown, hZ, hlk⟩ := X
  obtain ⟨d, rfl⟩ := d
  obtain ⟨cl, Ar, q, r⟩ := V
  have hk : i < vs.length := (List.getElem?_eq_some_iff.mp hv).1
  exact own_by (fun t kk => Y.baloadBytes hx (j := j) (v := v) (by rw [eT]; exact Ar.1) (State.isArrayOf_alike hZ.alike Ar.2.1) Ar.2.2 (own_in hj q hk) (by rw [q, hj.2]; simpa using hv) (g := mkF m pc L (.int j :: .ref a :: st)) rfl rfl (hb hby d) t kk) k
theorem own_alen (X : own_St p l e R s m args below meth c Z n0 bs maxL own T h cells slots) {a : Addr} {ty : FieldType} {vs : List Value} (V : own_AL Z h a ty vs) (d : own_ix bs pc .arraylength 1 pc') (k : own_Wins p e below A T (mkF m pc' L (.int (Int32.ofNat vs.length) :: st))) : own_Wins p e below A T (mkF m pc L (.ref a :: st)) := by
  obtain ⟨locs, Y, eT, N, hn, hx, hby, hml, hown, hZ, hlk⟩ := X
  obtain ⟨d, rfl⟩ := d
  obtain ⟨cl, Ar, q, r⟩ := V
  exact own_by (fun t kk => Y.arraylength hx (by rw [eT]; exact Ar.1) (State.isArrayOf_alike hZ.alike Ar.2.1) (g := mkF m pc L (.ref a :: st)) rfl rfl (hb hby d) t (by rw [own_len q]; exact kk)) k
theorem own_iastore (X : own_St p l e R s m args below meth c Z n0 bs maxL own T h cells slots) {a : Addr} {vs : List Value} (V : own_AL Z h a .int vs) (ga : n0 ≤ a) {j : Int32} {x : Int32} {i : Nat} (hj : own_idx j i) (hk : i < vs.length) (d : own_ix bs pc .iastore 1 pc') (k : ∀ T' h', own_St p l e R s m args below meth c Z n0 bs maxL own T' h' cells slots → Wr h h' a i (.int x) → own_AL Z h' a .int (vs.set i (.int x)) → own_Wins p e below A T' (mkF m pc' L st)) : own_Wins p e below A T (mkF m pc L (.int x :: .int j :: .ref a :: st)) := by
  obtain ⟨locs, Y, eT, N, hn, hx, hby, hml, hown, hZ, hlk⟩ := X
  obtain ⟨d, rfl⟩ := d
  have V0 := V
  obtain ⟨cl, Ar, q, r⟩ := V
  obtain ⟨T', h', Y', e', W', st'⟩ := stI Y hx hZ eT Ar (j := j) (x := x) (own_in hj q hk) (g := mkF m pc L (.int x :: .int j :: .ref a :: st)) rfl rfl (hb hby d)
  have W2 : Wr h h' a i (.int x) := hj.2 ▸ W'
  exact own_by st' (k T' h' ⟨_, Y', e', Fr.snoc Y' N ga, W'.size ▸ hn, hx, hby, hml, hown, hZ, hlk⟩ W2 (V0.same W2))
theorem own_lastore (X : own_St p l e R s m args below meth c Z n0 bs maxL own T h cells slots) {a : Addr} {vs : List Value} (V : own_AL Z h a .long vs) (ga : n0 ≤ a) {j : Int32} {x : Int64} {i : Nat} (hj : own_idx j i) (hk : i < vs.length) (d : own_ix bs pc .lastore 1 pc') (k : ∀ T' h', own_St p l e R s m args below meth c Z n0 bs maxL own T' h' cells slots → Wr h h' a i (.long x) → own_AL Z h' a .long (vs.set i (.long x)) → own_Wins p e below A T' (mkF m pc' L st)) : own_Wins p e below A T (mkF m pc L (.long x :: .int j :: .ref a :: st)) := by
  obtain ⟨locs, Y, eT, N, hn, hx, hby, hml, hown, hZ, hlk⟩ := X
  obtain ⟨d, rfl⟩ := d
  have V0 := V
  obtain ⟨cl, Ar, q, r⟩ := V
  obtain ⟨T', h', Y', e', W', st'⟩ := stJ Y hx hZ eT Ar (j := j) (x := x) (own_in hj q hk) (g := mkF m pc L (.long x :: .int j :: .ref a :: st)) rfl rfl (hb hby d)
  have W2 : Wr h h' a i (.long x) := hj.2 ▸ W'
  exact own_by st' (k T' h' ⟨_, Y', e', Fr.snoc Y' N ga, W'.size ▸ hn, hx, hby, hml, hown, hZ, hlk⟩ W2 (V0.same W2))
theorem own_bastore (X : own_St p l e R s m args below meth c Z n0 bs maxL own T h cells slots) {a : Addr} {vs : List Value} (V : own_AL Z h a .byte vs) (ga : n0 ≤ a) {j : Int32} {x : Int32} {i : Nat} (hj : own_idx j i) (hk : i < vs.length) (d : own_ix bs pc .bastore 1 pc') (k : ∀ T' h', own_St p l e R s m args below meth c Z n0 bs maxL own T' h' cells slots → Wr h h' a i (.int x.toInt8.toInt32) → own_AL Z h' a .byte (vs.set i (.int x.toInt8.toInt32)) → own_Wins p e below A T' (mkF m pc' L st)) : own_Wins p e below A T (mkF m pc L (.int x :: .int j :: .ref a :: st)) := by
  obtain ⟨locs, Y, eT, N, hn, hx, hby, hml, hown, hZ, hlk⟩ := X
  obtain ⟨d, rfl⟩ := d
  have V0 := V
  obtain ⟨cl, Ar, q, r⟩ := V
  obtain ⟨T', h', Y', e', W', st'⟩ := stB Y hx hZ eT Ar (j := j) (x := x) (own_in hj q hk) (g := mkF m pc L (.int x :: .int j :: .ref a :: st)) rfl rfl (hb hby d)
  have W2 : Wr h h' a i (.int x.toInt8.toInt32) := hj.2 ▸ W'
  exact own_by st' (k T' h' ⟨_, Y', e', Fr.snoc Y' N ga, W'.size ▸ hn, hx, hby, hml, hown, hZ, hlk⟩ W2 (V0.same W2))
theorem own_newarr (X : own_St p l e R s m args below meth c Z n0 bs maxL own T h cells slots) {aty : ArrayType} (w : (Jvm.Cond.arrayClass (newarray.typeOf aty)).before a0 Z = true) (d : own_ix bs pc (.newarray aty) 2 pc') {z : Int32} {n : Nat} (hz : own_idx z n) (cap : Nat) (hcap : n ≤ cap) (hb1 : cap * 8 ≤ 536870912) (hc : cells + 1 ≤ R.cells) (hl : slots + cap ≤ R.slots)
    (k : ∀ T' h' a, own_St p l e R s m args below meth c Z n0 bs maxL own T' h' (cells + 1) (slots + cap) → Ext h h' → a = h.size → n0 ≤ a → own_AL Z h' a (newarray.typeOf aty) (List.replicate n (defaultValue (newarray.typeOf aty))) → own_Wins p e below A T' (mkF m pc' L (.ref a :: st))) : own_Wins p e below A T (mkF m pc L (.int z :: st)) := by
  obtain ⟨locs, Y, eT, N, hn, hx, hby, hml, hown, hZ, hlk⟩ := X
  obtain ⟨d, rfl⟩ := d
  obtain ⟨T', h', cA, Y', e', E', A', st'⟩ := newP Y hx hZ w eT (g := mkF m pc L (.int z :: st)) rfl (hb hby d) rfl hz.1 (cap := cap) (by rw [hz.2]; exact hcap) hb1 hc hl
  exact own_by st' (k T' h' _ ⟨_, Y', e', N, Nat.le_trans hn E'.1, hx, hby, hml, hown, hZ, hlk⟩ E' rfl hn (own_AL.new A' hz.2 (by omega)))
def own_up (g : Nat → Value) (k : Nat) (v : Value) : Nat → Value := fun j => if j = k then v else g j
theorem own_up_same (g : Nat → Value) (k : Nat) (v : Value) : own_up g k v k = v := if_pos rfl
theorem own_up_ne (g : Nat → Value) {k j : Nat} (v : Value) (h : j ≠ k) : own_up g k v j = g j := if_neg h
def own_AF (Z : State) (h : Heap) (a : Addr) (ty : FieldType) (n : Nat) (g : Nat → Value) : Prop := ∃ vs, own_AL Z h a ty vs ∧ vs.length = n ∧ ∀ j, j < n → vs[j]? = some (g j)
theorem own_AF.lt {a : Addr} {ty : FieldType} {n : Nat} {g : Nat → Value} (V : own_AF Z h a ty n g) : a < h.size := by obtain ⟨vs, V, -⟩ := V; exact V.lt
theorem own_AF.ext {a : Addr} {ty : FieldType} {n : Nat} {g : Nat → Value} (V : own_AF Z h a ty n g) (E : Ext h h') : own_AF Z h' a ty n g := by obtain ⟨vs, V, r⟩ := V; exact ⟨vs, V.ext E, r⟩
theorem own_AF.other {a b : Addr} {sl : Nat} {v : Value} {ty : FieldType} {n : Nat} {g : Nat → Value} (V : own_AF Z h b ty n g) (W : Wr h h' a sl v) (q : b ≠ a) : own_AF Z h' b ty n g := by obtain ⟨vs, V, r⟩ := V; exact ⟨vs, V.other W q, r⟩
theorem own_AF.keep {a : Addr} {ws : List Addr} {ty : FieldType} {n : Nat} {g : Nat → Value} (V : own_AF Z h a ty n g) (K : Keep h h' ws) (q : a ∉ ws) : own_AF Z h' a ty n g := by obtain ⟨vs, V, r⟩ := V; exact ⟨vs, V.keep K q, r⟩
theorem own_AF.same {a : Addr} {i : Nat} {v : Value} {ty : FieldType} {n : Nat} {g : Nat → Value} (V : own_AF Z h a ty n g) (W : Wr h h' a i v) : own_AF Z h' a ty n (own_up g i v) := by
  obtain ⟨vs, V, hn, hg⟩ := V
  refine ⟨_, V.same W, by simpa using hn, fun j hj => ?_⟩
  by_cases hij : j = i
  · subst hij; rw [own_up_same, List.getElem?_set_self (by omega)]
  · rw [own_up_ne _ _ hij, List.getElem?_set_ne (Ne.symm hij)]; exact hg j hj
theorem own_AF.len {a : Addr} {ty : FieldType} {n : Nat} {g : Nat → Value} (V : own_AF Z h a ty n g) : n < 2147483648 := by obtain ⟨vs, ⟨c, -, -, q⟩, hn, -⟩ := V; omega
theorem own_AL.fn {a : Addr} {ty : FieldType} {vs : List Value} (V : own_AL Z h a ty vs) (n : Nat) (hn : vs.length = n) (d : Value) : own_AF Z h a ty n (fun j => vs.getD j d) := ⟨vs, V, hn, fun j hj => by simp only [List.getD_eq_getElem?_getD]; rw [List.getElem?_eq_getElem (by omega)]; rfl⟩
theorem own_AF.to {a : Addr} {ty : FieldType} {n : Nat} {g g' : Nat → Value} (V : own_AF Z h a ty n g) (e : ∀ j, j < n → g j = g' j) : own_AF Z h a ty n g' := by obtain ⟨vs, V, hn, hg⟩ := V; exact ⟨vs, V, hn, fun j hj => by rw [hg j hj, e j hj]⟩
theorem own_ialoadF (X : own_St p l e R s m args below meth c Z n0 bs maxL own T h cells slots) {a : Addr} {n : Nat} {g : Nat → Value} (V : own_AF Z h a .int n g) {j : Int32} {i : Nat} {v : Value} (hj : own_idx j i) (hi : i < n) (hv : g i = v) (d : own_ix bs pc .iaload 1 pc') (k : own_Wins p e below A T (mkF m pc' L (v :: st))) : own_Wins p e below A T (mkF m pc L (.int j :: .ref a :: st)) := by
  obtain ⟨vs, V, hn, hg⟩ := V
  exact own_iaload X V hj (by rw [hg i hi, hv]) d k
theorem own_laloadF (X : own_St p l e R s m args below meth c Z n0 bs maxL own T h cells slots) {a : Addr} {n : Nat} {g : Nat → Value} (V : own_AF Z h a .long n g) {j : Int32} {i : Nat} {v : Value} (hj : own_idx j i) (hi : i < n) (hv : g i = v) (d : own_ix bs pc .laload 1 pc') (k : own_Wins p e below A T (mkF m pc' L (v :: st))) : own_Wins p e below A T (mkF m pc L (.int j :: .ref a :: st)) := by
  obtain ⟨vs, V, hn, hg⟩ := V
  exact own_laload X V hj (by rw [hg i hi, hv]) d k
theorem own_baloadF (X : own_St p l e R s m args below meth c Z n0 bs maxL own T h cells slots) {a : Addr} {n : Nat} {g : Nat → Value} (V : own_AF Z h a .byte n g) {j : Int32} {i : Nat} {v : Value} (hj : own_idx j i) (hi : i < n) (hv : g i = v) (d : own_ix bs pc .baload 1 pc') (k : own_Wins p e below A T (mkF m pc' L (v :: st))) : own_Wins p e below A T (mkF m pc L (.int j :: .ref a :: st)) := by
  obtain ⟨vs, V, hn, hg⟩ := V
  exact own_baload X V hj (by rw [hg i hi, hv]) d k
theorem own_alenF (X : own_St p l e R s m args below meth c Z n0 bs maxL own T h cells slots) {a : Addr} {ty : FieldType} {n : Nat} {g : Nat → Value} (V : own_AF Z h a ty n g) (d : own_ix bs pc .arraylength 1 pc') (k : own_Wins p e below A T (mkF m pc' L (.int (Int32.ofNat n) :: st))) : own_Wins p e below A T (mkF m pc L (.ref a :: st)) := by
  obtain ⟨vs, V, rfl, hg⟩ := V
  exact own_alen X V d k
theorem own_iastoreF (X : own_St p l e R s m args below meth c Z n0 bs maxL own T h cells slots) {a : Addr} {n : Nat} {g : Nat → Value} (V : own_AF Z h a .int n g) (ga : n0 ≤ a) {j : Int32} {x : Int32} {i : Nat} (hj : own_idx j i) (hi : i < n) (d : own_ix bs pc .iastore 1 pc') (k : ∀ T' h', own_St p l e R s m args below meth c Z n0 bs maxL own T' h' cells slots → Wr h h' a i (.int x) → own_AF Z h' a .int n (own_up g i (.int x)) → own_Wins p e below A T' (mkF m pc' L st)) : own_Wins p e below A T (mkF m pc L (.int x :: .int j :: .ref a :: st)) := by
  have V0 := V
  obtain ⟨vs, V, hn, hg⟩ := V
  exact own_iastore X V ga hj (by omega) d (fun T' h' X' W' _ => k T' h' X' W' (V0.same W'))
theorem own_lastoreF (X : own_St p l e R s m args below meth c Z n0 bs maxL own T h cells slots) {a : Addr} {n : Nat} {g : Nat → Value} (V : own_AF Z h a .long n g) (ga : n0 ≤ a) {j : Int32} {x : Int64} {i : Nat} (hj : own_idx j i) (hi : i < n) (d : own_ix bs pc .lastore 1 pc') (k : ∀ T' h', own_St p l e R s m args below meth c Z n0 bs maxL own T' h' cells slots → Wr h h' a i (.long x) → own_AF Z h' a .long n (own_up g i (.long x)) → own_Wins p e below A T' (mkF m pc' L st)) : own_Wins p e below A T (mkF m pc L (.long x :: .int j :: .ref a :: st)) := by
  have V0 := V
  obtain ⟨vs, V, hn, hg⟩ := V
  exact own_lastore X V ga hj (by omega) d (fun T' h' X' W' _ => k T' h' X' W' (V0.same W'))
theorem own_bastoreF (X : own_St p l e R s m args below meth c Z n0 bs maxL own T h cells slots) {a : Addr} {n : Nat} {g : Nat → Value} (V : own_AF Z h a .byte n g) (ga : n0 ≤ a) {j : Int32} {x : Int32} {i : Nat} (hj : own_idx j i) (hi : i < n) (d : own_ix bs pc .bastore 1 pc') (k : ∀ T' h', own_St p l e R s m args below meth c Z n0 bs maxL own T' h' cells slots → Wr h h' a i (.int x.toInt8.toInt32) → own_AF Z h' a .byte n (own_up g i (.int x.toInt8.toInt32)) → own_Wins p e below A T' (mkF m pc' L st)) : own_Wins p e below A T (mkF m pc L (.int x :: .int j :: .ref a :: st)) := by
  have V0 := V
  obtain ⟨vs, V, hn, hg⟩ := V
  exact own_bastore X V ga hj (by omega) d (fun T' h' X' W' _ => k T' h' X' W' (V0.same W'))
/-- an object of a class with these fields (names and descriptors), holding these values -/
def own_Obj (Z : State) (h : Heap) (a : Addr) (C : String) (ns : List (String × String)) (vs : List Value) : Prop := Exa Z h a C ∧ ns.length = vs.length ∧ ∀ (i : Nat) (n d : String) (v : Value), ns[i]? = some (n, d) → vs[i]? = some v → Fld Z h a C n d v
theorem own_Obj.lt {a : Addr} {C : String} {ns : List (String × String)} {vs : List Value} (O : own_Obj Z h a C ns vs) : a < h.size := O.1.lt
theorem own_Obj.ext {a : Addr} {C : String} {ns : List (String × String)} {vs : List Value} (O : own_Obj Z h a C ns vs) (E : Ext h h') : own_Obj Z h' a C ns vs := ⟨O.1.ext E, O.2.1, fun i n d v h1 h2 => (O.2.2 i n d v h1 h2).ext E⟩
theorem own_Obj.other {a b : Addr} {sl : Nat} {w : Value} {C : String} {ns : List (String × String)} {vs : List Value} (O : own_Obj Z h b C ns vs) (W : Wr h h' a sl w) (q : b ≠ a) : own_Obj Z h' b C ns vs := ⟨O.1.wr W, O.2.1, fun i n d v h1 h2 => (O.2.2 i n d v h1 h2).other W (Or.inl q)⟩
theorem own_Obj.keep {a : Addr} {ws : List Addr} {C : String} {ns : List (String × String)} {vs : List Value} (O : own_Obj Z h a C ns vs) (K : Keep h h' ws) (q : a ∉ ws) : own_Obj Z h' a C ns vs := ⟨O.1.keep K, O.2.1, fun i n d v h1 h2 => (O.2.2 i n d v h1 h2).keep K q⟩
def own_Laid (Z : State) (a0 : Array Value) (C : String) (ns : List (String × String)) : Prop := (∀ q ∈ ns, Laid Z a0 C C q.1 q.2 ∧ ∃ t, parseFieldDescriptor q.2 = some t) ∧ (ns.map (·.1)).Nodup
theorem own_Obj.put {a : Addr} {C n d : String} {ns : List (String × String)} {vs : List Value} {i : Nat} {v : Value} (O : own_Obj Z h a C ns vs) (La : own_Laid Z a0 C ns) (hi : ns[i]? = some (n, d)) (W : Wr h h' a (Jvm.RoadKit.slotOf Z C n d) v) : own_Obj Z h' a C ns (vs.set i v) := by
  refine ⟨O.1.wr W, by simpa using O.2.1, fun j n' d' v' h1 h2 => ?_⟩
  by_cases hij : i = j
  · subst hij
    rw [hi] at h1
    obtain ⟨rfl, rfl⟩ : n = n' ∧ d = d' := by simpa using h1
    have hlt : i < vs.length := by rw [← O.2.1]; exact (List.getElem?_eq_some_iff.mp hi).1
    rw [List.getElem?_set_self hlt] at h2
    cases h2
    exact (O.2.2 i n d vs[i] hi (List.getElem?_eq_getElem hlt)).same W
  · rw [List.getElem?_set_ne hij] at h2
    refine (O.2.2 j n' d' v' h1 h2).other W (Or.inr ?_)
    obtain ⟨L1, t1, e1⟩ := La.1 _ (List.mem_of_getElem? hi)
    obtain ⟨L2, t2, e2⟩ := La.1 _ (List.mem_of_getElem? h1)
    refine slot_ne L2 L1 ?_ e2 e1
    intro hnn
    obtain ⟨li, ei⟩ := List.getElem?_eq_some_iff.mp hi
    obtain ⟨lj, ej⟩ := List.getElem?_eq_some_iff.mp h1
    have hp := List.pairwise_iff_getElem.mp La.2
    rcases Nat.lt_or_gt_of_ne hij with hlt | hlt
    · exact hp i j (by simpa using li) (by simpa using lj) hlt (by simp [ei, ej, hnn])
    · exact hp j i (by simpa using lj) (by simpa using li) hlt (by simp [ei, ej, hnn])
theorem own_getF (X : own_St p l e R s m args below meth c Z n0 bs maxL own T h cells slots) {i k : Nat} {a : Addr} {C n dd host : String} {ns : List (String × String)} {vs : List Value} {v : Value} (w : (Jvm.Cond.fieldLink own i C n dd).before a0 Z = true) (O : own_Obj Z h a C ns vs) (hi : ns[k]? = some (n, dd)) (hv : vs[k]? = some v) (d : own_ix bs pc (.getfield i) 3 pc')
    (kk : ∀ T', own_St p l e R s m args below meth c Z n0 bs maxL own T' h cells slots → own_Wins p e below A T' (mkF m pc' L (v :: st))) : own_Wins p e below A T (mkF m pc L (.ref a :: st)) := by
  obtain ⟨locs, Y, eT, N, hn, hx, hby, hml, hown, hZ, hlk⟩ := X
  obtain ⟨d, rfl⟩ := d
  obtain ⟨T', Y', e', st'⟩ := getF Y hx hZ hown (host := "") (Or.inl w) Via.refl eT (O.2.2 k n dd v hi hv) (g := mkF m pc L (.ref a :: st)) rfl rfl (hb hby d)
  exact own_by st' (kk T' ⟨_, Y', e', N, hn, hx, hby, hml, hown, hZ, hlk⟩)
theorem own_putF (X : own_St p l e R s m args below meth c Z n0 bs maxL own T h cells slots) {i k kc : Nat} {a : Addr} {C n dd : String} {ns : List (String × String)} {vs : List Value} {v v' : Value} {ty : FieldType} (w : (Jvm.Cond.fieldLink own i C n dd).before a0 Z = true) (O : own_Obj Z h a C ns vs) (La : own_Laid Z a0 C ns) (hi : ns[k]? = some (n, dd))
    (Ly : (Jvm.Cond.lays C C n dd).before a0 Z = true ∨ ((Jvm.Cond.laysFinal C C n dd).before a0 Z = true ∧ own = C ∧ meth.name = "<init>")) (wi : (Jvm.Cond.instantiable C kc).before a0 Z = true) (hty : parseFieldDescriptor dd = some ty) (hnr : narrow ty v = v') (hf : fits ty v' = true) (ga : n0 ≤ a) (d : own_ix bs pc (.putfield i) 3 pc')
    (kk : ∀ T' h', own_St p l e R s m args below meth c Z n0 bs maxL own T' h' cells slots → Wr h h' a (Jvm.RoadKit.slotOf Z C n dd) v' → own_Obj Z h' a C ns (vs.set k v') → own_Wins p e below A T' (mkF m pc' L st)) : own_Wins p e below A T (mkF m pc L (v :: .ref a :: st)) := by
  obtain ⟨locs, Y, eT, N, hn, hx, hby, hml, hown, hZ, hlk⟩ := X
  obtain ⟨d, rfl⟩ := d
  have hlt : k < vs.length := by rw [← O.2.1]; exact (List.getElem?_eq_some_iff.mp hi).1
  obtain ⟨T', h', Y', e', W', st'⟩ := putFN Y hx hZ hown w Via.refl eT (O.2.2 k n dd vs[k] hi (List.getElem?_eq_getElem hlt)) O.1 Ly wi hty hnr hf (g := mkF m pc L (v :: .ref a :: st)) rfl rfl (hb hby d)
  exact own_by st' (kk T' h' ⟨_, Y', e', Fr.snoc Y' N ga, W'.size ▸ hn, hx, hby, hml, hown, hZ, hlk⟩ W' (O.put La hi W'))
theorem own_new (X : own_St p l e R s m args below meth c Z n0 bs maxL own T h cells slots) {i nn : Nat} {C : String} {ns : List (String × String)} (w1 : (Jvm.Cond.classLink own i C).before a0 Z = true) (w2 : (Jvm.Cond.instantiable C nn).before a0 Z = true) (w3 : (Jvm.Cond.initialized C).before a0 Z = true) (La : own_Laid Z a0 C ns) (vs : List Value) (hvs : vs = ns.map fun q => match parseFieldDescriptor q.2 with | some t => defaultValue t | none => .null) (d : own_ix bs pc (.new i) 3 pc') (hc : cells + 1 ≤ R.cells) (hl : slots + nn ≤ R.slots)
    (kk : ∀ T' h' a, own_St p l e R s m args below meth c Z n0 bs maxL own T' h' (cells + 1) (slots + nn) → Ext h h' → a = h.size → n0 ≤ a → own_Obj Z h' a C ns vs → own_Wins p e below A T' (mkF m pc' L (.ref a :: st))) : own_Wins p e below A T (mkF m pc L st) := by
  obtain ⟨locs, Y, eT, N, hn, hx, hby, hml, hown, hZ, hlk⟩ := X
  obtain ⟨d, rfl⟩ := d
  obtain ⟨T', h', Y', e', E', A', D', -, st'⟩ := newO Y hx hZ hown w1 w2 w3 eT (g := mkF m pc L st) rfl (hb hby d) hc hl
  refine own_by st' (kk T' h' _ ⟨_, Y', e', N, Nat.le_trans hn E'.1, hx, hby, hml, hown, hZ, hlk⟩ E' rfl hn ⟨A', by simp [hvs], fun j n dd v h1 h2 => ?_⟩)
  obtain ⟨Lq, t, et⟩ := La.1 _ (List.mem_of_getElem? h1)
  rw [hvs, List.getElem?_map, h1] at h2
  simp only [Option.map_some, et, Option.some.injEq] at h2
  subst h2
  exact D' Lq et
theorem own_initO (X : own_St p l e R s m args below meth c Z n0 bs maxL own T h cells slots) {i : Nat} {a : Addr} (w1 : (Jvm.Cond.methodLink own i Lib.objectInit).before a0 Z = true) (w2 : (Jvm.Cond.instanceMethod Lib.objectInit).before a0 Z = true) (w3 : (Jvm.Cond.code Lib.objectInit ⟨#[0xb1]⟩ 1 none).before a0 Z = true) (d : own_ix bs pc (.invokespecial i) 3 pc') (hsz : L.size = maxL) (hf : 1 ≤ R.frames) (Wt : Nat) (hW : 2 * 0 + (st.map fun v => v.category).sum ≤ Wt) (hl : Wt + 12 ≤ R.locals)
    (kk : ∀ T', own_St p l e R s m args below meth c Z n0 bs maxL own T' h cells slots → own_Wins p e below A T' (mkF m pc' L st)) : own_Wins p e below A T (mkF m pc L (.ref a :: st)) := by
  obtain ⟨locs, Y, eT, N, hn, hx, hby, hml, hown, hZ, hlk⟩ := X
  obtain ⟨d, rfl⟩ := d
  obtain ⟨T', Y', e', st'⟩ := initO Y hx hZ hown w1 w2 w3 eT (g := mkF m pc L (.ref a :: st)) rfl (by rw [hml]; exact hsz) rfl (hb hby d) hf (W := Wt) hW hl
  exact own_by st' (kk T' ⟨_, Y', e', N, hn, hx, hby, hml, hown, hZ, hlk⟩)
/-- what a body does, called with these arguments over this heap: it returns v and leaves a heap with P v h' -/
def own_Con (l : Launch) (Z : State) (n0 : Nat) (y : MethodName) (bs : ByteArray) (maxL : Nat) (ret : Option FieldType) (rm : Room) (ws : List Jvm.Cond) (av : Array Value) (h0 : Heap) (P : Option Value → Heap → Prop) : Prop :=
  MetFree l y (head1 (Jvm.Cond.code y bs maxL ret :: ws) rm) (fun a U => a = av ∧ Z.Warmed39 U.vm ∧ U.heap = h0) (fun _ _ _ _ _ => True) (fun _ U o U' => ∃ v L, o = .returned v ∧ (Fr n0 L ∧ n0 ≤ U'.heap.size ∧ P v U'.heap) ∧ FrameEnd U o U' L rm.cells rm.slots)
def own_G (s : State) (below : List Frame) (n0 : Nat) (rm : Room) (P : Option Value → Heap → Prop) (U : State) (o : Outcome) : Prop :=
  U.status = .running ∧ Ended U below o ∧ ∃ v L, o = .returned v ∧ (Fr n0 L ∧ n0 ≤ U.heap.size ∧ P v U.heap) ∧ FrameEnd s o U L rm.cells rm.slots
theorem own_enter {l : Launch} {Z : State} {n0 : Nat} {y : MethodName} {bs : ByteArray} {maxL : Nat} {ret : Option FieldType} {rm : Room} {ws : List Jvm.Cond} {av : Array Value} {h0 : Heap} {P : Option Value → Heap → Prop} (hpl : plainFor y = true) (Z0 : n0 ≤ h0.size) (L0 : Array Slot) (ef : ∀ m, entryFrame m av maxL = mkF m 0 L0 [])
    (body : ∀ (p : Program) (e : Env) (s : State) (m : MethodId) (below : List Frame) (meth : Method) (c : Code) (T : State) (A : State → Outcome → Prop), own_St p l e rm s m av below meth c Z n0 bs maxL y.cls T h0 0 0 → meth.sig.returnType = ret → meth.name = y.name → (∀ U o, own_G s below n0 rm P U o → A U o) → own_Wins p e below A T (mkF m 0 L0 [])) :
    own_Con l Z n0 y bs maxL ret rm ws av h0 P := by
  refine MetFree.of_bodySF hpl hisR ?_
  intro p e s m args below meth c s₁ Bd hml0 hP hK
  obtain ⟨rfl, hZ, hh⟩ := hP
  have hnm := (name_of_methodNamed Bd.named Bd.method).1
  have X0 : own_St p l e rm s m _ below meth c Z n0 bs maxL y.cls s₁ h0 0 0 := ⟨[], Stand.of_body Bd, by rw [← hh, Bd.state]; rfl, Fr.nil n0, Z0, Bd.exec, Bd.bytes, hml0, findClass_of_methodNamed Bd.named, hZ, BodyLoose.notSynchronized Bd⟩
  obtain ⟨U, o, h1, h2⟩ := body p e s m below meth c s₁ (own_G s below n0 rm P) X0 Bd.returns hnm (fun _ _ g => g)
  exact ⟨U, o, castTop (ef m) h1, h2⟩
theorem own_ret0 (X : own_St p l e R s m args below meth c Z n0 bs maxL own T h cells slots) (hret : meth.sig.returnType = none) {P : Option Value → Heap → Prop} (fin : ∀ U o, own_G s below n0 R P U o → A U o) (hc : cells ≤ R.cells) (hs : slots ≤ R.slots) (hP : P none h) (d : own_ix bs pc .return_ 1 pc') : own_Wins p e below A T (mkF m pc L []) := by
  obtain ⟨locs, Y, eT, N, hn, hx, hby, hml, hown, hZ, hlk⟩ := X
  obtain ⟨fs, hr, hrun, hended, hW, hsame⟩ := Y.leave (v := none) (fun _ => rfl) hlk
  have eF : (T.setFrames fs).heap = h := eT
  exact ⟨_, _, Y.returnOut hx hret (hb hby d.1) hr, fin _ _ ⟨hrun, hended, _, _, rfl, ⟨N, by rw [eF]; exact hn, by rw [eF]; exact hP⟩, ⟨_, rfl⟩, hW, hsame.mono hc hs⟩⟩
theorem own_retJ (X : own_St p l e R s m args below meth c Z n0 bs maxL own T h cells slots) {z : Int64} (hret : meth.sig.returnType = some .long) {P : Option Value → Heap → Prop} (fin : ∀ U o, own_G s below n0 R P U o → A U o) (hc : cells ≤ R.cells) (hs : slots ≤ R.slots) (hP : P (some (.long z)) h) (d : own_ix bs pc .lreturn 1 pc') : own_Wins p e below A T (mkF m pc L (.long z :: st)) := by
  obtain ⟨locs, Y, eT, N, hn, hx, hby, hml, hown, hZ, hlk⟩ := X
  obtain ⟨fs, hr, hrun, hended, hW, hsame⟩ := Y.leave (v := (some (.long z))) (fun q => by rw [hret] at q; cases q) hlk
  have eF : (T.setFrames fs).heap = h := eT
  exact ⟨_, _, retOut Y hx hret rfl (Or.inr (Or.inl ⟨rfl, rfl, z, rfl⟩)) (hb hby d.1) hr, fin _ _ ⟨hrun, hended, _, _, rfl, ⟨N, by rw [eF]; exact hn, by rw [eF]; exact hP⟩, ⟨_, rfl⟩, hW, hsame.mono hc hs⟩⟩
theorem own_retI (X : own_St p l e R s m args below meth c Z n0 bs maxL own T h cells slots) {z : Int32} (hret : meth.sig.returnType = some .int) {P : Option Value → Heap → Prop} (fin : ∀ U o, own_G s below n0 R P U o → A U o) (hc : cells ≤ R.cells) (hs : slots ≤ R.slots) (hP : P (some (.int z)) h) (d : own_ix bs pc .ireturn 1 pc') : own_Wins p e below A T (mkF m pc L (.int z :: st)) := by
  obtain ⟨locs, Y, eT, N, hn, hx, hby, hml, hown, hZ, hlk⟩ := X
  obtain ⟨fs, hr, hrun, hended, hW, hsame⟩ := Y.leave (v := (some (.int z))) (fun q => by rw [hret] at q; cases q) hlk
  have eF : (T.setFrames fs).heap = h := eT
  exact ⟨_, _, retOut Y hx hret rfl (Or.inl ⟨rfl, Or.inl rfl, z, rfl⟩) (hb hby d.1) hr, fin _ _ ⟨hrun, hended, _, _, rfl, ⟨N, by rw [eF]; exact hn, by rw [eF]; exact hP⟩, ⟨_, rfl⟩, hW, hsame.mono hc hs⟩⟩
theorem own_retZ (X : own_St p l e R s m args below meth c Z n0 bs maxL own T h cells slots) {z : Int32} (hret : meth.sig.returnType = some .boolean) (hz : narrow .boolean (.int z) = .int z) {P : Option Value → Heap → Prop} (fin : ∀ U o, own_G s below n0 R P U o → A U o) (hc : cells ≤ R.cells) (hs : slots ≤ R.slots) (hP : P (some (.int z)) h) (d : own_ix bs pc .ireturn 1 pc') : own_Wins p e below A T (mkF m pc L (.int z :: st)) := by
  obtain ⟨locs, Y, eT, N, hn, hx, hby, hml, hown, hZ, hlk⟩ := X
  obtain ⟨fs, hr, hrun, hended, hW, hsame⟩ := Y.leave (v := (some (.int z))) (fun q => by rw [hret] at q; cases q) hlk
  have eF : (T.setFrames fs).heap = h := eT
  exact ⟨_, _, retOut Y hx hret hz (Or.inl ⟨rfl, Or.inr (Or.inl rfl), z, rfl⟩) (hb hby d.1) hr, fin _ _ ⟨hrun, hended, _, _, rfl, ⟨N, by rw [eF]; exact hn, by rw [eF]; exact hP⟩, ⟨_, rfl⟩, hW, hsame.mono hc hs⟩⟩
theorem own_retB (X : own_St p l e R s m args below meth c Z n0 bs maxL own T h cells slots) {z : Int32} (hret : meth.sig.returnType = some .byte) (hz : narrow .byte (.int z) = .int z) {P : Option Value → Heap → Prop} (fin : ∀ U o, own_G s below n0 R P U o → A U o) (hc : cells ≤ R.cells) (hs : slots ≤ R.slots) (hP : P (some (.int z)) h) (d : own_ix bs pc .ireturn 1 pc') : own_Wins p e below A T (mkF m pc L (.int z :: st)) := by
  obtain ⟨locs, Y, eT, N, hn, hx, hby, hml, hown, hZ, hlk⟩ := X
  obtain ⟨fs, hr, hrun, hended, hW, hsame⟩ := Y.leave (v := (some (.int z))) (fun q => by rw [hret] at q; cases q) hlk
  have eF : (T.setFrames fs).heap = h := eT
  exact ⟨_, _, retOut Y hx hret hz (Or.inl ⟨rfl, Or.inr (Or.inr (Or.inl rfl)), z, rfl⟩) (hb hby d.1) hr, fin _ _ ⟨hrun, hended, _, _, rfl, ⟨N, by rw [eF]; exact hn, by rw [eF]; exact hP⟩, ⟨_, rfl⟩, hW, hsame.mono hc hs⟩⟩
theorem own_retA (X : own_St p l e R s m args below meth c Z n0 bs maxL own T h cells slots) {z : Addr} {t : FieldType} (hret : meth.sig.returnType = some t) (ht : t.isReference = true) (hn' : narrow t (.ref z) = .ref z) {P : Option Value → Heap → Prop} (fin : ∀ U o, own_G s below n0 R P U o → A U o) (hc : cells ≤ R.cells) (hs : slots ≤ R.slots) (hP : P (some (.ref z)) h) (d : own_ix bs pc .areturn 1 pc') : own_Wins p e below A T (mkF m pc L (.ref z :: st)) := by
  obtain ⟨locs, Y, eT, N, hn, hx, hby, hml, hown, hZ, hlk⟩ := X
  obtain ⟨fs, hr, hrun, hended, hW, hsame⟩ := Y.leave (v := (some (.ref z))) (fun q => by rw [hret] at q; cases q) hlk
  have eF : (T.setFrames fs).heap = h := eT
  exact ⟨_, _, retOut Y hx hret hn' (Or.inr (Or.inr (Or.inr (Or.inr ⟨rfl, ht, rfl⟩)))) (hb hby d.1) hr, fin _ _ ⟨hrun, hended, _, _, rfl, ⟨N, by rw [eF]; exact hn, by rw [eF]; exact hP⟩, ⟨_, rfl⟩, hW, hsame.mono hc hs⟩⟩
theorem own_callS (X : own_St p l e R s m args below meth c Z n0 bs maxL own T h cells slots) {y : MethodName} {bs' : ByteArray} {maxL' : Nat} {ret' : Option FieldType} {rm : Room} {P : Option Value → Heap → Prop} {i : Nat} (argsL rest : List Value) {ps : List FieldType} {r : Option FieldType} (Wt : Nat) (hstk : st = argsL.reverse ++ rest) (w1 : (Jvm.Cond.methodLink own i y).before a0 Z = true) (w2 : (Jvm.Cond.static y).before a0 Z = true) (w3 : (Jvm.Cond.initialized y.cls).before a0 Z = true) (w4 : (Jvm.Cond.code y bs' maxL' ret').before a0 Z = true) (hy : y.cls ≠ "java/lang/invoke/MethodHandle" ∧ y.cls ≠ "java/lang/invoke/VarHandle")
    (C : own_Con l Z n0 y bs' maxL' ret' rm [] argsL.toArray h P) (d : own_ix bs pc (.invokestatic i) 3 pc') (hlen : parseMethodDescriptor y.desc = some ⟨ps, r⟩) (hl2 : argsL.length = ps.length) (hsz : L.size = maxL) (hW : 2 * 0 + (rest.map fun v => v.category).sum ≤ Wt) (hf : rm.frames + 1 ≤ R.frames) (hl : Wt + (maxL' + 11) + rm.locals ≤ R.locals) (hc : cells + rm.cells ≤ R.cells) (hs : slots + rm.slots ≤ R.slots)
    (kk : ∀ T' h' v, own_St p l e R s m args below meth c Z n0 bs maxL own T' h' (cells + rm.cells) (slots + rm.slots) → P v h' → own_Wins p e below A T' (mkF m pc' L (v.toList ++ rest))) : own_Wins p e below A T (mkF m pc L st) := by
  obtain ⟨locs, Y, eT, N, hn, hx, hby, hml, hown, hZ, hlk⟩ := X
  obtain ⟨d, rfl⟩ := d
  obtain ⟨v, _, ⟨T1, L1, k1, n1⟩, -, X1, ⟨Lc, hQ, l1, y1, z1⟩, st1⟩ := Jvm.LawKit.callS Y hx (y := y) hown (mvT hZ w1) (mvT hZ w2) (mvT hZ w3) (mvT hZ w4) hy (backOf (W := Wt) (bytes := bs') (maxL := maxL') (rm := rm) (Q := fun v h' L => Fr n0 L ∧ n0 ≤ h'.size ∧ P v h') C hZ w4 w3 hf hl) (g := mkF m pc L st) rfl (by rw [hml]; exact hsz) (argsL := argsL) (rest := rest) (lenOf hlen hl2) hstk hW (hb hby d) (fun _ _ => ⟨rfl, eT, hc, hs⟩)
  dsimp only [Pt.U, Pt.locs, Pt.cells, Pt.slots] at X1 l1 y1 z1 st1 hQ
  subst l1 y1 z1
  obtain ⟨N1, n1, hP⟩ := hQ
  exact own_by st1 (kk T1 _ v ⟨_, X1, rfl, Fr.app N N1, n1, hx, hby, hml, hown, hZ, hlk⟩ hP)
theorem own_callI (X : own_St p l e R s m args below meth c Z n0 bs maxL own T h cells slots) {y : MethodName} {bs' : ByteArray} {maxL' : Nat} {rm : Room} {P : Option Value → Heap → Prop} {i : Nat} (argsL rest : List Value) {ps : List FieldType} {r : Option FieldType} (Wt : Nat) {a : Addr} (hstk : st = argsL.reverse ++ .ref a :: rest) (hy1 : y.name = "<init>") (w1 : (Jvm.Cond.methodLink own i y).before a0 Z = true) (w2 : (Jvm.Cond.instanceMethod y).before a0 Z = true) (w3 : (Jvm.Cond.initialized y.cls).before a0 Z = true) (w4 : (Jvm.Cond.code y bs' maxL' none).before a0 Z = true) (hy : y.cls ≠ "java/lang/invoke/MethodHandle" ∧ y.cls ≠ "java/lang/invoke/VarHandle")
    (C : own_Con l Z n0 y bs' maxL' none rm [] (.ref a :: argsL).toArray h P) (d : own_ix bs pc (.invokespecial i) 3 pc') (hlen : parseMethodDescriptor y.desc = some ⟨ps, r⟩) (hl2 : argsL.length = ps.length) (hsz : L.size = maxL) (hW : 2 * 0 + (rest.map fun v => v.category).sum ≤ Wt) (hf : rm.frames + 1 ≤ R.frames) (hl : Wt + (maxL' + 11) + rm.locals ≤ R.locals) (hc : cells + rm.cells ≤ R.cells) (hs : slots + rm.slots ≤ R.slots)
    (kk : ∀ T' h' v, own_St p l e R s m args below meth c Z n0 bs maxL own T' h' (cells + rm.cells) (slots + rm.slots) → P v h' → own_Wins p e below A T' (mkF m pc' L (v.toList ++ rest))) : own_Wins p e below A T (mkF m pc L st) := by
  obtain ⟨locs, Y, eT, N, hn, hx, hby, hml, hown, hZ, hlk⟩ := X
  obtain ⟨d, rfl⟩ := d
  obtain ⟨v, _, ⟨T1, L1, k1, n1⟩, -, X1, ⟨Lc, hQ, l1, y1, z1⟩, st1⟩ := Y.specialBack hx (y := y) hy1 hown (mvT hZ w1) (mvT hZ w2) (mvT hZ w4) hy (backOf (W := Wt) (bytes := bs') (maxL := maxL') (rm := rm) (Q := fun v h' L => Fr n0 L ∧ n0 ≤ h'.size ∧ P v h') C hZ w4 w3 hf hl) (g := mkF m pc L st) rfl (by rw [hml]; exact hsz) (Steps.refl _) (a := a) (argsL := argsL) (rest := rest) (lenOf hlen hl2) hstk hW (hb hby d) (fun _ _ => ⟨rfl, eT, hc, hs⟩)
  dsimp only [Pt.U, Pt.locs, Pt.cells, Pt.slots] at X1 l1 y1 z1 st1 hQ
  subst l1 y1 z1
  obtain ⟨N1, n1, hP⟩ := hQ
  exact own_by (fun _ q => st1.trans q) (kk T1 _ v ⟨_, X1, rfl, Fr.app N N1, n1, hx, hby, hml, hown, hZ, hlk⟩ hP)
theorem own_callV (X : own_St p l e R s m args below meth c Z n0 bs maxL own T h cells slots) {y : MethodName} {bs' : ByteArray} {maxL' : Nat} {ret' : Option FieldType} {rm : Room} {P : Option Value → Heap → Prop} {i : Nat} (argsL rest : List Value) {ps : List FieldType} {r : Option FieldType} (Wt : Nat) {a : Addr} (hstk : st = argsL.reverse ++ .ref a :: rest) (w1 : (Jvm.Cond.methodLink own i y).before a0 Z = true) (w2 : (Jvm.Cond.declares y).before a0 Z = true) (w5 : (Jvm.Cond.selects y.cls y y).before a0 Z = true) (w6 : (Jvm.Cond.instanceMethod y).before a0 Z = true) (w3 : (Jvm.Cond.initialized y.cls).before a0 Z = true) (w4 : (Jvm.Cond.code y bs' maxL' ret').before a0 Z = true) (hy : y.cls ≠ "java/lang/invoke/MethodHandle" ∧ y.cls ≠ "java/lang/invoke/VarHandle") (E : Exa Z h a y.cls)
    (C : own_Con l Z n0 y bs' maxL' ret' rm [] (.ref a :: argsL).toArray h P) (d : own_ix bs pc (.invokevirtual i) 3 pc') (hlen : parseMethodDescriptor y.desc = some ⟨ps, r⟩) (hl2 : argsL.length = ps.length) (hsz : L.size = maxL) (hW : 2 * 0 + (rest.map fun v => v.category).sum ≤ Wt) (hf : rm.frames + 1 ≤ R.frames) (hl : Wt + (maxL' + 11) + rm.locals ≤ R.locals) (hc : cells + rm.cells ≤ R.cells) (hs : slots + rm.slots ≤ R.slots)
    (kk : ∀ T' h' v, own_St p l e R s m args below meth c Z n0 bs maxL own T' h' (cells + rm.cells) (slots + rm.slots) → P v h' → own_Wins p e below A T' (mkF m pc' L (v.toList ++ rest))) : own_Wins p e below A T (mkF m pc L st) := by
  obtain ⟨locs, Y, eT, N, hn, hx, hby, hml, hown, hZ, hlk⟩ := X
  obtain ⟨d, rfl⟩ := d
  obtain ⟨cq, kq, qa, qb, qc⟩ := isOf hZ eT E
  obtain ⟨v, _, ⟨T1, L1, k1, n1⟩, -, X1, ⟨Lc, hQ, l1, y1, z1⟩, st1⟩ := Y.virtualBack hx (y := y) (z := y) hown (mvT hZ w1) (mvT hZ w2) (notFace_of_selects (args := #[]) (mvT hZ w5)) (mvT hZ w5) (mvT hZ w6) hy (backOf (W := Wt) (bytes := bs') (maxL := maxL') (rm := rm) (Q := fun v h' L => Fr n0 L ∧ n0 ≤ h'.size ∧ P v h') C hZ w4 w3 hf hl) qa qc (g := mkF m pc L st) rfl (by rw [hml]; exact hsz) (Steps.refl _) (argsL := argsL) (rest := rest) (lenOf hlen hl2) hstk hW (hb hby d) (fun _ _ => ⟨rfl, eT, hc, hs⟩)
  dsimp only [Pt.U, Pt.locs, Pt.cells, Pt.slots] at X1 l1 y1 z1 st1 hQ
  subst l1 y1 z1
  obtain ⟨N1, n1, hP⟩ := hQ
  exact own_by (fun _ q => st1.trans q) (kk T1 _ v ⟨_, X1, rfl, Fr.app N N1, n1, hx, hby, hml, hown, hZ, hlk⟩ hP)
theorem own_callP (X : own_St p l e R s m args below meth c Z n0 bs maxL own T h cells slots) {y : MethodName} {bs' : ByteArray} {maxL' : Nat} {ret' : Option FieldType} {rm : Room} {P : Option Value → Heap → Prop} {i : Nat} (argsL rest : List Value) {ps : List FieldType} {r : Option FieldType} (Wt : Nat) {a : Addr} {kk' : Nat} (hstk : st = argsL.reverse ++ .ref a :: rest) (w1 : (Jvm.Cond.methodLink own i y).before a0 Z = true) (w2 : (Jvm.Cond.privateMethod y).before a0 Z = true) (w6 : (Jvm.Cond.instanceMethod y).before a0 Z = true) (w3 : (Jvm.Cond.initialized y.cls).before a0 Z = true) (w4 : (Jvm.Cond.code y bs' maxL' ret').before a0 Z = true) (wi : (Jvm.Cond.instantiable y.cls kk').before a0 Z = true) (hy : y.cls ≠ "java/lang/invoke/MethodHandle" ∧ y.cls ≠ "java/lang/invoke/VarHandle") (E : Exa Z h a y.cls)
    (C : own_Con l Z n0 y bs' maxL' ret' rm [] (.ref a :: argsL).toArray h P) (d : own_ix bs pc (.invokevirtual i) 3 pc') (hlen : parseMethodDescriptor y.desc = some ⟨ps, r⟩) (hl2 : argsL.length = ps.length) (hsz : L.size = maxL) (hW : 2 * 0 + (rest.map fun v => v.category).sum ≤ Wt) (hf : rm.frames + 1 ≤ R.frames) (hl : Wt + (maxL' + 11) + rm.locals ≤ R.locals) (hc : cells + rm.cells ≤ R.cells) (hs : slots + rm.slots ≤ R.slots)
    (kk : ∀ T' h' v, own_St p l e R s m args below meth c Z n0 bs maxL own T' h' (cells + rm.cells) (slots + rm.slots) → P v h' → own_Wins p e below A T' (mkF m pc' L (v.toList ++ rest))) : own_Wins p e below A T (mkF m pc L st) := by
  obtain ⟨locs, Y, eT, N, hn, hx, hby, hml, hown, hZ, hlk⟩ := X
  obtain ⟨d, rfl⟩ := d
  obtain ⟨cq, q1, q2⟩ := E.cell
  have hpr : s.PrivateAt y := Cond.privateMethod_at (mvP hZ w2 (args := #[]))
  obtain ⟨cI, kI, e1, e2, -, e3, -⟩ := Cond.instantiable_spec (mv (args := #[]) hZ wi)
  have hsel : (Jvm.Cond.selects y.cls y y).before args s = true := Jvm.Stand.selects_self_of_private e1 e2 (by cases hq : kI.isInterface <;> simp_all) hpr (mvT hZ w6) hy
  obtain ⟨v, _, ⟨T1, L1, k1, n1⟩, -, X1, ⟨Lc, hQ, l1, y1, z1⟩, st1⟩ := Y.privateBack hx (y := y) hown (mvT hZ w1) (mvT hZ w6) hsel hpr (mvT hZ w4) hy (backOf (W := Wt) (bytes := bs') (maxL := maxL') (rm := rm) (Q := fun v h' L => Fr n0 L ∧ n0 ≤ h'.size ∧ P v h') C hZ w4 w3 hf hl) (g := mkF m pc L st) rfl (by rw [hml]; exact hsz) (Steps.refl _) (a := a) (by rw [eT]; exact q1) q2 (argsL := argsL) (rest := rest) (lenOf hlen hl2) hstk hW (hb hby d) (fun _ _ => ⟨rfl, eT, hc, hs⟩)
  dsimp only [Pt.U, Pt.locs, Pt.cells, Pt.slots] at X1 l1 y1 z1 st1 hQ
  subst l1 y1 z1
  obtain ⟨N1, n1, hP⟩ := hQ
  exact own_by (fun _ q => st1.trans q) (kk T1 _ v ⟨_, X1, rfl, Fr.app N N1, n1, hx, hby, hml, hown, hZ, hlk⟩ hP)
end OwnLayer
theorem own_Lushr_bv (x : Int64) (q : Int32) (k : Nat) (hk : q.toBitVec.toNat % 64 = k) : (own_Lushr x q).toBitVec = x.toBitVec >>> k := by
  have h5 := (sm64 q k hk).2
  show x.toBitVec >>> ((q &&& 0x3f).toInt64.toBitVec % 64) = _
  rw [BitVec.ushiftRight_eq', BitVec.toNat_umod, (sm64 q k hk).1, BitVec.toNat_ofNat]
  congr 1
  show k % 2 ^ 64 % 64 = k
  omega
theorem own_Lshl_bv (x : Int64) (q : Int32) (k : Nat) (hk : q.toBitVec.toNat % 64 = k) : (own_Lshl x q).toBitVec = x.toBitVec <<< k := by
  show x.toBitVec <<< ((q &&& 0x3f).toInt64.toBitVec.smod 64) = _
  rw [BitVec.shiftLeft_eq', (sm64 q k hk).1, smod64 k (sm64 q k hk).2]
theorem own_Iushr_bv (x q : Int32) (k : Nat) (hk : q.toBitVec.toNat % 32 = k) : (own_Iushr x q).toBitVec = x.toBitVec >>> k := by
  have h1 : (q &&& 31).toBitVec.toNat = k := by
    show (q.toBitVec &&& (31 : Int32).toBitVec).toNat = _
    rw [BitVec.toNat_and, show (31 : Int32).toBitVec.toNat = 2 ^ 5 - 1 from by decide, Nat.and_two_pow_sub_one_eq_mod]; exact hk
  show x.toBitVec >>> ((q &&& 31).toBitVec % 32) = _
  rw [BitVec.ushiftRight_eq', BitVec.toNat_umod, h1]
  congr 1
  show k % 32 = k
  omega

theorem own_idx_iff {j : Int32} {k : Nat} : own_idx j k ↔ j.toInt = (k : Int) := by
  have h0 : (0 : Int32).toInt = 0 := by decide
  have h1 : j.toNatClampNeg = j.toInt.toNat := rfl
  rw [own_idx, Int32.lt_iff_toInt_lt, h0, h1]
  omega
theorem own_idx_nat {k : Nat} (h : k < 2147483648) : own_idx (Int32.ofNat k) k := own_idx_iff.mpr (Int32.toInt_ofNat_of_lt h)
theorem own_idx_add {a b : Int32} {m n : Nat} (ha : own_idx a m) (hb : own_idx b n) (h : m + n < 2147483648) : own_idx (a + b) (m + n) := by
  rw [own_idx_iff] at *
  have h1 := c_iadd a b
  have h2 := rng32 (a + b)
  omega
theorem own_idx_sub {a b : Int32} {m n : Nat} (ha : own_idx a m) (hb : own_idx b n) (h : n ≤ m) : own_idx (a - b) (m - n) := by
  rw [own_idx_iff] at *
  have h1 := c_isub a b
  have h2 := rng32 (a - b)
  have h3 := rng32 a
  omega
theorem own_idx_lt {a b : Int32} {m n : Nat} (ha : own_idx a m) (hb : own_idx b n) : a < b ↔ m < n := by
  rw [own_idx_iff] at *
  rw [Int32.lt_iff_toInt_lt]
  omega
theorem own_idx_eq {a b : Int32} {m n : Nat} (ha : own_idx a m) (hb : own_idx b n) : a = b ↔ m = n := by
  rw [own_idx_iff] at *
  rw [← Int32.toInt_inj]
  omega
theorem own_idx_range {a : Int32} {m : Nat} (ha : own_idx a m) : m < 2147483648 := by
  rw [own_idx_iff] at ha
  have := rng32 a
  omega
theorem own_idx_val {a : Int32} {m : Nat} (ha : own_idx a m) : a = Int32.ofNat m := (own_idx_eq ha (own_idx_nat (own_idx_range ha))).mpr rfl
theorem own_succ (i : Nat) : Int32.ofNat i + 1 = Int32.ofNat (i + 1) := by
  rw [Int32.ofNat_add]; rfl
theorem own_mod_idx (z : Int32) (d : Int32) (n : Nat) (hd : own_idx d n) (hn : 0 < n) : ∃ k, k < n ∧ own_idx ((z &&& 2147483647) % d) k := by
  have h1 := c_mask z 2147483647 31 (by decide) (by decide)
  have hd' := own_idx_iff.mp hd
  have h2 := (c_irem (z &&& 2147483647) d n hd').1 (by rw [h1]; omega)
  refine ⟨((z &&& 2147483647).toInt % (n : Int)).toNat, ?_, ?_⟩
  · have := Int.emod_lt_of_pos (z &&& 2147483647).toInt (show (0 : Int) < n by omega)
    have := Int.emod_nonneg (z &&& 2147483647).toInt (show (n : Int) ≠ 0 by omega)
    omega
  · rw [own_idx_iff, h2]
    have := Int.emod_nonneg (z &&& 2147483647).toInt (show (n : Int) ≠ 0 by omega)
    omega

def own_fnv (f : Nat → Int32) : Nat → Int64
  | 0 => -7046029254386353131
  | i + 1 => (own_fnv f i ^^^ (f i &&& 255).toInt64) * 1099511628211
def own_xf (x : Int64) : Int64 := x ^^^ own_Lushr x 32
def own_fin (x : Int64) : Int64 := own_xf (own_xf x * (-2960836687051489901))
theorem own_fnv_congr (f g : Nat → Int32) (n : Nat) (h : ∀ i, i < n → f i &&& 255 = g i &&& 255) : own_fnv f n = own_fnv g n := by
  induction n with
  | zero => rfl
  | succ n ih => rw [own_fnv, own_fnv, ih (fun i hi => h i (by omega)), h n (by omega)]
theorem own_xorc {a b c : Int64} (h : a ^^^ b = a ^^^ c) : b = c := by
  have := congrArg (fun z => a ^^^ z) h
  simpa [← Int64.xor_assoc] using this
theorem own_xorc' {a b c : Int64} (h : b ^^^ a = c ^^^ a) : b = c := by
  rw [Int64.xor_comm b, Int64.xor_comm c] at h; exact own_xorc h
theorem own_mulc {a b c d : Int64} (hd : c * d = 1) (h : a * c = b * c) : a = b := by
  have := congrArg (fun z => z * d) h
  simpa [Int64.mul_assoc, hd] using this
theorem own_xf_inj {a b : Int64} (h : own_xf a = own_xf b) : a = b := by
  have key : ∀ x : Int64, own_xf (own_xf x) = x := by
    intro x
    apply Int64.toBitVec_inj.mp
    simp only [own_xf, Int64.toBitVec_xor, own_Lushr_bv _ 32 32 (by decide)]
    apply BitVec.eq_of_getLsbD_eq
    intro i hi
    simp only [BitVec.getLsbD_xor, BitVec.getLsbD_ushiftRight]
    have h1 : x.toBitVec.getLsbD (32 + (32 + i)) = false := BitVec.getLsbD_of_ge _ _ (by omega)
    rw [h1]
    generalize x.toBitVec.getLsbD i = p; generalize x.toBitVec.getLsbD (32 + i) = q
    cases p <;> cases q <;> rfl
  rw [← key a, h, key b]
theorem own_fin_inj {a b : Int64} (h : own_fin a = own_fin b) : a = b :=
  own_xf_inj (own_mulc (c := -2960836687051489901) (d := (-3463755963560253285)) (by decide) (own_xf_inj h))
theorem own_i2l_inj {a b : Int32} (h : a.toInt64 = b.toInt64) : a = b := by
  have := congrArg Int64.toInt h
  rw [Int32.toInt_toInt64, Int32.toInt_toInt64] at this
  exact Int32.toInt_inj.mp this
/-- two rows of bytes that part at one place alone have other hashes -/
theorem own_fnv_ne (f g : Nat → Int32) (k : Nat) (hk : f k &&& 255 ≠ g k &&& 255) (he : ∀ i, i ≠ k → f i &&& 255 = g i &&& 255) : ∀ n, k < n → own_fnv f n ≠ own_fnv g n := by
  intro n
  induction n with
  | zero => intro h; omega
  | succ n ih =>
    intro hn heq
    rw [own_fnv, own_fnv] at heq
    have h1 := own_mulc (c := 1099511628211) (d := -3560570117845248645) (by decide) heq
    by_cases h : k = n
    · subst h
      rw [own_fnv_congr f g k (fun i hi => he i (by omega))] at h1
      exact hk (own_i2l_inj (own_xorc h1))
    · rw [he n (Ne.symm h)] at h1
      exact ih (by omega) (own_xorc' h1)
theorem own_b255 (x : Int32) : x.toInt8.toInt32 &&& 255 = x &&& 255 := by
  apply Int32.toBitVec_inj.mp
  simp only [Int32.toBitVec_and, Int8.toBitVec_toInt32, Int32.toBitVec_toInt8]
  have h255 : (255 : Int32).toBitVec = 255#32 := by decide
  rw [h255]
  apply BitVec.eq_of_getLsbD_eq
  intro i hi
  have hm : Nat.testBit 255 i = decide (i < 8) := by
    rw [show (255 : Nat) = 2 ^ 8 - 1 by decide, Nat.testBit_two_pow_sub_one]
  simp only [BitVec.getLsbD_and, BitVec.getLsbD_signExtend, BitVec.getLsbD_ofNat, hm]
  by_cases h8 : i < 8
  · simp [h8, hi]
  · simp [h8]
/-- a byte, turned by some bits of 1 .. 255, is another one -/
theorem own_turn (x d : Int32) (hd : d &&& 255 ≠ 0) : (x ^^^ d).toInt8.toInt32 &&& 255 ≠ x &&& 255 := by
  rw [own_b255]
  intro h
  apply hd
  have : (x ^^^ d) &&& 255 = (x &&& 255) ^^^ (d &&& 255) := by
    apply Int32.toBitVec_inj.mp
    simp only [Int32.toBitVec_and, Int32.toBitVec_xor]
    apply BitVec.eq_of_getLsbD_eq
    intro i hi
    simp only [BitVec.getLsbD_and, BitVec.getLsbD_xor]
    cases x.toBitVec.getLsbD i <;> cases d.toBitVec.getLsbD i <;> cases ((255 : Int32).toBitVec).getLsbD i <;> rfl
  rw [this] at h
  have h2 := congrArg (fun z => (x &&& 255) ^^^ z) h
  simpa [← Int32.xor_assoc] using h2

theorem own_mask3 (z : Int32) : ∃ k, k < 4 ∧ own_idx (z &&& 3) k := by
  have h1 := c_mask z 3 2 (by decide) (by decide)
  exact ⟨(z &&& 3).toInt.toNat, by omega, own_idx_iff.mpr (by omega)⟩
theorem own_mask7 (z : Int32) : ∃ k, k < 5 ∧ own_idx ((z &&& 7) % 5) k := by
  have h1 := c_mask z 7 3 (by decide) (by decide)
  have h2 := (c_irem (z &&& 7) 5 5 (by decide)).1 (by omega)
  exact ⟨((z &&& 7) % 5).toInt.toNat, by omega, own_idx_iff.mpr (by omega)⟩
theorem own_mod3 (z d : Int32) (n : Nat) (hd : own_idx d n) (hn : 0 < n) : ∃ k, k < n ∧ own_idx ((z &&& 3) % d) k := by
  have h1 := c_mask z 3 2 (by decide) (by decide)
  have h2 := (c_irem (z &&& 3) d n (own_idx_iff.mp hd)).1 (by omega)
  have h3 := Int.emod_nonneg (z &&& 3).toInt (show (n : Int) ≠ 0 by omega)
  have h4 := Int.emod_lt_of_pos (z &&& 3).toInt (show (0 : Int) < n by omega)
  exact ⟨((z &&& 3) % d).toInt.toNat, by omega, own_idx_iff.mpr (by omega)⟩
theorem own_and255 (z : Int32) : (z &&& 255) &&& 255 = z &&& 255 := by rw [Int32.and_assoc, Int32.and_self]
theorem own_d_prog_25_method_5_code_0 : own_ix prog_25_method_5_code 0 (.ldc2_w 62) 3 3 := ⟨by decide +kernel, rfl⟩
theorem own_d_prog_25_method_5_code_3 : own_sl prog_25_method_5_code 3 3 4 := Or.inl ⟨3, by decide +kernel, rfl, rfl⟩
theorem own_d_prog_25_method_5_code_4 : own_il prog_25_method_5_code 4 1 5 := Or.inl ⟨1, by decide +kernel, rfl, rfl⟩
theorem own_d_prog_25_method_5_code_5 : own_si prog_25_method_5_code 5 5 7 := Or.inr ⟨by decide +kernel, rfl⟩
theorem own_d_prog_25_method_5_code_7 : own_il prog_25_method_5_code 7 5 9 := Or.inr ⟨by decide +kernel, rfl⟩
theorem own_d_prog_25_method_5_code_9 : own_il prog_25_method_5_code 9 1 10 := Or.inl ⟨1, by decide +kernel, rfl, rfl⟩
theorem own_d_prog_25_method_5_code_10 : own_il prog_25_method_5_code 10 2 11 := Or.inl ⟨2, by decide +kernel, rfl, rfl⟩
theorem own_d_prog_25_method_5_code_11 : own_ix prog_25_method_5_code 11 .iadd 1 12 := ⟨by decide +kernel, rfl⟩
theorem own_d_prog_25_method_5_code_12 : own_icm prog_25_method_5_code 12 .ge 15 37 := ⟨25, by decide +kernel, rfl, by decide, by decide⟩
theorem own_d_prog_25_method_5_code_37 : own_ll prog_25_method_5_code 37 3 38 := Or.inl ⟨3, by decide +kernel, rfl, rfl⟩
theorem own_d_prog_25_method_5_code_38 : own_ll prog_25_method_5_code 38 3 39 := Or.inl ⟨3, by decide +kernel, rfl, rfl⟩
theorem own_d_prog_25_method_5_code_39 : own_ik prog_25_method_5_code 39 32 41 := ⟨32, Or.inr (Or.inl ⟨by decide +kernel, by decide, rfl⟩)⟩
theorem own_d_prog_25_method_5_code_41 : own_ix prog_25_method_5_code 41 .lushr 1 42 := ⟨by decide +kernel, rfl⟩
theorem own_d_prog_25_method_5_code_42 : own_ix prog_25_method_5_code 42 .lxor 1 43 := ⟨by decide +kernel, rfl⟩
theorem own_d_prog_25_method_5_code_43 : own_sl prog_25_method_5_code 43 3 44 := Or.inl ⟨3, by decide +kernel, rfl, rfl⟩
theorem own_d_prog_25_method_5_code_44 : own_ll prog_25_method_5_code 44 3 45 := Or.inl ⟨3, by decide +kernel, rfl, rfl⟩
theorem own_d_prog_25_method_5_code_45 : own_ix prog_25_method_5_code 45 (.ldc2_w 66) 3 48 := ⟨by decide +kernel, rfl⟩
theorem own_d_prog_25_method_5_code_48 : own_ix prog_25_method_5_code 48 .lmul 1 49 := ⟨by decide +kernel, rfl⟩
theorem own_d_prog_25_method_5_code_49 : own_sl prog_25_method_5_code 49 3 50 := Or.inl ⟨3, by decide +kernel, rfl, rfl⟩
theorem own_d_prog_25_method_5_code_50 : own_ll prog_25_method_5_code 50 3 51 := Or.inl ⟨3, by decide +kernel, rfl, rfl⟩
theorem own_d_prog_25_method_5_code_51 : own_ll prog_25_method_5_code 51 3 52 := Or.inl ⟨3, by decide +kernel, rfl, rfl⟩
theorem own_d_prog_25_method_5_code_52 : own_ik prog_25_method_5_code 52 32 54 := ⟨32, Or.inr (Or.inl ⟨by decide +kernel, by decide, rfl⟩)⟩
theorem own_d_prog_25_method_5_code_54 : own_ix prog_25_method_5_code 54 .lushr 1 55 := ⟨by decide +kernel, rfl⟩
theorem own_d_prog_25_method_5_code_55 : own_ix prog_25_method_5_code 55 .lxor 1 56 := ⟨by decide +kernel, rfl⟩
theorem own_d_prog_25_method_5_code_56 : own_ix prog_25_method_5_code 56 .lreturn 1 57 := ⟨by decide +kernel, rfl⟩
theorem own_d_prog_25_method_5_code_15 : own_ll prog_25_method_5_code 15 3 16 := Or.inl ⟨3, by decide +kernel, rfl, rfl⟩
theorem own_d_prog_25_method_5_code_16 : own_al prog_25_method_5_code 16 0 17 := Or.inl ⟨0, by decide +kernel, rfl, rfl⟩
theorem own_d_prog_25_method_5_code_17 : own_il prog_25_method_5_code 17 5 19 := Or.inr ⟨by decide +kernel, rfl⟩
theorem own_d_prog_25_method_5_code_19 : own_ix prog_25_method_5_code 19 .baload 1 20 := ⟨by decide +kernel, rfl⟩
theorem own_d_prog_25_method_5_code_20 : own_ik prog_25_method_5_code 20 255 23 := ⟨255, Or.inr (Or.inr ⟨by decide +kernel, by decide, rfl⟩)⟩
theorem own_d_prog_25_method_5_code_23 : own_ix prog_25_method_5_code 23 .iand 1 24 := ⟨by decide +kernel, rfl⟩
theorem own_d_prog_25_method_5_code_24 : own_ix prog_25_method_5_code 24 .i2l 1 25 := ⟨by decide +kernel, rfl⟩
theorem own_d_prog_25_method_5_code_25 : own_ix prog_25_method_5_code 25 .lxor 1 26 := ⟨by decide +kernel, rfl⟩
theorem own_d_prog_25_method_5_code_26 : own_ix prog_25_method_5_code 26 (.ldc2_w 64) 3 29 := ⟨by decide +kernel, rfl⟩
theorem own_d_prog_25_method_5_code_29 : own_ix prog_25_method_5_code 29 .lmul 1 30 := ⟨by decide +kernel, rfl⟩
theorem own_d_prog_25_method_5_code_30 : own_sl prog_25_method_5_code 30 3 31 := Or.inl ⟨3, by decide +kernel, rfl, rfl⟩
theorem own_d_prog_25_method_5_code_31 : own_ii prog_25_method_5_code 31 5 1 34 := ⟨1, by decide +kernel, by decide, rfl⟩
theorem own_d_prog_25_method_5_code_34 : own_gt prog_25_method_5_code 34 7 := ⟨(-27), by decide +kernel, by decide, by decide⟩
theorem own_pn_com_example_depth2_depth2_MarkingStore : plainName "com/example/depth2/depth2/MarkingStore" = true := by first | (simp [plainName, overriddenIn]; done) | decide +kernel
theorem own_d_code_0 : own_ik code 0 8 2 := ⟨8, Or.inr (Or.inl ⟨by decide +kernel, by decide, rfl⟩)⟩
theorem own_d_code_2 : own_ix code 2 (.newarray .byte) 2 4 := ⟨by decide +kernel, rfl⟩
theorem own_d_code_4 : own_sa code 4 5 6 := Or.inr ⟨by decide +kernel, rfl⟩
theorem own_d_code_6 : own_ik code 6 8 8 := ⟨8, Or.inr (Or.inl ⟨by decide +kernel, by decide, rfl⟩)⟩
theorem own_d_code_8 : own_ix code 8 (.newarray .byte) 2 10 := ⟨by decide +kernel, rfl⟩
theorem own_d_code_10 : own_sa code 10 6 12 := Or.inr ⟨by decide +kernel, rfl⟩
theorem own_d_code_12 : own_al code 12 5 14 := Or.inr ⟨by decide +kernel, rfl⟩
theorem own_d_code_14 : own_ik code 14 0 15 := ⟨0, Or.inl ⟨by decide +kernel, by decide, rfl⟩⟩
theorem own_d_code_15 : own_ll code 15 0 16 := Or.inl ⟨0, by decide +kernel, rfl, rfl⟩
theorem own_d_code_16 : own_ix code 16 .l2i 1 17 := ⟨by decide +kernel, rfl⟩
theorem own_d_code_17 : own_ix code 17 .i2b 1 18 := ⟨by decide +kernel, rfl⟩
theorem own_d_code_18 : own_ix code 18 .bastore 1 19 := ⟨by decide +kernel, rfl⟩
theorem own_d_code_19 : own_al code 19 5 21 := Or.inr ⟨by decide +kernel, rfl⟩
theorem own_d_code_21 : own_ik code 21 1 22 := ⟨1, Or.inl ⟨by decide +kernel, by decide, rfl⟩⟩
theorem own_d_code_22 : own_ll code 22 0 23 := Or.inl ⟨0, by decide +kernel, rfl, rfl⟩
theorem own_d_code_23 : own_ik code 23 8 25 := ⟨8, Or.inr (Or.inl ⟨by decide +kernel, by decide, rfl⟩)⟩
theorem own_d_code_25 : own_ix code 25 .lushr 1 26 := ⟨by decide +kernel, rfl⟩
theorem own_d_code_26 : own_ix code 26 .l2i 1 27 := ⟨by decide +kernel, rfl⟩
theorem own_d_code_27 : own_ix code 27 .i2b 1 28 := ⟨by decide +kernel, rfl⟩
theorem own_d_code_28 : own_ix code 28 .bastore 1 29 := ⟨by decide +kernel, rfl⟩
theorem own_d_code_29 : own_al code 29 5 31 := Or.inr ⟨by decide +kernel, rfl⟩
theorem own_d_code_31 : own_ik code 31 2 32 := ⟨2, Or.inl ⟨by decide +kernel, by decide, rfl⟩⟩
theorem own_d_code_32 : own_ll code 32 0 33 := Or.inl ⟨0, by decide +kernel, rfl, rfl⟩
theorem own_d_code_33 : own_ik code 33 16 35 := ⟨16, Or.inr (Or.inl ⟨by decide +kernel, by decide, rfl⟩)⟩
theorem own_d_code_35 : own_ix code 35 .lushr 1 36 := ⟨by decide +kernel, rfl⟩
theorem own_d_code_36 : own_ix code 36 .l2i 1 37 := ⟨by decide +kernel, rfl⟩
theorem own_d_code_37 : own_ix code 37 .i2b 1 38 := ⟨by decide +kernel, rfl⟩
theorem own_d_code_38 : own_ix code 38 .bastore 1 39 := ⟨by decide +kernel, rfl⟩
theorem own_d_code_39 : own_al code 39 5 41 := Or.inr ⟨by decide +kernel, rfl⟩
theorem own_d_code_41 : own_ik code 41 3 42 := ⟨3, Or.inl ⟨by decide +kernel, by decide, rfl⟩⟩
theorem own_d_code_42 : own_ll code 42 0 43 := Or.inl ⟨0, by decide +kernel, rfl, rfl⟩
theorem own_d_code_43 : own_ik code 43 24 45 := ⟨24, Or.inr (Or.inl ⟨by decide +kernel, by decide, rfl⟩)⟩
theorem own_d_code_45 : own_ix code 45 .lushr 1 46 := ⟨by decide +kernel, rfl⟩
theorem own_d_code_46 : own_ix code 46 .l2i 1 47 := ⟨by decide +kernel, rfl⟩
theorem own_d_code_47 : own_ix code 47 .i2b 1 48 := ⟨by decide +kernel, rfl⟩
theorem own_d_code_48 : own_ix code 48 .bastore 1 49 := ⟨by decide +kernel, rfl⟩
theorem own_d_code_49 : own_al code 49 5 51 := Or.inr ⟨by decide +kernel, rfl⟩
theorem own_d_code_51 : own_ik code 51 4 52 := ⟨4, Or.inl ⟨by decide +kernel, by decide, rfl⟩⟩
theorem own_d_code_52 : own_ll code 52 0 53 := Or.inl ⟨0, by decide +kernel, rfl, rfl⟩
theorem own_d_code_53 : own_ik code 53 32 55 := ⟨32, Or.inr (Or.inl ⟨by decide +kernel, by decide, rfl⟩)⟩
theorem own_d_code_55 : own_ix code 55 .lushr 1 56 := ⟨by decide +kernel, rfl⟩
theorem own_d_code_56 : own_ix code 56 .l2i 1 57 := ⟨by decide +kernel, rfl⟩
theorem own_d_code_57 : own_ix code 57 .i2b 1 58 := ⟨by decide +kernel, rfl⟩
theorem own_d_code_58 : own_ix code 58 .bastore 1 59 := ⟨by decide +kernel, rfl⟩
theorem own_d_code_59 : own_al code 59 5 61 := Or.inr ⟨by decide +kernel, rfl⟩
theorem own_d_code_61 : own_ik code 61 5 62 := ⟨5, Or.inl ⟨by decide +kernel, by decide, rfl⟩⟩
theorem own_d_code_62 : own_ll code 62 0 63 := Or.inl ⟨0, by decide +kernel, rfl, rfl⟩
theorem own_d_code_63 : own_ik code 63 40 65 := ⟨40, Or.inr (Or.inl ⟨by decide +kernel, by decide, rfl⟩)⟩
theorem own_d_code_65 : own_ix code 65 .lushr 1 66 := ⟨by decide +kernel, rfl⟩
theorem own_d_code_66 : own_ix code 66 .l2i 1 67 := ⟨by decide +kernel, rfl⟩
theorem own_d_code_67 : own_ix code 67 .i2b 1 68 := ⟨by decide +kernel, rfl⟩
theorem own_d_code_68 : own_ix code 68 .bastore 1 69 := ⟨by decide +kernel, rfl⟩
theorem own_d_code_69 : own_al code 69 5 71 := Or.inr ⟨by decide +kernel, rfl⟩
theorem own_d_code_71 : own_ik code 71 6 73 := ⟨6, Or.inr (Or.inl ⟨by decide +kernel, by decide, rfl⟩)⟩
theorem own_d_code_73 : own_ll code 73 0 74 := Or.inl ⟨0, by decide +kernel, rfl, rfl⟩
theorem own_d_code_74 : own_ik code 74 48 76 := ⟨48, Or.inr (Or.inl ⟨by decide +kernel, by decide, rfl⟩)⟩
theorem own_d_code_76 : own_ix code 76 .lushr 1 77 := ⟨by decide +kernel, rfl⟩
theorem own_d_code_77 : own_ix code 77 .l2i 1 78 := ⟨by decide +kernel, rfl⟩
theorem own_d_code_78 : own_ix code 78 .i2b 1 79 := ⟨by decide +kernel, rfl⟩
theorem own_d_code_79 : own_ix code 79 .bastore 1 80 := ⟨by decide +kernel, rfl⟩
theorem own_d_code_80 : own_al code 80 5 82 := Or.inr ⟨by decide +kernel, rfl⟩
theorem own_d_code_82 : own_ik code 82 7 84 := ⟨7, Or.inr (Or.inl ⟨by decide +kernel, by decide, rfl⟩)⟩
theorem own_d_code_84 : own_ll code 84 0 85 := Or.inl ⟨0, by decide +kernel, rfl, rfl⟩
theorem own_d_code_85 : own_ik code 85 56 87 := ⟨56, Or.inr (Or.inl ⟨by decide +kernel, by decide, rfl⟩)⟩
theorem own_d_code_87 : own_ix code 87 .lushr 1 88 := ⟨by decide +kernel, rfl⟩
theorem own_d_code_88 : own_ix code 88 .l2i 1 89 := ⟨by decide +kernel, rfl⟩
theorem own_d_code_89 : own_ix code 89 .i2b 1 90 := ⟨by decide +kernel, rfl⟩
theorem own_d_code_90 : own_ix code 90 .bastore 1 91 := ⟨by decide +kernel, rfl⟩
theorem own_d_code_91 : own_al code 91 6 93 := Or.inr ⟨by decide +kernel, rfl⟩
theorem own_d_code_93 : own_ik code 93 0 94 := ⟨0, Or.inl ⟨by decide +kernel, by decide, rfl⟩⟩
theorem own_d_code_94 : own_ll code 94 2 95 := Or.inl ⟨2, by decide +kernel, rfl, rfl⟩
theorem own_d_code_95 : own_ix code 95 .l2i 1 96 := ⟨by decide +kernel, rfl⟩
theorem own_d_code_96 : own_ix code 96 .i2b 1 97 := ⟨by decide +kernel, rfl⟩
theorem own_d_code_97 : own_ix code 97 .bastore 1 98 := ⟨by decide +kernel, rfl⟩
theorem own_d_code_98 : own_al code 98 6 100 := Or.inr ⟨by decide +kernel, rfl⟩
theorem own_d_code_100 : own_ik code 100 1 101 := ⟨1, Or.inl ⟨by decide +kernel, by decide, rfl⟩⟩
theorem own_d_code_101 : own_ll code 101 2 102 := Or.inl ⟨2, by decide +kernel, rfl, rfl⟩
theorem own_d_code_102 : own_ik code 102 8 104 := ⟨8, Or.inr (Or.inl ⟨by decide +kernel, by decide, rfl⟩)⟩
theorem own_d_code_104 : own_ix code 104 .lushr 1 105 := ⟨by decide +kernel, rfl⟩
theorem own_d_code_105 : own_ix code 105 .l2i 1 106 := ⟨by decide +kernel, rfl⟩
theorem own_d_code_106 : own_ix code 106 .i2b 1 107 := ⟨by decide +kernel, rfl⟩
theorem own_d_code_107 : own_ix code 107 .bastore 1 108 := ⟨by decide +kernel, rfl⟩
theorem own_d_code_108 : own_al code 108 6 110 := Or.inr ⟨by decide +kernel, rfl⟩
theorem own_d_code_110 : own_ik code 110 2 111 := ⟨2, Or.inl ⟨by decide +kernel, by decide, rfl⟩⟩
theorem own_d_code_111 : own_ll code 111 2 112 := Or.inl ⟨2, by decide +kernel, rfl, rfl⟩
theorem own_d_code_112 : own_ik code 112 16 114 := ⟨16, Or.inr (Or.inl ⟨by decide +kernel, by decide, rfl⟩)⟩
theorem own_d_code_114 : own_ix code 114 .lushr 1 115 := ⟨by decide +kernel, rfl⟩
theorem own_d_code_115 : own_ix code 115 .l2i 1 116 := ⟨by decide +kernel, rfl⟩
theorem own_d_code_116 : own_ix code 116 .i2b 1 117 := ⟨by decide +kernel, rfl⟩
theorem own_d_code_117 : own_ix code 117 .bastore 1 118 := ⟨by decide +kernel, rfl⟩
theorem own_d_code_118 : own_al code 118 6 120 := Or.inr ⟨by decide +kernel, rfl⟩
theorem own_d_code_120 : own_ik code 120 3 121 := ⟨3, Or.inl ⟨by decide +kernel, by decide, rfl⟩⟩
theorem own_d_code_121 : own_ll code 121 2 122 := Or.inl ⟨2, by decide +kernel, rfl, rfl⟩
theorem own_d_code_122 : own_ik code 122 24 124 := ⟨24, Or.inr (Or.inl ⟨by decide +kernel, by decide, rfl⟩)⟩
theorem own_d_code_124 : own_ix code 124 .lushr 1 125 := ⟨by decide +kernel, rfl⟩
theorem own_d_code_125 : own_ix code 125 .l2i 1 126 := ⟨by decide +kernel, rfl⟩
theorem own_d_code_126 : own_ix code 126 .i2b 1 127 := ⟨by decide +kernel, rfl⟩
theorem own_d_code_127 : own_ix code 127 .bastore 1 128 := ⟨by decide +kernel, rfl⟩
theorem own_d_code_128 : own_al code 128 6 130 := Or.inr ⟨by decide +kernel, rfl⟩
theorem own_d_code_130 : own_ik code 130 4 131 := ⟨4, Or.inl ⟨by decide +kernel, by decide, rfl⟩⟩
theorem own_d_code_131 : own_ll code 131 2 132 := Or.inl ⟨2, by decide +kernel, rfl, rfl⟩
theorem own_d_code_132 : own_ik code 132 32 134 := ⟨32, Or.inr (Or.inl ⟨by decide +kernel, by decide, rfl⟩)⟩
theorem own_d_code_134 : own_ix code 134 .lushr 1 135 := ⟨by decide +kernel, rfl⟩
theorem own_d_code_135 : own_ix code 135 .l2i 1 136 := ⟨by decide +kernel, rfl⟩
theorem own_d_code_136 : own_ix code 136 .i2b 1 137 := ⟨by decide +kernel, rfl⟩
theorem own_d_code_137 : own_ix code 137 .bastore 1 138 := ⟨by decide +kernel, rfl⟩
theorem own_d_code_138 : own_al code 138 6 140 := Or.inr ⟨by decide +kernel, rfl⟩
theorem own_d_code_140 : own_ik code 140 5 141 := ⟨5, Or.inl ⟨by decide +kernel, by decide, rfl⟩⟩
theorem own_d_code_141 : own_ll code 141 2 142 := Or.inl ⟨2, by decide +kernel, rfl, rfl⟩
theorem own_d_code_142 : own_ik code 142 40 144 := ⟨40, Or.inr (Or.inl ⟨by decide +kernel, by decide, rfl⟩)⟩
theorem own_d_code_144 : own_ix code 144 .lushr 1 145 := ⟨by decide +kernel, rfl⟩
theorem own_d_code_145 : own_ix code 145 .l2i 1 146 := ⟨by decide +kernel, rfl⟩
theorem own_d_code_146 : own_ix code 146 .i2b 1 147 := ⟨by decide +kernel, rfl⟩
theorem own_d_code_147 : own_ix code 147 .bastore 1 148 := ⟨by decide +kernel, rfl⟩
theorem own_d_code_148 : own_al code 148 6 150 := Or.inr ⟨by decide +kernel, rfl⟩
theorem own_d_code_150 : own_ik code 150 6 152 := ⟨6, Or.inr (Or.inl ⟨by decide +kernel, by decide, rfl⟩)⟩
theorem own_d_code_152 : own_ll code 152 2 153 := Or.inl ⟨2, by decide +kernel, rfl, rfl⟩
theorem own_d_code_153 : own_ik code 153 48 155 := ⟨48, Or.inr (Or.inl ⟨by decide +kernel, by decide, rfl⟩)⟩
theorem own_d_code_155 : own_ix code 155 .lushr 1 156 := ⟨by decide +kernel, rfl⟩
theorem own_d_code_156 : own_ix code 156 .l2i 1 157 := ⟨by decide +kernel, rfl⟩
theorem own_d_code_157 : own_ix code 157 .i2b 1 158 := ⟨by decide +kernel, rfl⟩
theorem own_d_code_158 : own_ix code 158 .bastore 1 159 := ⟨by decide +kernel, rfl⟩
theorem own_d_code_159 : own_al code 159 6 161 := Or.inr ⟨by decide +kernel, rfl⟩
theorem own_d_code_161 : own_ik code 161 7 163 := ⟨7, Or.inr (Or.inl ⟨by decide +kernel, by decide, rfl⟩)⟩
theorem own_d_code_163 : own_ll code 163 2 164 := Or.inl ⟨2, by decide +kernel, rfl, rfl⟩
theorem own_d_code_164 : own_ik code 164 56 166 := ⟨56, Or.inr (Or.inl ⟨by decide +kernel, by decide, rfl⟩)⟩
theorem own_d_code_166 : own_ix code 166 .lushr 1 167 := ⟨by decide +kernel, rfl⟩
theorem own_d_code_167 : own_ix code 167 .l2i 1 168 := ⟨by decide +kernel, rfl⟩
theorem own_d_code_168 : own_ix code 168 .i2b 1 169 := ⟨by decide +kernel, rfl⟩
theorem own_d_code_169 : own_ix code 169 .bastore 1 170 := ⟨by decide +kernel, rfl⟩
theorem own_d_code_170 : own_il code 170 4 172 := Or.inr ⟨by decide +kernel, rfl⟩
theorem own_d_code_172 : own_ik code 172 3 173 := ⟨3, Or.inl ⟨by decide +kernel, by decide, rfl⟩⟩
theorem own_d_code_173 : own_ix code 173 .iand 1 174 := ⟨by decide +kernel, rfl⟩
theorem own_d_code_174 : own_si code 174 7 176 := Or.inr ⟨by decide +kernel, rfl⟩
theorem own_d_code_176 : own_il code 176 4 178 := Or.inr ⟨by decide +kernel, rfl⟩
theorem own_d_code_178 : own_ik code 178 2 179 := ⟨2, Or.inl ⟨by decide +kernel, by decide, rfl⟩⟩
theorem own_d_code_179 : own_ix code 179 .iushr 1 180 := ⟨by decide +kernel, rfl⟩
theorem own_d_code_180 : own_ik code 180 3 181 := ⟨3, Or.inl ⟨by decide +kernel, by decide, rfl⟩⟩
theorem own_d_code_181 : own_ix code 181 .iand 1 182 := ⟨by decide +kernel, rfl⟩
theorem own_d_code_182 : own_si code 182 8 184 := Or.inr ⟨by decide +kernel, rfl⟩
theorem own_d_code_184 : own_il code 184 4 186 := Or.inr ⟨by decide +kernel, rfl⟩
theorem own_d_code_186 : own_ik code 186 4 187 := ⟨4, Or.inl ⟨by decide +kernel, by decide, rfl⟩⟩
theorem own_d_code_187 : own_ix code 187 .iushr 1 188 := ⟨by decide +kernel, rfl⟩
theorem own_d_code_188 : own_ik code 188 7 190 := ⟨7, Or.inr (Or.inl ⟨by decide +kernel, by decide, rfl⟩)⟩
theorem own_d_code_190 : own_ix code 190 .iand 1 191 := ⟨by decide +kernel, rfl⟩
theorem own_d_code_191 : own_ik code 191 5 192 := ⟨5, Or.inl ⟨by decide +kernel, by decide, rfl⟩⟩
theorem own_d_code_192 : own_ix code 192 .irem 1 193 := ⟨by decide +kernel, rfl⟩
theorem own_d_code_193 : own_si code 193 9 195 := Or.inr ⟨by decide +kernel, rfl⟩
theorem own_d_code_195 : own_il code 195 9 197 := Or.inr ⟨by decide +kernel, rfl⟩
theorem own_d_code_197 : own_ifc code 197 .le 200 210 := ⟨13, by decide +kernel, rfl, by decide, by decide⟩
theorem own_d_code_200 : own_al code 200 6 202 := Or.inr ⟨by decide +kernel, rfl⟩
theorem own_d_code_202 : own_il code 202 8 204 := Or.inr ⟨by decide +kernel, rfl⟩
theorem own_d_code_204 : own_al code 204 5 206 := Or.inr ⟨by decide +kernel, rfl⟩
theorem own_d_code_206 : own_il code 206 7 208 := Or.inr ⟨by decide +kernel, rfl⟩
theorem own_d_code_208 : own_ix code 208 .baload 1 209 := ⟨by decide +kernel, rfl⟩
theorem own_d_code_209 : own_ix code 209 .bastore 1 210 := ⟨by decide +kernel, rfl⟩
theorem own_d_code_210 : own_il code 210 9 212 := Or.inr ⟨by decide +kernel, rfl⟩
theorem own_d_code_212 : own_ik code 212 1 213 := ⟨1, Or.inl ⟨by decide +kernel, by decide, rfl⟩⟩
theorem own_d_code_213 : own_icm code 213 .le 216 230 := ⟨17, by decide +kernel, rfl, by decide, by decide⟩
theorem own_d_code_216 : own_al code 216 6 218 := Or.inr ⟨by decide +kernel, rfl⟩
theorem own_d_code_218 : own_il code 218 8 220 := Or.inr ⟨by decide +kernel, rfl⟩
theorem own_d_code_220 : own_ik code 220 1 221 := ⟨1, Or.inl ⟨by decide +kernel, by decide, rfl⟩⟩
theorem own_d_code_221 : own_ix code 221 .iadd 1 222 := ⟨by decide +kernel, rfl⟩
theorem own_d_code_222 : own_al code 222 5 224 := Or.inr ⟨by decide +kernel, rfl⟩
theorem own_d_code_224 : own_il code 224 7 226 := Or.inr ⟨by decide +kernel, rfl⟩
theorem own_d_code_226 : own_ik code 226 1 227 := ⟨1, Or.inl ⟨by decide +kernel, by decide, rfl⟩⟩
theorem own_d_code_227 : own_ix code 227 .iadd 1 228 := ⟨by decide +kernel, rfl⟩
theorem own_d_code_228 : own_ix code 228 .baload 1 229 := ⟨by decide +kernel, rfl⟩
theorem own_d_code_229 : own_ix code 229 .bastore 1 230 := ⟨by decide +kernel, rfl⟩
theorem own_d_code_230 : own_il code 230 9 232 := Or.inr ⟨by decide +kernel, rfl⟩
theorem own_d_code_232 : own_ik code 232 2 233 := ⟨2, Or.inl ⟨by decide +kernel, by decide, rfl⟩⟩
theorem own_d_code_233 : own_icm code 233 .le 236 250 := ⟨17, by decide +kernel, rfl, by decide, by decide⟩
theorem own_d_code_236 : own_al code 236 6 238 := Or.inr ⟨by decide +kernel, rfl⟩
theorem own_d_code_238 : own_il code 238 8 240 := Or.inr ⟨by decide +kernel, rfl⟩
theorem own_d_code_240 : own_ik code 240 2 241 := ⟨2, Or.inl ⟨by decide +kernel, by decide, rfl⟩⟩
theorem own_d_code_241 : own_ix code 241 .iadd 1 242 := ⟨by decide +kernel, rfl⟩
theorem own_d_code_242 : own_al code 242 5 244 := Or.inr ⟨by decide +kernel, rfl⟩
theorem own_d_code_244 : own_il code 244 7 246 := Or.inr ⟨by decide +kernel, rfl⟩
theorem own_d_code_246 : own_ik code 246 2 247 := ⟨2, Or.inl ⟨by decide +kernel, by decide, rfl⟩⟩
theorem own_d_code_247 : own_ix code 247 .iadd 1 248 := ⟨by decide +kernel, rfl⟩
theorem own_d_code_248 : own_ix code 248 .baload 1 249 := ⟨by decide +kernel, rfl⟩
theorem own_d_code_249 : own_ix code 249 .bastore 1 250 := ⟨by decide +kernel, rfl⟩
theorem own_d_code_250 : own_il code 250 9 252 := Or.inr ⟨by decide +kernel, rfl⟩
theorem own_d_code_252 : own_ik code 252 3 253 := ⟨3, Or.inl ⟨by decide +kernel, by decide, rfl⟩⟩
theorem own_d_code_253 : own_icm code 253 .le 256 270 := ⟨17, by decide +kernel, rfl, by decide, by decide⟩
theorem own_d_code_256 : own_al code 256 6 258 := Or.inr ⟨by decide +kernel, rfl⟩
theorem own_d_code_258 : own_il code 258 8 260 := Or.inr ⟨by decide +kernel, rfl⟩
theorem own_d_code_260 : own_ik code 260 3 261 := ⟨3, Or.inl ⟨by decide +kernel, by decide, rfl⟩⟩
theorem own_d_code_261 : own_ix code 261 .iadd 1 262 := ⟨by decide +kernel, rfl⟩
theorem own_d_code_262 : own_al code 262 5 264 := Or.inr ⟨by decide +kernel, rfl⟩
theorem own_d_code_264 : own_il code 264 7 266 := Or.inr ⟨by decide +kernel, rfl⟩
theorem own_d_code_266 : own_ik code 266 3 267 := ⟨3, Or.inl ⟨by decide +kernel, by decide, rfl⟩⟩
theorem own_d_code_267 : own_ix code 267 .iadd 1 268 := ⟨by decide +kernel, rfl⟩
theorem own_d_code_268 : own_ix code 268 .baload 1 269 := ⟨by decide +kernel, rfl⟩
theorem own_d_code_269 : own_ix code 269 .bastore 1 270 := ⟨by decide +kernel, rfl⟩
theorem own_d_code_270 : own_al code 270 6 272 := Or.inr ⟨by decide +kernel, rfl⟩
theorem own_d_code_272 : own_il code 272 8 274 := Or.inr ⟨by decide +kernel, rfl⟩
theorem own_d_code_274 : own_il code 274 9 276 := Or.inr ⟨by decide +kernel, rfl⟩
theorem own_d_code_276 : own_ix code 276 .iadd 1 277 := ⟨by decide +kernel, rfl⟩
theorem own_d_code_277 : own_al code 277 5 279 := Or.inr ⟨by decide +kernel, rfl⟩
theorem own_d_code_279 : own_il code 279 7 281 := Or.inr ⟨by decide +kernel, rfl⟩
theorem own_d_code_281 : own_il code 281 9 283 := Or.inr ⟨by decide +kernel, rfl⟩
theorem own_d_code_283 : own_ix code 283 .iadd 1 284 := ⟨by decide +kernel, rfl⟩
theorem own_d_code_284 : own_ix code 284 .baload 1 285 := ⟨by decide +kernel, rfl⟩
theorem own_d_code_285 : own_ik code 285 1 286 := ⟨1, Or.inl ⟨by decide +kernel, by decide, rfl⟩⟩
theorem own_d_code_286 : own_ix code 286 .ixor 1 287 := ⟨by decide +kernel, rfl⟩
theorem own_d_code_287 : own_ix code 287 .i2b 1 288 := ⟨by decide +kernel, rfl⟩
theorem own_d_code_288 : own_ix code 288 .bastore 1 289 := ⟨by decide +kernel, rfl⟩
theorem own_d_code_289 : own_il code 289 7 291 := Or.inr ⟨by decide +kernel, rfl⟩
theorem own_d_code_291 : own_ifc code 291 .le 294 316 := ⟨25, by decide +kernel, rfl, by decide, by decide⟩
theorem own_d_code_294 : own_il code 294 8 296 := Or.inr ⟨by decide +kernel, rfl⟩
theorem own_d_code_296 : own_ifc code 296 .le 299 316 := ⟨20, by decide +kernel, rfl, by decide, by decide⟩
theorem own_d_code_299 : own_al code 299 6 301 := Or.inr ⟨by decide +kernel, rfl⟩
theorem own_d_code_301 : own_il code 301 8 303 := Or.inr ⟨by decide +kernel, rfl⟩
theorem own_d_code_303 : own_ik code 303 1 304 := ⟨1, Or.inl ⟨by decide +kernel, by decide, rfl⟩⟩
theorem own_d_code_304 : own_ix code 304 .isub 1 305 := ⟨by decide +kernel, rfl⟩
theorem own_d_code_305 : own_al code 305 5 307 := Or.inr ⟨by decide +kernel, rfl⟩
theorem own_d_code_307 : own_il code 307 7 309 := Or.inr ⟨by decide +kernel, rfl⟩
theorem own_d_code_309 : own_ik code 309 1 310 := ⟨1, Or.inl ⟨by decide +kernel, by decide, rfl⟩⟩
theorem own_d_code_310 : own_ix code 310 .isub 1 311 := ⟨by decide +kernel, rfl⟩
theorem own_d_code_311 : own_ix code 311 .baload 1 312 := ⟨by decide +kernel, rfl⟩
theorem own_d_code_312 : own_ik code 312 1 313 := ⟨1, Or.inl ⟨by decide +kernel, by decide, rfl⟩⟩
theorem own_d_code_313 : own_ix code 313 .ixor 1 314 := ⟨by decide +kernel, rfl⟩
theorem own_d_code_314 : own_ix code 314 .i2b 1 315 := ⟨by decide +kernel, rfl⟩
theorem own_d_code_315 : own_ix code 315 .bastore 1 316 := ⟨by decide +kernel, rfl⟩
theorem own_d_code_316 : own_al code 316 5 318 := Or.inr ⟨by decide +kernel, rfl⟩
theorem own_d_code_318 : own_il code 318 7 320 := Or.inr ⟨by decide +kernel, rfl⟩
theorem own_d_code_320 : own_il code 320 9 322 := Or.inr ⟨by decide +kernel, rfl⟩
theorem own_pd___BII_J : parseMethodDescriptor "([BII)J" = some ⟨[(.array .byte), .int, .int], some .long⟩ := by decide +kernel
theorem own_d_code_322 : own_ix code 322 (.invokestatic 7) 3 325 := ⟨by decide +kernel, rfl⟩
theorem own_d_code_325 : own_sl code 325 10 327 := Or.inr ⟨by decide +kernel, rfl⟩
theorem own_d_code_327 : own_al code 327 6 329 := Or.inr ⟨by decide +kernel, rfl⟩
theorem own_d_code_329 : own_il code 329 8 331 := Or.inr ⟨by decide +kernel, rfl⟩
theorem own_d_code_331 : own_il code 331 9 333 := Or.inr ⟨by decide +kernel, rfl⟩
theorem own_d_code_333 : own_ix code 333 (.invokestatic 7) 3 336 := ⟨by decide +kernel, rfl⟩
theorem own_d_code_336 : own_sl code 336 12 338 := Or.inr ⟨by decide +kernel, rfl⟩
theorem own_d_code_338 : own_ll code 338 10 340 := Or.inr ⟨by decide +kernel, rfl⟩
theorem own_d_code_340 : own_ll code 340 12 342 := Or.inr ⟨by decide +kernel, rfl⟩
theorem own_d_code_342 : own_ix code 342 .lcmp 1 343 := ⟨by decide +kernel, rfl⟩
theorem own_d_code_343 : own_ifc code 343 .eq 346 348 := ⟨5, by decide +kernel, rfl, by decide, by decide⟩
theorem own_d_code_348 : own_il code 348 9 350 := Or.inr ⟨by decide +kernel, rfl⟩
theorem own_d_code_350 : own_ifc code 350 .ne 353 355 := ⟨5, by decide +kernel, rfl, by decide, by decide⟩
theorem own_d_code_353 : own_ik code 353 1 354 := ⟨1, Or.inl ⟨by decide +kernel, by decide, rfl⟩⟩
theorem own_d_code_354 : own_ix code 354 .ireturn 1 355 := ⟨by decide +kernel, rfl⟩
theorem own_d_code_355 : own_il code 355 4 357 := Or.inr ⟨by decide +kernel, rfl⟩
theorem own_d_code_357 : own_ik code 357 8 359 := ⟨8, Or.inr (Or.inl ⟨by decide +kernel, by decide, rfl⟩)⟩
theorem own_d_code_359 : own_ix code 359 .iushr 1 360 := ⟨by decide +kernel, rfl⟩
theorem own_d_code_360 : own_ik code 360 3 361 := ⟨3, Or.inl ⟨by decide +kernel, by decide, rfl⟩⟩
theorem own_d_code_361 : own_ix code 361 .iand 1 362 := ⟨by decide +kernel, rfl⟩
theorem own_d_code_362 : own_il code 362 9 364 := Or.inr ⟨by decide +kernel, rfl⟩
theorem own_d_code_364 : own_ix code 364 .irem 1 365 := ⟨by decide +kernel, rfl⟩
theorem own_d_code_365 : own_si code 365 14 367 := Or.inr ⟨by decide +kernel, rfl⟩
theorem own_d_code_367 : own_il code 367 4 369 := Or.inr ⟨by decide +kernel, rfl⟩
theorem own_d_code_369 : own_ik code 369 12 371 := ⟨12, Or.inr (Or.inl ⟨by decide +kernel, by decide, rfl⟩)⟩
theorem own_d_code_371 : own_ix code 371 .iushr 1 372 := ⟨by decide +kernel, rfl⟩
theorem own_d_code_372 : own_ik code 372 255 375 := ⟨255, Or.inr (Or.inr ⟨by decide +kernel, by decide, rfl⟩)⟩
theorem own_d_code_375 : own_ix code 375 .iand 1 376 := ⟨by decide +kernel, rfl⟩
theorem own_d_code_376 : own_si code 376 15 378 := Or.inr ⟨by decide +kernel, rfl⟩
theorem own_d_code_378 : own_il code 378 15 380 := Or.inr ⟨by decide +kernel, rfl⟩
theorem own_d_code_380 : own_ifc code 380 .ne 383 388 := ⟨8, by decide +kernel, rfl, by decide, by decide⟩
theorem own_d_code_383 : own_ik code 383 128 386 := ⟨128, Or.inr (Or.inr ⟨by decide +kernel, by decide, rfl⟩)⟩
theorem own_d_code_386 : own_si code 386 15 388 := Or.inr ⟨by decide +kernel, rfl⟩
theorem own_d_code_388 : own_al code 388 6 390 := Or.inr ⟨by decide +kernel, rfl⟩
theorem own_d_code_390 : own_il code 390 8 392 := Or.inr ⟨by decide +kernel, rfl⟩
theorem own_d_code_392 : own_il code 392 14 394 := Or.inr ⟨by decide +kernel, rfl⟩
theorem own_d_code_394 : own_ix code 394 .iadd 1 395 := ⟨by decide +kernel, rfl⟩
theorem own_d_code_395 : own_al code 395 6 397 := Or.inr ⟨by decide +kernel, rfl⟩
theorem own_d_code_397 : own_il code 397 8 399 := Or.inr ⟨by decide +kernel, rfl⟩
theorem own_d_code_399 : own_il code 399 14 401 := Or.inr ⟨by decide +kernel, rfl⟩
theorem own_d_code_401 : own_ix code 401 .iadd 1 402 := ⟨by decide +kernel, rfl⟩
theorem own_d_code_402 : own_ix code 402 .baload 1 403 := ⟨by decide +kernel, rfl⟩
theorem own_d_code_403 : own_il code 403 15 405 := Or.inr ⟨by decide +kernel, rfl⟩
theorem own_d_code_405 : own_ix code 405 .ixor 1 406 := ⟨by decide +kernel, rfl⟩
theorem own_d_code_406 : own_ix code 406 .i2b 1 407 := ⟨by decide +kernel, rfl⟩
theorem own_d_code_407 : own_ix code 407 .bastore 1 408 := ⟨by decide +kernel, rfl⟩
theorem own_d_code_408 : own_al code 408 6 410 := Or.inr ⟨by decide +kernel, rfl⟩
theorem own_d_code_410 : own_il code 410 8 412 := Or.inr ⟨by decide +kernel, rfl⟩
theorem own_d_code_412 : own_il code 412 9 414 := Or.inr ⟨by decide +kernel, rfl⟩
theorem own_d_code_414 : own_ix code 414 (.invokestatic 7) 3 417 := ⟨by decide +kernel, rfl⟩
theorem own_d_code_417 : own_ll code 417 10 419 := Or.inr ⟨by decide +kernel, rfl⟩
theorem own_d_code_419 : own_ix code 419 .lcmp 1 420 := ⟨by decide +kernel, rfl⟩
theorem own_d_code_420 : own_ifc code 420 .eq 423 427 := ⟨7, by decide +kernel, rfl, by decide, by decide⟩
theorem own_d_code_423 : own_ik code 423 1 424 := ⟨1, Or.inl ⟨by decide +kernel, by decide, rfl⟩⟩
theorem own_d_code_424 : own_gt code 424 428 := ⟨4, by decide +kernel, by decide, by decide⟩
theorem own_d_code_428 : own_ix code 428 .ireturn 1 429 := ⟨by decide +kernel, rfl⟩
theorem own_pn_com_example_depth2_depth2_MarkingStoreHashPinLaw : plainName "com/example/depth2/depth2/MarkingStoreHashPinLaw" = true := by first | (simp [plainName, overriddenIn]; done) | decide +kernel
set_option maxRecDepth 65536 in
set_option maxHeartbeats 40000000 in
theorem own_hash (l : Launch) (Z : State) (a0 : Array Value) (hw : ∀ d ∈ tables_1, d.before a0 Z = true) (a : Addr) (k : Nat) (cn : Int32) (n N : Nat) (g : Nat → Value) (f : Nat → Int32) (h0 : Heap) (n0 : Nat) (Z0 : n0 ≤ h0.size) (V : own_AF Z h0 a .byte N g) (hm : own_idx cn n) (hN : N < 2147483648) (hb : k + n ≤ N) (hf : ∀ i, i < n → g (k + i) = .int (f i)) :
    own_Con l Z n0 (⟨"com/example/depth2/depth2/MarkingStore", "hash", "([BII)J"⟩ : MethodName) prog_25_method_5_code 6 (some .long) ({ frames := 0, cells := 0, slots := 0, locals := 0 } : Room) [] #[(.ref a), (.int (Int32.ofNat k)), (.int cn)] h0 (fun v h' => v = some (.long (own_fin (own_fnv f n))) ∧ h' = h0) := by
  refine own_enter (plainFor_of_name own_pn_com_example_depth2_depth2_MarkingStore) Z0 #[.val (.ref a), .val (.int (Int32.ofNat k)), .val (.int cn), .unset, .unset, .unset] (fun m => by first | (simp [entryFrame, mkF, argsToLocals, Value.category]; done) | rfl) ?_
  intro p e s m below meth c T A X0 hret hnm fin
  refine own_ldc2 X0 (hw _ (List.mem_of_getElem? (i := 5) rfl)) own_d_prog_25_method_5_code_0 ?_
  refine own_lstore X0 #[.val (.ref a), .val (.int (Int32.ofNat k)), .val (.int cn), .val (.long (-7046029254386353131 : Int64)), .second, .unset] own_d_prog_25_method_5_code_3 rfl ?_
  refine own_iload X0 own_d_prog_25_method_5_code_4 rfl ?_
  refine own_istore X0 #[.val (.ref a), .val (.int (Int32.ofNat k)), .val (.int cn), .val (.long (-7046029254386353131 : Int64)), .second, .val (.int (Int32.ofNat k))] own_d_prog_25_method_5_code_5 rfl ?_
  have hk0 : own_idx (Int32.ofNat k) k := own_idx_nat (by omega)
  suffices LOOP : ∀ (q i : Nat), i + q = n → own_Wins p e below A T (mkF m 7 #[.val (.ref a), .val (.int (Int32.ofNat k)), .val (.int cn), .val (.long (own_fnv f i)), .second, .val (.int (Int32.ofNat (k + i)))] []) by
    exact LOOP n 0 (by omega)
  intro q
  induction q with
  | zero =>
    intro i hi
    have hi8 : own_idx (Int32.ofNat (k + i)) (k + i) := own_idx_nat (by omega)
    refine own_iload X0 own_d_prog_25_method_5_code_7 rfl ?_
    refine own_iload X0 own_d_prog_25_method_5_code_9 rfl ?_
    refine own_iload X0 own_d_prog_25_method_5_code_10 rfl ?_
    refine own_iadd X0 own_d_prog_25_method_5_code_11 ?_
    refine own_icYes X0 own_d_prog_25_method_5_code_12 (flt (mt (own_idx_lt hi8 (own_idx_add hk0 hm (by omega))).mp (by omega))).2.1 ?_
    refine own_lload X0 own_d_prog_25_method_5_code_37 rfl ?_
    refine own_lload X0 own_d_prog_25_method_5_code_38 rfl ?_
    refine own_ipush X0 own_d_prog_25_method_5_code_39 ?_
    refine own_lushr X0 own_d_prog_25_method_5_code_41 ?_
    refine own_lxor X0 own_d_prog_25_method_5_code_42 ?_
    refine own_lstore X0 #[.val (.ref a), .val (.int (Int32.ofNat k)), .val (.int cn), .val (.long ((own_fnv f i) ^^^ (own_Lushr (own_fnv f i) (32 : Int32)))), .second, .val (.int (Int32.ofNat (k + i)))] own_d_prog_25_method_5_code_43 rfl ?_
    refine own_lload X0 own_d_prog_25_method_5_code_44 rfl ?_
    refine own_ldc2 X0 (hw _ (List.mem_of_getElem? (i := 6) rfl)) own_d_prog_25_method_5_code_45 ?_
    refine own_lmul X0 own_d_prog_25_method_5_code_48 ?_
    refine own_lstore X0 #[.val (.ref a), .val (.int (Int32.ofNat k)), .val (.int cn), .val (.long (((own_fnv f i) ^^^ (own_Lushr (own_fnv f i) (32 : Int32))) * (-2960836687051489901 : Int64))), .second, .val (.int (Int32.ofNat (k + i)))] own_d_prog_25_method_5_code_49 rfl ?_
    refine own_lload X0 own_d_prog_25_method_5_code_50 rfl ?_
    refine own_lload X0 own_d_prog_25_method_5_code_51 rfl ?_
    refine own_ipush X0 own_d_prog_25_method_5_code_52 ?_
    refine own_lushr X0 own_d_prog_25_method_5_code_54 ?_
    refine own_lxor X0 own_d_prog_25_method_5_code_55 ?_
    exact own_retJ X0 hret fin (by decide) (by decide) ⟨by obtain rfl : i = n := (by omega); rfl, rfl⟩ own_d_prog_25_method_5_code_56
  | succ q ih =>
    intro i hi
    have hi8 : own_idx (Int32.ofNat (k + i)) (k + i) := own_idx_nat (by omega)
    refine own_iload X0 own_d_prog_25_method_5_code_7 rfl ?_
    refine own_iload X0 own_d_prog_25_method_5_code_9 rfl ?_
    refine own_iload X0 own_d_prog_25_method_5_code_10 rfl ?_
    refine own_iadd X0 own_d_prog_25_method_5_code_11 ?_
    refine own_icNo X0 own_d_prog_25_method_5_code_12 (tlt ((own_idx_lt hi8 (own_idx_add hk0 hm (by omega))).mpr (by omega))).2.1 ?_
    refine own_lload X0 own_d_prog_25_method_5_code_15 rfl ?_
    refine own_aload X0 own_d_prog_25_method_5_code_16 rfl ?_
    refine own_iload X0 own_d_prog_25_method_5_code_17 rfl ?_
    refine own_baloadF X0 V (i := (k + i)) hi8 (by omega) (hf i (by omega)) own_d_prog_25_method_5_code_19 ?_
    refine own_ipush X0 own_d_prog_25_method_5_code_20 ?_
    refine own_iand X0 own_d_prog_25_method_5_code_23 ?_
    refine own_i2l X0 own_d_prog_25_method_5_code_24 ?_
    refine own_lxor X0 own_d_prog_25_method_5_code_25 ?_
    refine own_ldc2 X0 (hw _ (List.mem_of_getElem? (i := 7) rfl)) own_d_prog_25_method_5_code_26 ?_
    refine own_lmul X0 own_d_prog_25_method_5_code_29 ?_
    refine own_lstore X0 #[.val (.ref a), .val (.int (Int32.ofNat k)), .val (.int cn), .val (.long (((own_fnv f i) ^^^ ((((f i) &&& (255 : Int32))).toInt64)) * (1099511628211 : Int64))), .second, .val (.int (Int32.ofNat (k + i)))] own_d_prog_25_method_5_code_30 rfl ?_
    refine own_iinc X0 #[.val (.ref a), .val (.int (Int32.ofNat k)), .val (.int cn), .val (.long (((own_fnv f i) ^^^ ((((f i) &&& (255 : Int32))).toInt64)) * (1099511628211 : Int64))), .second, .val (.int ((Int32.ofNat (k + i)) + (1 : Int32)))] own_d_prog_25_method_5_code_31 rfl rfl ?_
    refine own_goto X0 own_d_prog_25_method_5_code_34 ?_
    rw [own_succ]
    exact ih (i + 1) (by omega)
set_option maxRecDepth 65536 in
set_option maxHeartbeats 40000000 in
theorem own_law (l : Launch) (Z : State) (a0 : Array Value) (hw : ∀ d ∈ tables_1, d.before a0 Z = true) (i0 i1 : Int64) (i2 : Int32) (h0 : Heap) (n0 : Nat) (Z0 : n0 ≤ h0.size)  :
    own_Con l Z n0 x code maxLocals ret room_1 tables_1 #[(.long i0), (.long i1), (.int i2)] h0 (fun v _ => v = some (.int 1)) := by
  refine own_enter (plainFor_of_name own_pn_com_example_depth2_depth2_MarkingStoreHashPinLaw) Z0 #[.val (.long i0), .second, .val (.long i1), .second, .val (.int i2), .unset, .unset, .unset, .unset, .unset, .unset, .unset, .unset, .unset, .unset, .unset] (fun m => by first | (simp [entryFrame, mkF, argsToLocals, Value.category, maxLocals]; done) | rfl) ?_
  intro p e s m below meth c T A X0 hret hnm fin
  refine own_ipush X0 own_d_code_0 ?_
  refine own_newarr X0 (hw _ (List.mem_of_getElem? (i := 0) rfl)) own_d_code_2 (n := 8) ⟨by decide, by decide⟩ 8 (Nat.le_refl _) (by decide) (by decide) (by decide) ?_
  intro T1 h1 b1 X1 E1 g1 ga_b1 V1
  replace V1 : own_AL Z h1 b1 .byte [(.int (0 : Int32)), (.int (0 : Int32)), (.int (0 : Int32)), (.int (0 : Int32)), (.int (0 : Int32)), (.int (0 : Int32)), (.int (0 : Int32)), (.int (0 : Int32))] := V1
  refine own_astore X1 #[.val (.long i0), .second, .val (.long i1), .second, .val (.int i2), .val (.ref b1), .unset, .unset, .unset, .unset, .unset, .unset, .unset, .unset, .unset, .unset] own_d_code_4 rfl ?_
  refine own_ipush X1 own_d_code_6 ?_
  refine own_newarr X1 (hw _ (List.mem_of_getElem? (i := 0) rfl)) own_d_code_8 (n := 8) ⟨by decide, by decide⟩ 8 (Nat.le_refl _) (by decide) (by decide) (by decide) ?_
  intro T2 h2 b2 X2 E2 g2 ga_b2 V2
  have ne_b1_b2 : b1 ≠ b2 := by rw [g2]; exact Nat.ne_of_lt V1.lt
  have F3_b1 : own_AL Z h2 b1 .byte [(.int (0 : Int32)), (.int (0 : Int32)), (.int (0 : Int32)), (.int (0 : Int32)), (.int (0 : Int32)), (.int (0 : Int32)), (.int (0 : Int32)), (.int (0 : Int32))] := V1.ext E2
  replace V2 : own_AL Z h2 b2 .byte [(.int (0 : Int32)), (.int (0 : Int32)), (.int (0 : Int32)), (.int (0 : Int32)), (.int (0 : Int32)), (.int (0 : Int32)), (.int (0 : Int32)), (.int (0 : Int32))] := V2
  refine own_astore X2 #[.val (.long i0), .second, .val (.long i1), .second, .val (.int i2), .val (.ref b1), .val (.ref b2), .unset, .unset, .unset, .unset, .unset, .unset, .unset, .unset, .unset] own_d_code_10 rfl ?_
  refine own_aload X2 own_d_code_12 rfl ?_
  refine own_ipush X2 own_d_code_14 ?_
  refine own_lload X2 own_d_code_15 rfl ?_
  refine own_l2i X2 own_d_code_16 ?_
  refine own_i2b X2 own_d_code_17 ?_
  refine own_bastore X2 F3_b1 ga_b1 (i := 0) ⟨by decide, by decide⟩ (Nat.le_of_ble_eq_true rfl) own_d_code_18 ?_
  intro T4 h4 X4 W4 V4
  replace V4 : own_AL Z h4 b1 .byte [(.int ((((i0).toInt32)).toInt8.toInt32).toInt8.toInt32), (.int (0 : Int32)), (.int (0 : Int32)), (.int (0 : Int32)), (.int (0 : Int32)), (.int (0 : Int32)), (.int (0 : Int32)), (.int (0 : Int32))] := V4
  have F5_b2 : own_AL Z h4 b2 .byte [(.int (0 : Int32)), (.int (0 : Int32)), (.int (0 : Int32)), (.int (0 : Int32)), (.int (0 : Int32)), (.int (0 : Int32)), (.int (0 : Int32)), (.int (0 : Int32))] := V2.other W4 (Ne.symm ne_b1_b2)
  refine own_aload X4 own_d_code_19 rfl ?_
  refine own_ipush X4 own_d_code_21 ?_
  refine own_lload X4 own_d_code_22 rfl ?_
  refine own_ipush X4 own_d_code_23 ?_
  refine own_lushr X4 own_d_code_25 ?_
  refine own_l2i X4 own_d_code_26 ?_
  refine own_i2b X4 own_d_code_27 ?_
  refine own_bastore X4 V4 ga_b1 (i := 1) ⟨by decide, by decide⟩ (Nat.le_of_ble_eq_true rfl) own_d_code_28 ?_
  intro T6 h6 X6 W6 V6
  replace V6 : own_AL Z h6 b1 .byte [(.int ((((i0).toInt32)).toInt8.toInt32).toInt8.toInt32), (.int (((((own_Lushr i0 (8 : Int32))).toInt32)).toInt8.toInt32).toInt8.toInt32), (.int (0 : Int32)), (.int (0 : Int32)), (.int (0 : Int32)), (.int (0 : Int32)), (.int (0 : Int32)), (.int (0 : Int32))] := V6
  have F7_b2 : own_AL Z h6 b2 .byte [(.int (0 : Int32)), (.int (0 : Int32)), (.int (0 : Int32)), (.int (0 : Int32)), (.int (0 : Int32)), (.int (0 : Int32)), (.int (0 : Int32)), (.int (0 : Int32))] := F5_b2.other W6 (Ne.symm ne_b1_b2)
  refine own_aload X6 own_d_code_29 rfl ?_
  refine own_ipush X6 own_d_code_31 ?_
  refine own_lload X6 own_d_code_32 rfl ?_
  refine own_ipush X6 own_d_code_33 ?_
  refine own_lushr X6 own_d_code_35 ?_
  refine own_l2i X6 own_d_code_36 ?_
  refine own_i2b X6 own_d_code_37 ?_
  refine own_bastore X6 V6 ga_b1 (i := 2) ⟨by decide, by decide⟩ (Nat.le_of_ble_eq_true rfl) own_d_code_38 ?_
  intro T8 h8 X8 W8 V8
  replace V8 : own_AL Z h8 b1 .byte [(.int ((((i0).toInt32)).toInt8.toInt32).toInt8.toInt32), (.int (((((own_Lushr i0 (8 : Int32))).toInt32)).toInt8.toInt32).toInt8.toInt32), (.int (((((own_Lushr i0 (16 : Int32))).toInt32)).toInt8.toInt32).toInt8.toInt32), (.int (0 : Int32)), (.int (0 : Int32)), (.int (0 : Int32)), (.int (0 : Int32)), (.int (0 : Int32))] := V8
  have F9_b2 : own_AL Z h8 b2 .byte [(.int (0 : Int32)), (.int (0 : Int32)), (.int (0 : Int32)), (.int (0 : Int32)), (.int (0 : Int32)), (.int (0 : Int32)), (.int (0 : Int32)), (.int (0 : Int32))] := F7_b2.other W8 (Ne.symm ne_b1_b2)
  refine own_aload X8 own_d_code_39 rfl ?_
  refine own_ipush X8 own_d_code_41 ?_
  refine own_lload X8 own_d_code_42 rfl ?_
  refine own_ipush X8 own_d_code_43 ?_
  refine own_lushr X8 own_d_code_45 ?_
  refine own_l2i X8 own_d_code_46 ?_
  refine own_i2b X8 own_d_code_47 ?_
  refine own_bastore X8 V8 ga_b1 (i := 3) ⟨by decide, by decide⟩ (Nat.le_of_ble_eq_true rfl) own_d_code_48 ?_
  intro T10 h10 X10 W10 V10
  replace V10 : own_AL Z h10 b1 .byte [(.int ((((i0).toInt32)).toInt8.toInt32).toInt8.toInt32), (.int (((((own_Lushr i0 (8 : Int32))).toInt32)).toInt8.toInt32).toInt8.toInt32), (.int (((((own_Lushr i0 (16 : Int32))).toInt32)).toInt8.toInt32).toInt8.toInt32), (.int (((((own_Lushr i0 (24 : Int32))).toInt32)).toInt8.toInt32).toInt8.toInt32), (.int (0 : Int32)), (.int (0 : Int32)), (.int (0 : Int32)), (.int (0 : Int32))] := V10
  have F11_b2 : own_AL Z h10 b2 .byte [(.int (0 : Int32)), (.int (0 : Int32)), (.int (0 : Int32)), (.int (0 : Int32)), (.int (0 : Int32)), (.int (0 : Int32)), (.int (0 : Int32)), (.int (0 : Int32))] := F9_b2.other W10 (Ne.symm ne_b1_b2)
  refine own_aload X10 own_d_code_49 rfl ?_
  refine own_ipush X10 own_d_code_51 ?_
  refine own_lload X10 own_d_code_52 rfl ?_
  refine own_ipush X10 own_d_code_53 ?_
  refine own_lushr X10 own_d_code_55 ?_
  refine own_l2i X10 own_d_code_56 ?_
  refine own_i2b X10 own_d_code_57 ?_
  refine own_bastore X10 V10 ga_b1 (i := 4) ⟨by decide, by decide⟩ (Nat.le_of_ble_eq_true rfl) own_d_code_58 ?_
  intro T12 h12 X12 W12 V12
  replace V12 : own_AL Z h12 b1 .byte [(.int ((((i0).toInt32)).toInt8.toInt32).toInt8.toInt32), (.int (((((own_Lushr i0 (8 : Int32))).toInt32)).toInt8.toInt32).toInt8.toInt32), (.int (((((own_Lushr i0 (16 : Int32))).toInt32)).toInt8.toInt32).toInt8.toInt32), (.int (((((own_Lushr i0 (24 : Int32))).toInt32)).toInt8.toInt32).toInt8.toInt32), (.int (((((own_Lushr i0 (32 : Int32))).toInt32)).toInt8.toInt32).toInt8.toInt32), (.int (0 : Int32)), (.int (0 : Int32)), (.int (0 : Int32))] := V12
  have F13_b2 : own_AL Z h12 b2 .byte [(.int (0 : Int32)), (.int (0 : Int32)), (.int (0 : Int32)), (.int (0 : Int32)), (.int (0 : Int32)), (.int (0 : Int32)), (.int (0 : Int32)), (.int (0 : Int32))] := F11_b2.other W12 (Ne.symm ne_b1_b2)
  refine own_aload X12 own_d_code_59 rfl ?_
  refine own_ipush X12 own_d_code_61 ?_
  refine own_lload X12 own_d_code_62 rfl ?_
  refine own_ipush X12 own_d_code_63 ?_
  refine own_lushr X12 own_d_code_65 ?_
  refine own_l2i X12 own_d_code_66 ?_
  refine own_i2b X12 own_d_code_67 ?_
  refine own_bastore X12 V12 ga_b1 (i := 5) ⟨by decide, by decide⟩ (Nat.le_of_ble_eq_true rfl) own_d_code_68 ?_
  intro T14 h14 X14 W14 V14
  replace V14 : own_AL Z h14 b1 .byte [(.int ((((i0).toInt32)).toInt8.toInt32).toInt8.toInt32), (.int (((((own_Lushr i0 (8 : Int32))).toInt32)).toInt8.toInt32).toInt8.toInt32), (.int (((((own_Lushr i0 (16 : Int32))).toInt32)).toInt8.toInt32).toInt8.toInt32), (.int (((((own_Lushr i0 (24 : Int32))).toInt32)).toInt8.toInt32).toInt8.toInt32), (.int (((((own_Lushr i0 (32 : Int32))).toInt32)).toInt8.toInt32).toInt8.toInt32), (.int (((((own_Lushr i0 (40 : Int32))).toInt32)).toInt8.toInt32).toInt8.toInt32), (.int (0 : Int32)), (.int (0 : Int32))] := V14
  have F15_b2 : own_AL Z h14 b2 .byte [(.int (0 : Int32)), (.int (0 : Int32)), (.int (0 : Int32)), (.int (0 : Int32)), (.int (0 : Int32)), (.int (0 : Int32)), (.int (0 : Int32)), (.int (0 : Int32))] := F13_b2.other W14 (Ne.symm ne_b1_b2)
  refine own_aload X14 own_d_code_69 rfl ?_
  refine own_ipush X14 own_d_code_71 ?_
  refine own_lload X14 own_d_code_73 rfl ?_
  refine own_ipush X14 own_d_code_74 ?_
  refine own_lushr X14 own_d_code_76 ?_
  refine own_l2i X14 own_d_code_77 ?_
  refine own_i2b X14 own_d_code_78 ?_
  refine own_bastore X14 V14 ga_b1 (i := 6) ⟨by decide, by decide⟩ (Nat.le_of_ble_eq_true rfl) own_d_code_79 ?_
  intro T16 h16 X16 W16 V16
  replace V16 : own_AL Z h16 b1 .byte [(.int ((((i0).toInt32)).toInt8.toInt32).toInt8.toInt32), (.int (((((own_Lushr i0 (8 : Int32))).toInt32)).toInt8.toInt32).toInt8.toInt32), (.int (((((own_Lushr i0 (16 : Int32))).toInt32)).toInt8.toInt32).toInt8.toInt32), (.int (((((own_Lushr i0 (24 : Int32))).toInt32)).toInt8.toInt32).toInt8.toInt32), (.int (((((own_Lushr i0 (32 : Int32))).toInt32)).toInt8.toInt32).toInt8.toInt32), (.int (((((own_Lushr i0 (40 : Int32))).toInt32)).toInt8.toInt32).toInt8.toInt32), (.int (((((own_Lushr i0 (48 : Int32))).toInt32)).toInt8.toInt32).toInt8.toInt32), (.int (0 : Int32))] := V16
  have F17_b2 : own_AL Z h16 b2 .byte [(.int (0 : Int32)), (.int (0 : Int32)), (.int (0 : Int32)), (.int (0 : Int32)), (.int (0 : Int32)), (.int (0 : Int32)), (.int (0 : Int32)), (.int (0 : Int32))] := F15_b2.other W16 (Ne.symm ne_b1_b2)
  refine own_aload X16 own_d_code_80 rfl ?_
  refine own_ipush X16 own_d_code_82 ?_
  refine own_lload X16 own_d_code_84 rfl ?_
  refine own_ipush X16 own_d_code_85 ?_
  refine own_lushr X16 own_d_code_87 ?_
  refine own_l2i X16 own_d_code_88 ?_
  refine own_i2b X16 own_d_code_89 ?_
  refine own_bastore X16 V16 ga_b1 (i := 7) ⟨by decide, by decide⟩ (Nat.le_of_ble_eq_true rfl) own_d_code_90 ?_
  intro T18 h18 X18 W18 V18
  replace V18 : own_AL Z h18 b1 .byte [(.int ((((i0).toInt32)).toInt8.toInt32).toInt8.toInt32), (.int (((((own_Lushr i0 (8 : Int32))).toInt32)).toInt8.toInt32).toInt8.toInt32), (.int (((((own_Lushr i0 (16 : Int32))).toInt32)).toInt8.toInt32).toInt8.toInt32), (.int (((((own_Lushr i0 (24 : Int32))).toInt32)).toInt8.toInt32).toInt8.toInt32), (.int (((((own_Lushr i0 (32 : Int32))).toInt32)).toInt8.toInt32).toInt8.toInt32), (.int (((((own_Lushr i0 (40 : Int32))).toInt32)).toInt8.toInt32).toInt8.toInt32), (.int (((((own_Lushr i0 (48 : Int32))).toInt32)).toInt8.toInt32).toInt8.toInt32), (.int (((((own_Lushr i0 (56 : Int32))).toInt32)).toInt8.toInt32).toInt8.toInt32)] := V18
  have F19_b2 : own_AL Z h18 b2 .byte [(.int (0 : Int32)), (.int (0 : Int32)), (.int (0 : Int32)), (.int (0 : Int32)), (.int (0 : Int32)), (.int (0 : Int32)), (.int (0 : Int32)), (.int (0 : Int32))] := F17_b2.other W18 (Ne.symm ne_b1_b2)
  refine own_aload X18 own_d_code_91 rfl ?_
  refine own_ipush X18 own_d_code_93 ?_
  refine own_lload X18 own_d_code_94 rfl ?_
  refine own_l2i X18 own_d_code_95 ?_
  refine own_i2b X18 own_d_code_96 ?_
  refine own_bastore X18 F19_b2 ga_b2 (i := 0) ⟨by decide, by decide⟩ (Nat.le_of_ble_eq_true rfl) own_d_code_97 ?_
  intro T20 h20 X20 W20 V20
  replace V20 : own_AL Z h20 b2 .byte [(.int ((((i1).toInt32)).toInt8.toInt32).toInt8.toInt32), (.int (0 : Int32)), (.int (0 : Int32)), (.int (0 : Int32)), (.int (0 : Int32)), (.int (0 : Int32)), (.int (0 : Int32)), (.int (0 : Int32))] := V20
  have F21_b1 : own_AL Z h20 b1 .byte [(.int ((((i0).toInt32)).toInt8.toInt32).toInt8.toInt32), (.int (((((own_Lushr i0 (8 : Int32))).toInt32)).toInt8.toInt32).toInt8.toInt32), (.int (((((own_Lushr i0 (16 : Int32))).toInt32)).toInt8.toInt32).toInt8.toInt32), (.int (((((own_Lushr i0 (24 : Int32))).toInt32)).toInt8.toInt32).toInt8.toInt32), (.int (((((own_Lushr i0 (32 : Int32))).toInt32)).toInt8.toInt32).toInt8.toInt32), (.int (((((own_Lushr i0 (40 : Int32))).toInt32)).toInt8.toInt32).toInt8.toInt32), (.int (((((own_Lushr i0 (48 : Int32))).toInt32)).toInt8.toInt32).toInt8.toInt32), (.int (((((own_Lushr i0 (56 : Int32))).toInt32)).toInt8.toInt32).toInt8.toInt32)] := V18.other W20 (Ne.symm (Ne.symm ne_b1_b2))
  refine own_aload X20 own_d_code_98 rfl ?_
  refine own_ipush X20 own_d_code_100 ?_
  refine own_lload X20 own_d_code_101 rfl ?_
  refine own_ipush X20 own_d_code_102 ?_
  refine own_lushr X20 own_d_code_104 ?_
  refine own_l2i X20 own_d_code_105 ?_
  refine own_i2b X20 own_d_code_106 ?_
  refine own_bastore X20 V20 ga_b2 (i := 1) ⟨by decide, by decide⟩ (Nat.le_of_ble_eq_true rfl) own_d_code_107 ?_
  intro T22 h22 X22 W22 V22
  replace V22 : own_AL Z h22 b2 .byte [(.int ((((i1).toInt32)).toInt8.toInt32).toInt8.toInt32), (.int (((((own_Lushr i1 (8 : Int32))).toInt32)).toInt8.toInt32).toInt8.toInt32), (.int (0 : Int32)), (.int (0 : Int32)), (.int (0 : Int32)), (.int (0 : Int32)), (.int (0 : Int32)), (.int (0 : Int32))] := V22
  have F23_b1 : own_AL Z h22 b1 .byte [(.int ((((i0).toInt32)).toInt8.toInt32).toInt8.toInt32), (.int (((((own_Lushr i0 (8 : Int32))).toInt32)).toInt8.toInt32).toInt8.toInt32), (.int (((((own_Lushr i0 (16 : Int32))).toInt32)).toInt8.toInt32).toInt8.toInt32), (.int (((((own_Lushr i0 (24 : Int32))).toInt32)).toInt8.toInt32).toInt8.toInt32), (.int (((((own_Lushr i0 (32 : Int32))).toInt32)).toInt8.toInt32).toInt8.toInt32), (.int (((((own_Lushr i0 (40 : Int32))).toInt32)).toInt8.toInt32).toInt8.toInt32), (.int (((((own_Lushr i0 (48 : Int32))).toInt32)).toInt8.toInt32).toInt8.toInt32), (.int (((((own_Lushr i0 (56 : Int32))).toInt32)).toInt8.toInt32).toInt8.toInt32)] := F21_b1.other W22 (Ne.symm (Ne.symm ne_b1_b2))
  refine own_aload X22 own_d_code_108 rfl ?_
  refine own_ipush X22 own_d_code_110 ?_
  refine own_lload X22 own_d_code_111 rfl ?_
  refine own_ipush X22 own_d_code_112 ?_
  refine own_lushr X22 own_d_code_114 ?_
  refine own_l2i X22 own_d_code_115 ?_
  refine own_i2b X22 own_d_code_116 ?_
  refine own_bastore X22 V22 ga_b2 (i := 2) ⟨by decide, by decide⟩ (Nat.le_of_ble_eq_true rfl) own_d_code_117 ?_
  intro T24 h24 X24 W24 V24
  replace V24 : own_AL Z h24 b2 .byte [(.int ((((i1).toInt32)).toInt8.toInt32).toInt8.toInt32), (.int (((((own_Lushr i1 (8 : Int32))).toInt32)).toInt8.toInt32).toInt8.toInt32), (.int (((((own_Lushr i1 (16 : Int32))).toInt32)).toInt8.toInt32).toInt8.toInt32), (.int (0 : Int32)), (.int (0 : Int32)), (.int (0 : Int32)), (.int (0 : Int32)), (.int (0 : Int32))] := V24
  have F25_b1 : own_AL Z h24 b1 .byte [(.int ((((i0).toInt32)).toInt8.toInt32).toInt8.toInt32), (.int (((((own_Lushr i0 (8 : Int32))).toInt32)).toInt8.toInt32).toInt8.toInt32), (.int (((((own_Lushr i0 (16 : Int32))).toInt32)).toInt8.toInt32).toInt8.toInt32), (.int (((((own_Lushr i0 (24 : Int32))).toInt32)).toInt8.toInt32).toInt8.toInt32), (.int (((((own_Lushr i0 (32 : Int32))).toInt32)).toInt8.toInt32).toInt8.toInt32), (.int (((((own_Lushr i0 (40 : Int32))).toInt32)).toInt8.toInt32).toInt8.toInt32), (.int (((((own_Lushr i0 (48 : Int32))).toInt32)).toInt8.toInt32).toInt8.toInt32), (.int (((((own_Lushr i0 (56 : Int32))).toInt32)).toInt8.toInt32).toInt8.toInt32)] := F23_b1.other W24 (Ne.symm (Ne.symm ne_b1_b2))
  refine own_aload X24 own_d_code_118 rfl ?_
  refine own_ipush X24 own_d_code_120 ?_
  refine own_lload X24 own_d_code_121 rfl ?_
  refine own_ipush X24 own_d_code_122 ?_
  refine own_lushr X24 own_d_code_124 ?_
  refine own_l2i X24 own_d_code_125 ?_
  refine own_i2b X24 own_d_code_126 ?_
  refine own_bastore X24 V24 ga_b2 (i := 3) ⟨by decide, by decide⟩ (Nat.le_of_ble_eq_true rfl) own_d_code_127 ?_
  intro T26 h26 X26 W26 V26
  replace V26 : own_AL Z h26 b2 .byte [(.int ((((i1).toInt32)).toInt8.toInt32).toInt8.toInt32), (.int (((((own_Lushr i1 (8 : Int32))).toInt32)).toInt8.toInt32).toInt8.toInt32), (.int (((((own_Lushr i1 (16 : Int32))).toInt32)).toInt8.toInt32).toInt8.toInt32), (.int (((((own_Lushr i1 (24 : Int32))).toInt32)).toInt8.toInt32).toInt8.toInt32), (.int (0 : Int32)), (.int (0 : Int32)), (.int (0 : Int32)), (.int (0 : Int32))] := V26
  have F27_b1 : own_AL Z h26 b1 .byte [(.int ((((i0).toInt32)).toInt8.toInt32).toInt8.toInt32), (.int (((((own_Lushr i0 (8 : Int32))).toInt32)).toInt8.toInt32).toInt8.toInt32), (.int (((((own_Lushr i0 (16 : Int32))).toInt32)).toInt8.toInt32).toInt8.toInt32), (.int (((((own_Lushr i0 (24 : Int32))).toInt32)).toInt8.toInt32).toInt8.toInt32), (.int (((((own_Lushr i0 (32 : Int32))).toInt32)).toInt8.toInt32).toInt8.toInt32), (.int (((((own_Lushr i0 (40 : Int32))).toInt32)).toInt8.toInt32).toInt8.toInt32), (.int (((((own_Lushr i0 (48 : Int32))).toInt32)).toInt8.toInt32).toInt8.toInt32), (.int (((((own_Lushr i0 (56 : Int32))).toInt32)).toInt8.toInt32).toInt8.toInt32)] := F25_b1.other W26 (Ne.symm (Ne.symm ne_b1_b2))
  refine own_aload X26 own_d_code_128 rfl ?_
  refine own_ipush X26 own_d_code_130 ?_
  refine own_lload X26 own_d_code_131 rfl ?_
  refine own_ipush X26 own_d_code_132 ?_
  refine own_lushr X26 own_d_code_134 ?_
  refine own_l2i X26 own_d_code_135 ?_
  refine own_i2b X26 own_d_code_136 ?_
  refine own_bastore X26 V26 ga_b2 (i := 4) ⟨by decide, by decide⟩ (Nat.le_of_ble_eq_true rfl) own_d_code_137 ?_
  intro T28 h28 X28 W28 V28
  replace V28 : own_AL Z h28 b2 .byte [(.int ((((i1).toInt32)).toInt8.toInt32).toInt8.toInt32), (.int (((((own_Lushr i1 (8 : Int32))).toInt32)).toInt8.toInt32).toInt8.toInt32), (.int (((((own_Lushr i1 (16 : Int32))).toInt32)).toInt8.toInt32).toInt8.toInt32), (.int (((((own_Lushr i1 (24 : Int32))).toInt32)).toInt8.toInt32).toInt8.toInt32), (.int (((((own_Lushr i1 (32 : Int32))).toInt32)).toInt8.toInt32).toInt8.toInt32), (.int (0 : Int32)), (.int (0 : Int32)), (.int (0 : Int32))] := V28
  have F29_b1 : own_AL Z h28 b1 .byte [(.int ((((i0).toInt32)).toInt8.toInt32).toInt8.toInt32), (.int (((((own_Lushr i0 (8 : Int32))).toInt32)).toInt8.toInt32).toInt8.toInt32), (.int (((((own_Lushr i0 (16 : Int32))).toInt32)).toInt8.toInt32).toInt8.toInt32), (.int (((((own_Lushr i0 (24 : Int32))).toInt32)).toInt8.toInt32).toInt8.toInt32), (.int (((((own_Lushr i0 (32 : Int32))).toInt32)).toInt8.toInt32).toInt8.toInt32), (.int (((((own_Lushr i0 (40 : Int32))).toInt32)).toInt8.toInt32).toInt8.toInt32), (.int (((((own_Lushr i0 (48 : Int32))).toInt32)).toInt8.toInt32).toInt8.toInt32), (.int (((((own_Lushr i0 (56 : Int32))).toInt32)).toInt8.toInt32).toInt8.toInt32)] := F27_b1.other W28 (Ne.symm (Ne.symm ne_b1_b2))
  refine own_aload X28 own_d_code_138 rfl ?_
  refine own_ipush X28 own_d_code_140 ?_
  refine own_lload X28 own_d_code_141 rfl ?_
  refine own_ipush X28 own_d_code_142 ?_
  refine own_lushr X28 own_d_code_144 ?_
  refine own_l2i X28 own_d_code_145 ?_
  refine own_i2b X28 own_d_code_146 ?_
  refine own_bastore X28 V28 ga_b2 (i := 5) ⟨by decide, by decide⟩ (Nat.le_of_ble_eq_true rfl) own_d_code_147 ?_
  intro T30 h30 X30 W30 V30
  replace V30 : own_AL Z h30 b2 .byte [(.int ((((i1).toInt32)).toInt8.toInt32).toInt8.toInt32), (.int (((((own_Lushr i1 (8 : Int32))).toInt32)).toInt8.toInt32).toInt8.toInt32), (.int (((((own_Lushr i1 (16 : Int32))).toInt32)).toInt8.toInt32).toInt8.toInt32), (.int (((((own_Lushr i1 (24 : Int32))).toInt32)).toInt8.toInt32).toInt8.toInt32), (.int (((((own_Lushr i1 (32 : Int32))).toInt32)).toInt8.toInt32).toInt8.toInt32), (.int (((((own_Lushr i1 (40 : Int32))).toInt32)).toInt8.toInt32).toInt8.toInt32), (.int (0 : Int32)), (.int (0 : Int32))] := V30
  have F31_b1 : own_AL Z h30 b1 .byte [(.int ((((i0).toInt32)).toInt8.toInt32).toInt8.toInt32), (.int (((((own_Lushr i0 (8 : Int32))).toInt32)).toInt8.toInt32).toInt8.toInt32), (.int (((((own_Lushr i0 (16 : Int32))).toInt32)).toInt8.toInt32).toInt8.toInt32), (.int (((((own_Lushr i0 (24 : Int32))).toInt32)).toInt8.toInt32).toInt8.toInt32), (.int (((((own_Lushr i0 (32 : Int32))).toInt32)).toInt8.toInt32).toInt8.toInt32), (.int (((((own_Lushr i0 (40 : Int32))).toInt32)).toInt8.toInt32).toInt8.toInt32), (.int (((((own_Lushr i0 (48 : Int32))).toInt32)).toInt8.toInt32).toInt8.toInt32), (.int (((((own_Lushr i0 (56 : Int32))).toInt32)).toInt8.toInt32).toInt8.toInt32)] := F29_b1.other W30 (Ne.symm (Ne.symm ne_b1_b2))
  refine own_aload X30 own_d_code_148 rfl ?_
  refine own_ipush X30 own_d_code_150 ?_
  refine own_lload X30 own_d_code_152 rfl ?_
  refine own_ipush X30 own_d_code_153 ?_
  refine own_lushr X30 own_d_code_155 ?_
  refine own_l2i X30 own_d_code_156 ?_
  refine own_i2b X30 own_d_code_157 ?_
  refine own_bastore X30 V30 ga_b2 (i := 6) ⟨by decide, by decide⟩ (Nat.le_of_ble_eq_true rfl) own_d_code_158 ?_
  intro T32 h32 X32 W32 V32
  replace V32 : own_AL Z h32 b2 .byte [(.int ((((i1).toInt32)).toInt8.toInt32).toInt8.toInt32), (.int (((((own_Lushr i1 (8 : Int32))).toInt32)).toInt8.toInt32).toInt8.toInt32), (.int (((((own_Lushr i1 (16 : Int32))).toInt32)).toInt8.toInt32).toInt8.toInt32), (.int (((((own_Lushr i1 (24 : Int32))).toInt32)).toInt8.toInt32).toInt8.toInt32), (.int (((((own_Lushr i1 (32 : Int32))).toInt32)).toInt8.toInt32).toInt8.toInt32), (.int (((((own_Lushr i1 (40 : Int32))).toInt32)).toInt8.toInt32).toInt8.toInt32), (.int (((((own_Lushr i1 (48 : Int32))).toInt32)).toInt8.toInt32).toInt8.toInt32), (.int (0 : Int32))] := V32
  have F33_b1 : own_AL Z h32 b1 .byte [(.int ((((i0).toInt32)).toInt8.toInt32).toInt8.toInt32), (.int (((((own_Lushr i0 (8 : Int32))).toInt32)).toInt8.toInt32).toInt8.toInt32), (.int (((((own_Lushr i0 (16 : Int32))).toInt32)).toInt8.toInt32).toInt8.toInt32), (.int (((((own_Lushr i0 (24 : Int32))).toInt32)).toInt8.toInt32).toInt8.toInt32), (.int (((((own_Lushr i0 (32 : Int32))).toInt32)).toInt8.toInt32).toInt8.toInt32), (.int (((((own_Lushr i0 (40 : Int32))).toInt32)).toInt8.toInt32).toInt8.toInt32), (.int (((((own_Lushr i0 (48 : Int32))).toInt32)).toInt8.toInt32).toInt8.toInt32), (.int (((((own_Lushr i0 (56 : Int32))).toInt32)).toInt8.toInt32).toInt8.toInt32)] := F31_b1.other W32 (Ne.symm (Ne.symm ne_b1_b2))
  refine own_aload X32 own_d_code_159 rfl ?_
  refine own_ipush X32 own_d_code_161 ?_
  refine own_lload X32 own_d_code_163 rfl ?_
  refine own_ipush X32 own_d_code_164 ?_
  refine own_lushr X32 own_d_code_166 ?_
  refine own_l2i X32 own_d_code_167 ?_
  refine own_i2b X32 own_d_code_168 ?_
  refine own_bastore X32 V32 ga_b2 (i := 7) ⟨by decide, by decide⟩ (Nat.le_of_ble_eq_true rfl) own_d_code_169 ?_
  intro T34 h34 X34 W34 V34
  replace V34 : own_AL Z h34 b2 .byte [(.int ((((i1).toInt32)).toInt8.toInt32).toInt8.toInt32), (.int (((((own_Lushr i1 (8 : Int32))).toInt32)).toInt8.toInt32).toInt8.toInt32), (.int (((((own_Lushr i1 (16 : Int32))).toInt32)).toInt8.toInt32).toInt8.toInt32), (.int (((((own_Lushr i1 (24 : Int32))).toInt32)).toInt8.toInt32).toInt8.toInt32), (.int (((((own_Lushr i1 (32 : Int32))).toInt32)).toInt8.toInt32).toInt8.toInt32), (.int (((((own_Lushr i1 (40 : Int32))).toInt32)).toInt8.toInt32).toInt8.toInt32), (.int (((((own_Lushr i1 (48 : Int32))).toInt32)).toInt8.toInt32).toInt8.toInt32), (.int (((((own_Lushr i1 (56 : Int32))).toInt32)).toInt8.toInt32).toInt8.toInt32)] := V34
  have F35_b1 : own_AL Z h34 b1 .byte [(.int ((((i0).toInt32)).toInt8.toInt32).toInt8.toInt32), (.int (((((own_Lushr i0 (8 : Int32))).toInt32)).toInt8.toInt32).toInt8.toInt32), (.int (((((own_Lushr i0 (16 : Int32))).toInt32)).toInt8.toInt32).toInt8.toInt32), (.int (((((own_Lushr i0 (24 : Int32))).toInt32)).toInt8.toInt32).toInt8.toInt32), (.int (((((own_Lushr i0 (32 : Int32))).toInt32)).toInt8.toInt32).toInt8.toInt32), (.int (((((own_Lushr i0 (40 : Int32))).toInt32)).toInt8.toInt32).toInt8.toInt32), (.int (((((own_Lushr i0 (48 : Int32))).toInt32)).toInt8.toInt32).toInt8.toInt32), (.int (((((own_Lushr i0 (56 : Int32))).toInt32)).toInt8.toInt32).toInt8.toInt32)] := F33_b1.other W34 (Ne.symm (Ne.symm ne_b1_b2))
  have F36_b1 : own_AF Z h34 b1 .byte 8 (fun j => ([(.int ((((i0).toInt32)).toInt8.toInt32).toInt8.toInt32), (.int (((((own_Lushr i0 (8 : Int32))).toInt32)).toInt8.toInt32).toInt8.toInt32), (.int (((((own_Lushr i0 (16 : Int32))).toInt32)).toInt8.toInt32).toInt8.toInt32), (.int (((((own_Lushr i0 (24 : Int32))).toInt32)).toInt8.toInt32).toInt8.toInt32), (.int (((((own_Lushr i0 (32 : Int32))).toInt32)).toInt8.toInt32).toInt8.toInt32), (.int (((((own_Lushr i0 (40 : Int32))).toInt32)).toInt8.toInt32).toInt8.toInt32), (.int (((((own_Lushr i0 (48 : Int32))).toInt32)).toInt8.toInt32).toInt8.toInt32), (.int (((((own_Lushr i0 (56 : Int32))).toInt32)).toInt8.toInt32).toInt8.toInt32)] : List Value).getD j (.int 0)) := F35_b1.fn 8 rfl (.int 0)
  have F37_b2 : own_AF Z h34 b2 .byte 8 (fun j => ([(.int ((((i1).toInt32)).toInt8.toInt32).toInt8.toInt32), (.int (((((own_Lushr i1 (8 : Int32))).toInt32)).toInt8.toInt32).toInt8.toInt32), (.int (((((own_Lushr i1 (16 : Int32))).toInt32)).toInt8.toInt32).toInt8.toInt32), (.int (((((own_Lushr i1 (24 : Int32))).toInt32)).toInt8.toInt32).toInt8.toInt32), (.int (((((own_Lushr i1 (32 : Int32))).toInt32)).toInt8.toInt32).toInt8.toInt32), (.int (((((own_Lushr i1 (40 : Int32))).toInt32)).toInt8.toInt32).toInt8.toInt32), (.int (((((own_Lushr i1 (48 : Int32))).toInt32)).toInt8.toInt32).toInt8.toInt32), (.int (((((own_Lushr i1 (56 : Int32))).toInt32)).toInt8.toInt32).toInt8.toInt32)] : List Value).getD j (.int 0)) := V34.fn 8 rfl (.int 0)
  have byt : ∀ (vs : List Value), (∀ v ∈ vs, ∃ z, v = Value.int z) → ∃ f : Nat → Int32, ∀ j, vs.getD j (.int 0) = .int (f j) := by
    intro vs hvs
    have key : ∀ j, ∃ z, vs.getD j (.int 0) = Value.int z := fun j => by
      rw [List.getD_eq_getElem?_getD]
      cases hj : vs[j]? with
      | none => exact ⟨0, rfl⟩
      | some v => obtain ⟨z, rfl⟩ := hvs v (List.mem_of_getElem? hj); exact ⟨z, rfl⟩
    exact ⟨fun j => Classical.choose (key j), fun j => Classical.choose_spec (key j)⟩
  obtain ⟨fa, hfa⟩ := byt [(.int ((((i0).toInt32)).toInt8.toInt32).toInt8.toInt32), (.int (((((own_Lushr i0 (8 : Int32))).toInt32)).toInt8.toInt32).toInt8.toInt32), (.int (((((own_Lushr i0 (16 : Int32))).toInt32)).toInt8.toInt32).toInt8.toInt32), (.int (((((own_Lushr i0 (24 : Int32))).toInt32)).toInt8.toInt32).toInt8.toInt32), (.int (((((own_Lushr i0 (32 : Int32))).toInt32)).toInt8.toInt32).toInt8.toInt32), (.int (((((own_Lushr i0 (40 : Int32))).toInt32)).toInt8.toInt32).toInt8.toInt32), (.int (((((own_Lushr i0 (48 : Int32))).toInt32)).toInt8.toInt32).toInt8.toInt32), (.int (((((own_Lushr i0 (56 : Int32))).toInt32)).toInt8.toInt32).toInt8.toInt32)] (by intro v hv; simp only [List.mem_cons, List.not_mem_nil, or_false] at hv; rcases hv with rfl | rfl | rfl | rfl | rfl | rfl | rfl | rfl <;> exact ⟨_, rfl⟩)
  replace F36_b1 : own_AF Z h34 b1 .byte 8 (fun j => Value.int (fa j)) := F36_b1.to (fun j _ => hfa j)
  obtain ⟨fb, hfb⟩ := byt [(.int ((((i1).toInt32)).toInt8.toInt32).toInt8.toInt32), (.int (((((own_Lushr i1 (8 : Int32))).toInt32)).toInt8.toInt32).toInt8.toInt32), (.int (((((own_Lushr i1 (16 : Int32))).toInt32)).toInt8.toInt32).toInt8.toInt32), (.int (((((own_Lushr i1 (24 : Int32))).toInt32)).toInt8.toInt32).toInt8.toInt32), (.int (((((own_Lushr i1 (32 : Int32))).toInt32)).toInt8.toInt32).toInt8.toInt32), (.int (((((own_Lushr i1 (40 : Int32))).toInt32)).toInt8.toInt32).toInt8.toInt32), (.int (((((own_Lushr i1 (48 : Int32))).toInt32)).toInt8.toInt32).toInt8.toInt32), (.int (((((own_Lushr i1 (56 : Int32))).toInt32)).toInt8.toInt32).toInt8.toInt32)] (by intro v hv; simp only [List.mem_cons, List.not_mem_nil, or_false] at hv; rcases hv with rfl | rfl | rfl | rfl | rfl | rfl | rfl | rfl <;> exact ⟨_, rfl⟩)
  replace F37_b2 : own_AF Z h34 b2 .byte 8 (fun j => Value.int (fb j)) := F37_b2.to (fun j _ => hfb j)
  refine own_iload X34 own_d_code_170 rfl ?_
  refine own_ipush X34 own_d_code_172 ?_
  refine own_iand X34 own_d_code_173 ?_
  generalize hpa : (i2 &&& (3 : Int32)) = pa
  refine own_istore X34 #[.val (.long i0), .second, .val (.long i1), .second, .val (.int i2), .val (.ref b1), .val (.ref b2), .val (.int pa), .unset, .unset, .unset, .unset, .unset, .unset, .unset, .unset] own_d_code_174 rfl ?_
  refine own_iload X34 own_d_code_176 rfl ?_
  refine own_ipush X34 own_d_code_178 ?_
  refine own_iushr X34 own_d_code_179 ?_
  refine own_ipush X34 own_d_code_180 ?_
  refine own_iand X34 own_d_code_181 ?_
  generalize hpb : ((own_Iushr i2 (2 : Int32)) &&& (3 : Int32)) = pb
  refine own_istore X34 #[.val (.long i0), .second, .val (.long i1), .second, .val (.int i2), .val (.ref b1), .val (.ref b2), .val (.int pa), .val (.int pb), .unset, .unset, .unset, .unset, .unset, .unset, .unset] own_d_code_182 rfl ?_
  refine own_iload X34 own_d_code_184 rfl ?_
  refine own_ipush X34 own_d_code_186 ?_
  refine own_iushr X34 own_d_code_187 ?_
  refine own_ipush X34 own_d_code_188 ?_
  refine own_iand X34 own_d_code_190 ?_
  refine own_ipush X34 own_d_code_191 ?_
  refine own_irem X34 own_d_code_192 (by decide) ?_
  generalize hpn : (((own_Iushr i2 (4 : Int32)) &&& (7 : Int32)) % (5 : Int32)) = pn
  obtain ⟨ka, ka4, hka⟩ : ∃ k, k < 4 ∧ own_idx pa k := by rw [← hpa]; exact own_mask3 i2
  obtain ⟨kb, kb4, hkb⟩ : ∃ k, k < 4 ∧ own_idx pb k := by rw [← hpb]; exact own_mask3 _
  obtain ⟨n, n5, hn⟩ : ∃ k, k < 5 ∧ own_idx pn k := by rw [← hpn]; exact own_mask7 _
  obtain rfl := own_idx_val hka
  obtain rfl := own_idx_val hkb
  obtain rfl := own_idx_val hn
  refine own_istore X34 #[.val (.long i0), .second, .val (.long i1), .second, .val (.int i2), .val (.ref b1), .val (.ref b2), .val (.int (Int32.ofNat ka)), .val (.int (Int32.ofNat kb)), .val (.int (Int32.ofNat n)), .unset, .unset, .unset, .unset, .unset, .unset] own_d_code_193 rfl ?_
  refine own_iload X34 own_d_code_195 rfl ?_
  suffices J38 : ∀ (T39 : State) (h39 : Heap) (gb0 : Nat → Value), own_St p l e room_1 s m #[(.long i0), (.long i1), (.int i2)] below meth c Z n0 code maxLocals "com/example/depth2/depth2/MarkingStoreHashPinLaw" T39 h39 2 16 → own_AF Z h39 b1 .byte 8 (fun j => Value.int (fa j)) → own_AF Z h39 b2 .byte 8 gb0 → (∃ z : Nat → Int32, (∀ j, gb0 j = .int (z j)) ∧ ∀ j, j < n → j < 1 → z (kb + j) &&& 255 = fa (ka + j) &&& 255) → own_Wins p e below A T39 (mkF m 210 #[.val (.long i0), .second, .val (.long i1), .second, .val (.int i2), .val (.ref b1), .val (.ref b2), .val (.int (Int32.ofNat ka)), .val (.int (Int32.ofNat kb)), .val (.int (Int32.ofNat n)), .unset, .unset, .unset, .unset, .unset, .unset] []) by
    obtain ⟨z0, hz0, hz1⟩ : (∃ z : Nat → Int32, (∀ j, (fun j => Value.int (fb j)) j = .int (z j)) ∧ ∀ j, j < n → j < 0 → z (kb + j) &&& 255 = fa (ka + j) &&& 255) := ⟨fb, fun _ => rfl, fun j _ h => absurd h (by omega)⟩
    by_cases c0 : (0 : Int32) < (Int32.ofNat n)
    · skip
      refine own_ifNo X34 own_d_code_197 ((if0 _ _).trans (tlt c0).2.2.2) ?_
      refine own_aload X34 own_d_code_200 rfl ?_
      refine own_iload X34 own_d_code_202 rfl ?_
      refine own_aload X34 own_d_code_204 rfl ?_
      refine own_iload X34 own_d_code_206 rfl ?_
      refine own_baloadF X34 F36_b1 (i := ka) hka (by omega) rfl own_d_code_208 ?_
      refine own_bastoreF X34 F37_b2 ga_b2 (i := kb) hkb (by omega) own_d_code_209 ?_
      intro T40 h40 X40 W40 V40
      replace V40 : own_AF Z h40 b2 .byte 8 (own_up (fun j => Value.int (fb j)) kb (.int (fa ka).toInt8.toInt32)) := V40
      have F41_b1 : own_AF Z h40 b1 .byte 8 (fun j => Value.int (fa j)) := F36_b1.other W40 (Ne.symm (Ne.symm ne_b1_b2))
      exact J38 T40 h40 _ X40 F41_b1 V40 ⟨fun j => if j = kb then (fa ka).toInt8.toInt32 else z0 j, fun j => by simp only [own_up]; split <;> simp_all, fun j h1 h2 => if hj : kb + j = kb then (by dsimp only; rw [if_pos hj, own_b255, show ka + j = ka by omega]) else (by dsimp only; rw [if_neg hj]; exact hz1 j h1 (by omega))⟩
    · skip
      refine own_ifYes X34 own_d_code_197 ((if0 _ _).trans (flt c0).2.2.2) ?_
      exact J38 T34 h34 _ X34 F36_b1 F37_b2 ⟨z0, hz0, fun j h1 h2 => hz1 j h1 (by have := mt (own_idx_lt (m := 0) ⟨by decide, by decide⟩ hn).mpr c0; omega)⟩
  intro T39 h39 gb0 X39 F39_b1 F39_b2 hs39
  refine own_iload X39 own_d_code_210 rfl ?_
  refine own_ipush X39 own_d_code_212 ?_
  suffices J42 : ∀ (T43 : State) (h43 : Heap) (gb1 : Nat → Value), own_St p l e room_1 s m #[(.long i0), (.long i1), (.int i2)] below meth c Z n0 code maxLocals "com/example/depth2/depth2/MarkingStoreHashPinLaw" T43 h43 2 16 → own_AF Z h43 b1 .byte 8 (fun j => Value.int (fa j)) → own_AF Z h43 b2 .byte 8 gb1 → (∃ z : Nat → Int32, (∀ j, gb1 j = .int (z j)) ∧ ∀ j, j < n → j < 2 → z (kb + j) &&& 255 = fa (ka + j) &&& 255) → own_Wins p e below A T43 (mkF m 230 #[.val (.long i0), .second, .val (.long i1), .second, .val (.int i2), .val (.ref b1), .val (.ref b2), .val (.int (Int32.ofNat ka)), .val (.int (Int32.ofNat kb)), .val (.int (Int32.ofNat n)), .unset, .unset, .unset, .unset, .unset, .unset] []) by
    obtain ⟨z0, hz0, hz1⟩ : (∃ z : Nat → Int32, (∀ j, gb0 j = .int (z j)) ∧ ∀ j, j < n → j < 1 → z (kb + j) &&& 255 = fa (ka + j) &&& 255) := hs39
    by_cases c1 : (1 : Int32) < (Int32.ofNat n)
    · skip
      refine own_icNo X39 own_d_code_213 (tlt c1).2.2.2 ?_
      refine own_aload X39 own_d_code_216 rfl ?_
      refine own_iload X39 own_d_code_218 rfl ?_
      refine own_ipush X39 own_d_code_220 ?_
      refine own_iadd X39 own_d_code_221 ?_
      refine own_aload X39 own_d_code_222 rfl ?_
      refine own_iload X39 own_d_code_224 rfl ?_
      refine own_ipush X39 own_d_code_226 ?_
      refine own_iadd X39 own_d_code_227 ?_
      refine own_baloadF X39 F39_b1 (i := (ka + 1)) (own_idx_add hka (n := 1) ⟨by decide, by decide⟩ (by omega)) (by omega) rfl own_d_code_228 ?_
      refine own_bastoreF X39 F39_b2 ga_b2 (i := (kb + 1)) (own_idx_add hkb (n := 1) ⟨by decide, by decide⟩ (by omega)) (by omega) own_d_code_229 ?_
      intro T44 h44 X44 W44 V44
      replace V44 : own_AF Z h44 b2 .byte 8 (own_up gb0 (kb + 1) (.int (fa (ka + 1)).toInt8.toInt32)) := V44
      have F45_b1 : own_AF Z h44 b1 .byte 8 (fun j => Value.int (fa j)) := F39_b1.other W44 (Ne.symm (Ne.symm ne_b1_b2))
      exact J42 T44 h44 _ X44 F45_b1 V44 ⟨fun j => if j = (kb + 1) then (fa (ka + 1)).toInt8.toInt32 else z0 j, fun j => by simp only [own_up]; split <;> simp_all, fun j h1 h2 => if hj : kb + j = (kb + 1) then (by dsimp only; rw [if_pos hj, own_b255, show ka + j = (ka + 1) by omega]) else (by dsimp only; rw [if_neg hj]; exact hz1 j h1 (by omega))⟩
    · skip
      refine own_icYes X39 own_d_code_213 (flt c1).2.2.2 ?_
      exact J42 T39 h39 _ X39 F39_b1 F39_b2 ⟨z0, hz0, fun j h1 h2 => hz1 j h1 (by have := mt (own_idx_lt (m := 1) ⟨by decide, by decide⟩ hn).mpr c1; omega)⟩
  intro T43 h43 gb1 X43 F43_b1 F43_b2 hs43
  refine own_iload X43 own_d_code_230 rfl ?_
  refine own_ipush X43 own_d_code_232 ?_
  suffices J46 : ∀ (T47 : State) (h47 : Heap) (gb2 : Nat → Value), own_St p l e room_1 s m #[(.long i0), (.long i1), (.int i2)] below meth c Z n0 code maxLocals "com/example/depth2/depth2/MarkingStoreHashPinLaw" T47 h47 2 16 → own_AF Z h47 b1 .byte 8 (fun j => Value.int (fa j)) → own_AF Z h47 b2 .byte 8 gb2 → (∃ z : Nat → Int32, (∀ j, gb2 j = .int (z j)) ∧ ∀ j, j < n → j < 3 → z (kb + j) &&& 255 = fa (ka + j) &&& 255) → own_Wins p e below A T47 (mkF m 250 #[.val (.long i0), .second, .val (.long i1), .second, .val (.int i2), .val (.ref b1), .val (.ref b2), .val (.int (Int32.ofNat ka)), .val (.int (Int32.ofNat kb)), .val (.int (Int32.ofNat n)), .unset, .unset, .unset, .unset, .unset, .unset] []) by
    obtain ⟨z0, hz0, hz1⟩ : (∃ z : Nat → Int32, (∀ j, gb1 j = .int (z j)) ∧ ∀ j, j < n → j < 2 → z (kb + j) &&& 255 = fa (ka + j) &&& 255) := hs43
    by_cases c2 : (2 : Int32) < (Int32.ofNat n)
    · skip
      refine own_icNo X43 own_d_code_233 (tlt c2).2.2.2 ?_
      refine own_aload X43 own_d_code_236 rfl ?_
      refine own_iload X43 own_d_code_238 rfl ?_
      refine own_ipush X43 own_d_code_240 ?_
      refine own_iadd X43 own_d_code_241 ?_
      refine own_aload X43 own_d_code_242 rfl ?_
      refine own_iload X43 own_d_code_244 rfl ?_
      refine own_ipush X43 own_d_code_246 ?_
      refine own_iadd X43 own_d_code_247 ?_
      refine own_baloadF X43 F43_b1 (i := (ka + 2)) (own_idx_add hka (n := 2) ⟨by decide, by decide⟩ (by omega)) (by omega) rfl own_d_code_248 ?_
      refine own_bastoreF X43 F43_b2 ga_b2 (i := (kb + 2)) (own_idx_add hkb (n := 2) ⟨by decide, by decide⟩ (by omega)) (by omega) own_d_code_249 ?_
      intro T48 h48 X48 W48 V48
      replace V48 : own_AF Z h48 b2 .byte 8 (own_up gb1 (kb + 2) (.int (fa (ka + 2)).toInt8.toInt32)) := V48
      have F49_b1 : own_AF Z h48 b1 .byte 8 (fun j => Value.int (fa j)) := F43_b1.other W48 (Ne.symm (Ne.symm ne_b1_b2))
      exact J46 T48 h48 _ X48 F49_b1 V48 ⟨fun j => if j = (kb + 2) then (fa (ka + 2)).toInt8.toInt32 else z0 j, fun j => by simp only [own_up]; split <;> simp_all, fun j h1 h2 => if hj : kb + j = (kb + 2) then (by dsimp only; rw [if_pos hj, own_b255, show ka + j = (ka + 2) by omega]) else (by dsimp only; rw [if_neg hj]; exact hz1 j h1 (by omega))⟩
    · skip
      refine own_icYes X43 own_d_code_233 (flt c2).2.2.2 ?_
      exact J46 T43 h43 _ X43 F43_b1 F43_b2 ⟨z0, hz0, fun j h1 h2 => hz1 j h1 (by have := mt (own_idx_lt (m := 2) ⟨by decide, by decide⟩ hn).mpr c2; omega)⟩
  intro T47 h47 gb2 X47 F47_b1 F47_b2 hs47
  refine own_iload X47 own_d_code_250 rfl ?_
  refine own_ipush X47 own_d_code_252 ?_
  suffices J50 : ∀ (T51 : State) (h51 : Heap) (gb3 : Nat → Value), own_St p l e room_1 s m #[(.long i0), (.long i1), (.int i2)] below meth c Z n0 code maxLocals "com/example/depth2/depth2/MarkingStoreHashPinLaw" T51 h51 2 16 → own_AF Z h51 b1 .byte 8 (fun j => Value.int (fa j)) → own_AF Z h51 b2 .byte 8 gb3 → (∃ z : Nat → Int32, (∀ j, gb3 j = .int (z j)) ∧ ∀ j, j < n → j < 4 → z (kb + j) &&& 255 = fa (ka + j) &&& 255) → own_Wins p e below A T51 (mkF m 270 #[.val (.long i0), .second, .val (.long i1), .second, .val (.int i2), .val (.ref b1), .val (.ref b2), .val (.int (Int32.ofNat ka)), .val (.int (Int32.ofNat kb)), .val (.int (Int32.ofNat n)), .unset, .unset, .unset, .unset, .unset, .unset] []) by
    obtain ⟨z0, hz0, hz1⟩ : (∃ z : Nat → Int32, (∀ j, gb2 j = .int (z j)) ∧ ∀ j, j < n → j < 3 → z (kb + j) &&& 255 = fa (ka + j) &&& 255) := hs47
    by_cases c3 : (3 : Int32) < (Int32.ofNat n)
    · skip
      refine own_icNo X47 own_d_code_253 (tlt c3).2.2.2 ?_
      refine own_aload X47 own_d_code_256 rfl ?_
      refine own_iload X47 own_d_code_258 rfl ?_
      refine own_ipush X47 own_d_code_260 ?_
      refine own_iadd X47 own_d_code_261 ?_
      refine own_aload X47 own_d_code_262 rfl ?_
      refine own_iload X47 own_d_code_264 rfl ?_
      refine own_ipush X47 own_d_code_266 ?_
      refine own_iadd X47 own_d_code_267 ?_
      refine own_baloadF X47 F47_b1 (i := (ka + 3)) (own_idx_add hka (n := 3) ⟨by decide, by decide⟩ (by omega)) (by omega) rfl own_d_code_268 ?_
      refine own_bastoreF X47 F47_b2 ga_b2 (i := (kb + 3)) (own_idx_add hkb (n := 3) ⟨by decide, by decide⟩ (by omega)) (by omega) own_d_code_269 ?_
      intro T52 h52 X52 W52 V52
      replace V52 : own_AF Z h52 b2 .byte 8 (own_up gb2 (kb + 3) (.int (fa (ka + 3)).toInt8.toInt32)) := V52
      have F53_b1 : own_AF Z h52 b1 .byte 8 (fun j => Value.int (fa j)) := F47_b1.other W52 (Ne.symm (Ne.symm ne_b1_b2))
      exact J50 T52 h52 _ X52 F53_b1 V52 ⟨fun j => if j = (kb + 3) then (fa (ka + 3)).toInt8.toInt32 else z0 j, fun j => by simp only [own_up]; split <;> simp_all, fun j h1 h2 => if hj : kb + j = (kb + 3) then (by dsimp only; rw [if_pos hj, own_b255, show ka + j = (ka + 3) by omega]) else (by dsimp only; rw [if_neg hj]; exact hz1 j h1 (by omega))⟩
    · skip
      refine own_icYes X47 own_d_code_253 (flt c3).2.2.2 ?_
      exact J50 T47 h47 _ X47 F47_b1 F47_b2 ⟨z0, hz0, fun j h1 h2 => hz1 j h1 (by have := mt (own_idx_lt (m := 3) ⟨by decide, by decide⟩ hn).mpr c3; omega)⟩
  intro T51 h51 gb3 X51 F51_b1 F51_b2 hs51
  refine own_aload X51 own_d_code_270 rfl ?_
  refine own_iload X51 own_d_code_272 rfl ?_
  refine own_iload X51 own_d_code_274 rfl ?_
  refine own_iadd X51 own_d_code_276 ?_
  refine own_aload X51 own_d_code_277 rfl ?_
  refine own_iload X51 own_d_code_279 rfl ?_
  refine own_iload X51 own_d_code_281 rfl ?_
  refine own_iadd X51 own_d_code_283 ?_
  refine own_baloadF X51 F51_b1 (i := (ka + n)) (own_idx_add hka hn (by omega)) (by omega) rfl own_d_code_284 ?_
  refine own_ipush X51 own_d_code_285 ?_
  refine own_ixor X51 own_d_code_286 ?_
  refine own_i2b X51 own_d_code_287 ?_
  refine own_bastoreF X51 F51_b2 ga_b2 (i := (kb + n)) (own_idx_add hkb hn (by omega)) (by omega) own_d_code_288 ?_
  intro T54 h54 X54 W54 V54
  replace V54 : own_AF Z h54 b2 .byte 8 (own_up gb3 (kb + n) (.int ((((fa (ka + n)) ^^^ (1 : Int32))).toInt8.toInt32).toInt8.toInt32)) := V54
  have F55_b1 : own_AF Z h54 b1 .byte 8 (fun j => Value.int (fa j)) := F51_b1.other W54 (Ne.symm (Ne.symm ne_b1_b2))
  refine own_iload X54 own_d_code_289 rfl ?_
  obtain ⟨z4, hz4, hy4⟩ := hs51
  have hsq : (∃ z : Nat → Int32, (∀ j, (own_up gb3 (kb + n) (.int ((((fa (ka + n)) ^^^ (1 : Int32))).toInt8.toInt32).toInt8.toInt32)) j = .int (z j)) ∧ ∀ j, j < n → z (kb + j) &&& 255 = fa (ka + j) &&& 255) := ⟨fun j => if j = kb + n then ((fa (ka + n)) ^^^ 1).toInt8.toInt32.toInt8.toInt32 else z4 j, fun j => by simp only [own_up]; split <;> simp_all, fun j h1 => by dsimp only; rw [if_neg (by omega)]; exact hy4 j h1 (by omega)⟩
  suffices J56 : ∀ (T57 : State) (h57 : Heap) (gb5 : Nat → Value), own_St p l e room_1 s m #[(.long i0), (.long i1), (.int i2)] below meth c Z n0 code maxLocals "com/example/depth2/depth2/MarkingStoreHashPinLaw" T57 h57 2 16 → own_AF Z h57 b1 .byte 8 (fun j => Value.int (fa j)) → own_AF Z h57 b2 .byte 8 gb5 → (∃ z : Nat → Int32, (∀ j, gb5 j = .int (z j)) ∧ ∀ j, j < n → z (kb + j) &&& 255 = fa (ka + j) &&& 255) → own_Wins p e below A T57 (mkF m 316 #[.val (.long i0), .second, .val (.long i1), .second, .val (.int i2), .val (.ref b1), .val (.ref b2), .val (.int (Int32.ofNat ka)), .val (.int (Int32.ofNat kb)), .val (.int (Int32.ofNat n)), .unset, .unset, .unset, .unset, .unset, .unset] []) by
    by_cases d1 : (0 : Int32) < (Int32.ofNat ka)
    · skip
      refine own_ifNo X54 own_d_code_291 ((if0 _ _).trans (tlt d1).2.2.2) ?_
      refine own_iload X54 own_d_code_294 rfl ?_
      by_cases d2 : (0 : Int32) < (Int32.ofNat kb)
      · skip
        refine own_ifNo X54 own_d_code_296 ((if0 _ _).trans (tlt d2).2.2.2) ?_
        have pka : 0 < ka := (own_idx_lt (m := 0) ⟨by decide, by decide⟩ hka).mp d1
        have pkb : 0 < kb := (own_idx_lt (m := 0) ⟨by decide, by decide⟩ hkb).mp d2
        refine own_aload X54 own_d_code_299 rfl ?_
        refine own_iload X54 own_d_code_301 rfl ?_
        refine own_ipush X54 own_d_code_303 ?_
        refine own_isub X54 own_d_code_304 ?_
        refine own_aload X54 own_d_code_305 rfl ?_
        refine own_iload X54 own_d_code_307 rfl ?_
        refine own_ipush X54 own_d_code_309 ?_
        refine own_isub X54 own_d_code_310 ?_
        refine own_baloadF X54 F55_b1 (i := (ka - 1)) (own_idx_sub hka (n := 1) ⟨by decide, by decide⟩ (by omega)) (by omega) rfl own_d_code_311 ?_
        refine own_ipush X54 own_d_code_312 ?_
        refine own_ixor X54 own_d_code_313 ?_
        refine own_i2b X54 own_d_code_314 ?_
        refine own_bastoreF X54 V54 ga_b2 (i := (kb - 1)) (own_idx_sub hkb (n := 1) ⟨by decide, by decide⟩ (by omega)) (by omega) own_d_code_315 ?_
        intro T58 h58 X58 W58 V58
        replace V58 : own_AF Z h58 b2 .byte 8 (own_up (own_up gb3 (kb + n) (.int ((((fa (ka + n)) ^^^ (1 : Int32))).toInt8.toInt32).toInt8.toInt32)) (kb - 1) (.int ((((fa (ka - 1)) ^^^ (1 : Int32))).toInt8.toInt32).toInt8.toInt32)) := V58
        have F59_b1 : own_AF Z h58 b1 .byte 8 (fun j => Value.int (fa j)) := F55_b1.other W58 (Ne.symm (Ne.symm ne_b1_b2))
        obtain ⟨z5, hz5, hy5⟩ := hsq
        exact J56 T58 h58 _ X58 F59_b1 V58 ⟨fun j => if j = kb - 1 then ((fa (ka - 1)) ^^^ 1).toInt8.toInt32.toInt8.toInt32 else z5 j, fun j => if q : j = kb - 1 then (by show (if j = kb - 1 then _ else own_up _ _ _ j) = Value.int (if j = kb - 1 then _ else z5 j); rw [if_pos q, if_pos q]) else (by show (if j = kb - 1 then _ else own_up _ _ _ j) = Value.int (if j = kb - 1 then _ else z5 j); rw [if_neg q, if_neg q]; exact hz5 j), fun j h1 => by dsimp only; rw [if_neg (by omega)]; exact hy5 j h1⟩
      · skip
        refine own_ifYes X54 own_d_code_296 ((if0 _ _).trans (flt d2).2.2.2) ?_
        exact J56 T54 h54 _ X54 F55_b1 V54 hsq
    · skip
      refine own_ifYes X54 own_d_code_291 ((if0 _ _).trans (flt d1).2.2.2) ?_
      exact J56 T54 h54 _ X54 F55_b1 V54 hsq
  intro T57 h57 gb5 X57 F57_b1 F57_b2 hs57
  obtain ⟨z6, hz6, hy6⟩ := hs57
  refine own_aload X57 own_d_code_316 rfl ?_
  refine own_iload X57 own_d_code_318 rfl ?_
  refine own_iload X57 own_d_code_320 rfl ?_
  refine own_callS X57 (y := (⟨"com/example/depth2/depth2/MarkingStore", "hash", "([BII)J"⟩ : MethodName)) [(.ref b1), (.int (Int32.ofNat ka)), (.int (Int32.ofNat n))] [] 0 rfl (hw _ (List.mem_of_getElem? (i := 1) rfl)) (hw _ (List.mem_of_getElem? (i := 2) rfl)) (hw _ (List.mem_of_getElem? (i := 3) rfl)) (hw _ (List.mem_of_getElem? (i := 4) rfl)) (by decide) (own_hash l Z a0 hw b1 ka (Int32.ofNat n) n 8 _ (fun i => fa (ka + i)) h57 n0 X57.sz F57_b1 hn (by decide) (by omega) (fun _ _ => rfl)) own_d_code_322 own_pd___BII_J rfl rfl (by show 2 * 0 + _ ≤ _; exact Nat.le_of_eq rfl) (by decide) (by decide) (by decide) (by decide) ?_
  intro T60 h60 v60 X60 P60
  obtain ⟨rfl, eh60⟩ := P60
  rw [eh60] at X60
  show own_Wins p e below A T60 (mkF m 325 #[.val (.long i0), .second, .val (.long i1), .second, .val (.int i2), .val (.ref b1), .val (.ref b2), .val (.int (Int32.ofNat ka)), .val (.int (Int32.ofNat kb)), .val (.int (Int32.ofNat n)), .unset, .unset, .unset, .unset, .unset, .unset] [(.long (own_fin (own_fnv (fun i => fa (ka + i)) n)))])
  refine own_lstore X60 #[.val (.long i0), .second, .val (.long i1), .second, .val (.int i2), .val (.ref b1), .val (.ref b2), .val (.int (Int32.ofNat ka)), .val (.int (Int32.ofNat kb)), .val (.int (Int32.ofNat n)), .val (.long (own_fin (own_fnv (fun i => fa (ka + i)) n))), .second, .unset, .unset, .unset, .unset] own_d_code_325 rfl ?_
  refine own_aload X60 own_d_code_327 rfl ?_
  refine own_iload X60 own_d_code_329 rfl ?_
  refine own_iload X60 own_d_code_331 rfl ?_
  refine own_callS X60 (y := (⟨"com/example/depth2/depth2/MarkingStore", "hash", "([BII)J"⟩ : MethodName)) [(.ref b2), (.int (Int32.ofNat kb)), (.int (Int32.ofNat n))] [] 0 rfl (hw _ (List.mem_of_getElem? (i := 1) rfl)) (hw _ (List.mem_of_getElem? (i := 2) rfl)) (hw _ (List.mem_of_getElem? (i := 3) rfl)) (hw _ (List.mem_of_getElem? (i := 4) rfl)) (by decide) (own_hash l Z a0 hw b2 kb (Int32.ofNat n) n 8 _ (fun i => z6 (kb + i)) h57 n0 X60.sz F57_b2 hn (by decide) (by omega) (fun i _ => hz6 (kb + i))) own_d_code_333 own_pd___BII_J rfl rfl (by show 2 * 0 + _ ≤ _; exact Nat.le_of_eq rfl) (by decide) (by decide) (by decide) (by decide) ?_
  intro T61 h61 v61 X61 P61
  obtain ⟨rfl, eh61⟩ := P61
  rw [eh61] at X61
  show own_Wins p e below A T61 (mkF m 336 #[.val (.long i0), .second, .val (.long i1), .second, .val (.int i2), .val (.ref b1), .val (.ref b2), .val (.int (Int32.ofNat ka)), .val (.int (Int32.ofNat kb)), .val (.int (Int32.ofNat n)), .val (.long (own_fin (own_fnv (fun i => fa (ka + i)) n))), .second, .unset, .unset, .unset, .unset] [(.long (own_fin (own_fnv (fun i => z6 (kb + i)) n)))])
  refine own_lstore X61 #[.val (.long i0), .second, .val (.long i1), .second, .val (.int i2), .val (.ref b1), .val (.ref b2), .val (.int (Int32.ofNat ka)), .val (.int (Int32.ofNat kb)), .val (.int (Int32.ofNat n)), .val (.long (own_fin (own_fnv (fun i => fa (ka + i)) n))), .second, .val (.long (own_fin (own_fnv (fun i => z6 (kb + i)) n))), .second, .unset, .unset] own_d_code_336 rfl ?_
  refine own_lload X61 own_d_code_338 rfl ?_
  refine own_lload X61 own_d_code_340 rfl ?_
  refine own_lcmp X61 own_d_code_342 ?_
  have heq : own_fin (own_fnv (fun i => fa (ka + i)) n) = own_fin (own_fnv (fun i => z6 (kb + i)) n) := congrArg own_fin (own_fnv_congr _ _ n (fun i hi => (hy6 i hi).symm))
  refine own_ifYes X61 own_d_code_343 ((if0 _ _).trans (teq ((lw_eq (own_fin (own_fnv (fun i => fa (ka + i)) n)) (own_fin (own_fnv (fun i => z6 (kb + i)) n))).2 heq)).1) ?_
  refine own_iload X61 own_d_code_348 rfl ?_
  by_cases e1 : (Int32.ofNat n) = (0 : Int32)
  · skip
    refine own_ifNo X61 own_d_code_350 ((if0 _ _).trans (teq e1).2) ?_
    refine own_ipush X61 own_d_code_353 ?_
    exact own_retZ X61 hret rfl fin (by decide) (by decide) rfl own_d_code_354
  · skip
    refine own_ifYes X61 own_d_code_350 ((if0 _ _).trans (feq e1).2) ?_
    have n1 : 0 < n := Nat.pos_of_ne_zero (fun q => e1 ((own_idx_eq hn (n := 0) ⟨by decide, by decide⟩).mpr q))
    refine own_iload X61 own_d_code_355 rfl ?_
    refine own_ipush X61 own_d_code_357 ?_
    refine own_iushr X61 own_d_code_359 ?_
    refine own_ipush X61 own_d_code_360 ?_
    refine own_iand X61 own_d_code_361 ?_
    refine own_iload X61 own_d_code_362 rfl ?_
    refine own_irem X61 own_d_code_364 e1 ?_
    generalize hpk : (((own_Iushr i2 (8 : Int32)) &&& (3 : Int32)) % (Int32.ofNat n)) = pk
    obtain ⟨kk, kkn, hkk⟩ : ∃ k, k < n ∧ own_idx pk k := by rw [← hpk]; exact own_mod3 _ _ n hn n1
    obtain rfl := own_idx_val hkk
    refine own_istore X61 #[.val (.long i0), .second, .val (.long i1), .second, .val (.int i2), .val (.ref b1), .val (.ref b2), .val (.int (Int32.ofNat ka)), .val (.int (Int32.ofNat kb)), .val (.int (Int32.ofNat n)), .val (.long (own_fin (own_fnv (fun i => fa (ka + i)) n))), .second, .val (.long (own_fin (own_fnv (fun i => z6 (kb + i)) n))), .second, .val (.int (Int32.ofNat kk)), .unset] own_d_code_365 rfl ?_
    refine own_iload X61 own_d_code_367 rfl ?_
    refine own_ipush X61 own_d_code_369 ?_
    refine own_iushr X61 own_d_code_371 ?_
    refine own_ipush X61 own_d_code_372 ?_
    refine own_iand X61 own_d_code_375 ?_
    generalize hpd : ((own_Iushr i2 (12 : Int32)) &&& (255 : Int32)) = pd
    refine own_istore X61 #[.val (.long i0), .second, .val (.long i1), .second, .val (.int i2), .val (.ref b1), .val (.ref b2), .val (.int (Int32.ofNat ka)), .val (.int (Int32.ofNat kb)), .val (.int (Int32.ofNat n)), .val (.long (own_fin (own_fnv (fun i => fa (ka + i)) n))), .second, .val (.long (own_fin (own_fnv (fun i => z6 (kb + i)) n))), .second, .val (.int (Int32.ofNat kk)), .val (.int pd)] own_d_code_376 rfl ?_
    refine own_iload X61 own_d_code_378 rfl ?_
    suffices J62 : ∀ dd : Int32, dd &&& 255 ≠ 0 → own_Wins p e below A T61 (mkF m 388 #[.val (.long i0), .second, .val (.long i1), .second, .val (.int i2), .val (.ref b1), .val (.ref b2), .val (.int (Int32.ofNat ka)), .val (.int (Int32.ofNat kb)), .val (.int (Int32.ofNat n)), .val (.long (own_fin (own_fnv (fun i => fa (ka + i)) n))), .second, .val (.long (own_fin (own_fnv (fun i => z6 (kb + i)) n))), .second, .val (.int (Int32.ofNat kk)), .val (.int dd)] []) by
      by_cases e2 : pd = (0 : Int32)
      · skip
        refine own_ifNo X61 own_d_code_380 ((if0 _ _).trans (teq e2).2) ?_
        refine own_ipush X61 own_d_code_383 ?_
        refine own_istore X61 #[.val (.long i0), .second, .val (.long i1), .second, .val (.int i2), .val (.ref b1), .val (.ref b2), .val (.int (Int32.ofNat ka)), .val (.int (Int32.ofNat kb)), .val (.int (Int32.ofNat n)), .val (.long (own_fin (own_fnv (fun i => fa (ka + i)) n))), .second, .val (.long (own_fin (own_fnv (fun i => z6 (kb + i)) n))), .second, .val (.int (Int32.ofNat kk)), .val (.int (128 : Int32))] own_d_code_386 rfl ?_
        exact J62 _ (by decide)
      · skip
        refine own_ifYes X61 own_d_code_380 ((if0 _ _).trans (feq e2).2) ?_
        exact J62 _ (by rw [← hpd, own_and255] ; rw [hpd]; exact e2)
    intro dd hdd
    refine own_aload X61 own_d_code_388 rfl ?_
    refine own_iload X61 own_d_code_390 rfl ?_
    refine own_iload X61 own_d_code_392 rfl ?_
    refine own_iadd X61 own_d_code_394 ?_
    refine own_aload X61 own_d_code_395 rfl ?_
    refine own_iload X61 own_d_code_397 rfl ?_
    refine own_iload X61 own_d_code_399 rfl ?_
    refine own_iadd X61 own_d_code_401 ?_
    refine own_baloadF X61 F57_b2 (i := (kb + kk)) (own_idx_add hkb hkk (by omega)) (by omega) (hz6 _) own_d_code_402 ?_
    refine own_iload X61 own_d_code_403 rfl ?_
    refine own_ixor X61 own_d_code_405 ?_
    refine own_i2b X61 own_d_code_406 ?_
    refine own_bastoreF X61 F57_b2 ga_b2 (i := (kb + kk)) (own_idx_add hkb hkk (by omega)) (by omega) own_d_code_407 ?_
    intro T63 h63 X63 W63 V63
    replace V63 : own_AF Z h63 b2 .byte 8 (own_up gb5 (kb + kk) (.int ((((z6 (kb + kk)) ^^^ dd)).toInt8.toInt32).toInt8.toInt32)) := V63
    have F64_b1 : own_AF Z h63 b1 .byte 8 (fun j => Value.int (fa j)) := F57_b1.other W63 (Ne.symm (Ne.symm ne_b1_b2))
    refine own_aload X63 own_d_code_408 rfl ?_
    refine own_iload X63 own_d_code_410 rfl ?_
    refine own_iload X63 own_d_code_412 rfl ?_
    refine own_callS X63 (y := (⟨"com/example/depth2/depth2/MarkingStore", "hash", "([BII)J"⟩ : MethodName)) [(.ref b2), (.int (Int32.ofNat kb)), (.int (Int32.ofNat n))] [] 0 rfl (hw _ (List.mem_of_getElem? (i := 1) rfl)) (hw _ (List.mem_of_getElem? (i := 2) rfl)) (hw _ (List.mem_of_getElem? (i := 3) rfl)) (hw _ (List.mem_of_getElem? (i := 4) rfl)) (by decide) (own_hash l Z a0 hw b2 kb (Int32.ofNat n) n 8 _ (fun i => if kb + i = kb + kk then ((z6 (kb + kk)) ^^^ dd).toInt8.toInt32.toInt8.toInt32 else z6 (kb + i)) h63 n0 X63.sz V63 hn (by decide) (by omega) (fun i _ => by simp only [own_up]; split <;> simp_all)) own_d_code_414 own_pd___BII_J rfl rfl (by show 2 * 0 + _ ≤ _; exact Nat.le_of_eq rfl) (by decide) (by decide) (by decide) (by decide) ?_
    intro T65 h65 v65 X65 P65
    obtain ⟨rfl, eh65⟩ := P65
    rw [eh65] at X65
    show own_Wins p e below A T65 (mkF m 417 #[.val (.long i0), .second, .val (.long i1), .second, .val (.int i2), .val (.ref b1), .val (.ref b2), .val (.int (Int32.ofNat ka)), .val (.int (Int32.ofNat kb)), .val (.int (Int32.ofNat n)), .val (.long (own_fin (own_fnv (fun i => fa (ka + i)) n))), .second, .val (.long (own_fin (own_fnv (fun i => z6 (kb + i)) n))), .second, .val (.int (Int32.ofNat kk)), .val (.int dd)] [(.long (own_fin (own_fnv (fun i => if kb + i = kb + kk then ((z6 (kb + kk)) ^^^ dd).toInt8.toInt32.toInt8.toInt32 else z6 (kb + i)) n)))])
    refine own_lload X65 own_d_code_417 rfl ?_
    refine own_lcmp X65 own_d_code_419 ?_
    have hne : ¬ own_fin (own_fnv (fun i => if kb + i = kb + kk then ((z6 (kb + kk)) ^^^ dd).toInt8.toInt32.toInt8.toInt32 else z6 (kb + i)) n) = own_fin (own_fnv (fun i => fa (ka + i)) n) := by
      rw [heq]
      intro q
      refine own_fnv_ne _ _ kk ?_ ?_ n kkn (own_fin_inj q)
      · simp only [if_true]; rw [own_b255]; exact own_turn _ _ hdd
      · intro i hi; simp only [show ¬ kb + i = kb + kk by omega, if_false]
    refine own_ifNo X65 own_d_code_420 ((if0 _ _).trans (feq (mt (lw_eq (own_fin (own_fnv (fun i => if kb + i = kb + kk then ((z6 (kb + kk)) ^^^ dd).toInt8.toInt32.toInt8.toInt32 else z6 (kb + i)) n)) (own_fin (own_fnv (fun i => fa (ka + i)) n))).1 hne)).1) ?_
    refine own_ipush X65 own_d_code_423 ?_
    refine own_goto X65 own_d_code_424 ?_
    exact own_retZ X65 hret rfl fin (by decide) (by decide) rfl own_d_code_428
set_option maxRecDepth 65536 in
set_option maxHeartbeats 40000000 in
theorem own_comes {Post : Tables → Env → Array Value → State → Outcome → State → Prop} (hpost : ∀ tb e args s v u, (limb_1_1.after args s (.returned v) u = true ∧ limb_1_2.after args s (.returned v) u = true) → FrameEnd s (.returned v) u (Jvm.fieldLocs frame_1_writes args s ++ Jvm.arrayLocs frame_1_arrays args s ++ Jvm.staticLocs frame_1_statics s) 16 128 → Post tb e args s (.returned v) u) :
    ArmFor flags0 classFile x code maxLocals ret World_1 tables_1 room_1 Calls_1 rest_1 Pre_1 Post := by
  intro l hfl _ _ p e ha hc hk s m args below hf hA hF happ hP
  obtain ⟨hcalls, hrest, hpre⟩ := hP
  obtain ⟨-, -, -, hnamed, -, -, -, hat⟩ := (Spec.applies_iff hf).mp happ
  obtain ⟨hg, hn⟩ := and_e (Cond.before_iff.mp (show (Jvm.Cond.and given_1 narrow_1).before args s = true from hpre))
  obtain ⟨gc, g0⟩ := and_e hg
  obtain ⟨q0, g1⟩ := and_e g0
  obtain ⟨q1, g2⟩ := and_e g1
  obtain ⟨w0, w1, w2, rfl⟩ : ∃ w0 w1 w2 : Value, args = #[w0, w1, w2] := by
    have hs : args.size = 3 := by simpa [Cond.value, given_1] using gc
    obtain ⟨L⟩ := args
    match L, hs with
    | [w0, w1, w2], _ => exact ⟨w0, w1, w2, rfl⟩
  have hw := fun d (hd : d ∈ tables_1) => atoms_spec (ws := Jvm.Cond.code x code maxLocals ret :: tables_1) hat d (List.mem_cons_of_mem _ hd)
  obtain ⟨i0, ei0⟩ := isL_v q0
  obtain rfl : w0 = (.long i0) := Option.some.inj ei0
  obtain ⟨i1, ei1⟩ := isL_v q1
  obtain rfl : w1 = (.long i1) := Option.some.inj ei1
  obtain ⟨i2, ei2⟩ := is_v g2
  obtain rfl : w2 = (.int i2) := Option.some.inj ei2
  obtain ⟨n, o, h1, h2, h3, _, L, rfl, ⟨N, -, rfl⟩, hq⟩ := own_law l s _ hw i0 i1 i2 s.heap s.heap.size (Nat.le_refl _) p e ha hc hk s m _ below hf ((Spec.applies_iff_loose hf).mp happ).1 ⟨rfl, State.Warmed39.refl s, rfl⟩ trivial
  refine ⟨n, _, h1, h2, h3, hpost _ _ _ _ _ _ ⟨Cond.after_iff.mpr rfl, Cond.after_iff.mpr (eq_i res_at (Term.int_eval (1)) rfl)⟩ ⟨hq.1, hq.2.1, (hq.2.2.sift fun y hy => Or.inr (N y hy)).mono (by decide) (by decide)⟩⟩
theorem main_1_1 : Claimed_1_1 := own_comes fun _ _ _ _ _ _ h hF => ⟨h.1, hF⟩
theorem main_1_2 : Claimed_1_2 := own_comes fun _ _ _ _ _ _ h hF => ⟨h.2, hF⟩
end Jvm.Pilot.@@N@@
namespace Jvm.Pilot.@@N@@
open Jvm Jvm.ClassFile Sem Op Lib Jvm.Free Jvm.Stand Jvm.Pilot.@@N@@.Jvm.D
/-! MADE BY PROGRAM (witnessworld.py) out of the Statement's table words and the real class files: 9 classes; the members and pool entries that the words name. The judged class is class 1, her method 1. -/
namespace start1
open Jvm.ClassFile
def u (s : String) : CpInfo := .utf8 (stringToUtf16 s)
/-- a pool by its gaps: so many unusable entries, then the entry; so many at the end -/
def gap : Nat → List CpInfo → List CpInfo
  | 0, r => r
  | n + 1, r => .unusable :: gap n r
def poolList (es : List (Nat × CpInfo)) (last : Nat) : List CpInfo := es.foldr (fun e r => gap e.1 (e.2 :: r)) (gap last [])
def pool (es : List (Nat × CpInfo)) (last : Nat) : Array CpInfo := ⟨poolList es last⟩
def fileOf (pool : Array CpInfo) (this : Nat) (attrs : Array Attribute := #[]) (ms : Array MethodInfo := #[]) (fl : Nat := 33) (sup : Nat := 0) (ifs : Array Nat := #[]) (fds : Array FieldInfo := #[]) : ClassFile where
  minorVersion := 0
  majorVersion := 65
  constantPool := pool
  accessFlags := fl
  thisClass := this
  superClass := sup
  interfaces := ifs
  fields := fds
  methods := ms
  attributes := attrs
def plain (name : String) (sup : Option ClassId) : Class where
  name := name
  kind := .ordinary
  loader := none
  accessFlags := 33
  super := sup
  interfaces := #[]
  cf := none
  fields := #[]
  methods := #[]
  instanceTypes := #[]
  staticTypes := #[]
  resolved := #[]
  callSites := []
  init := .initialized
  statics := none
  mirror := none

def pool0 : Array CpInfo := pool [(5, u "<init>"), (0, u "()V"), (1, .class_ 10), (1, u "java/lang/Object")] 113

def k0m0 : Method := { name := "<init>", desc := "()V", sig := { parameters := [], returnType := none }, accessFlags := 1, code := none }
/-- java/lang/Object -/
def k0 : Class := { plain "java/lang/Object" none with
  accessFlags := 33
  interfaces := #[]
  cf := some (fileOf pool0 8 #[] #[{ accessFlags := 1, nameIndex := 5, descriptorIndex := 6, attributes := #[] }] 33 0 #[] #[])
  fields := #[]
  methods := #[k0m0]
  instanceTypes := #[]
  staticTypes := #[]
  resolved := Array.replicate 124 none
  statics := none }

def pool1 : Array CpInfo := pool [(2, .class_ 4), (1, u "java/lang/Object"), (0, u "<init>"), (0, u "()V"), (0, .methodref 8 9), (0, .class_ 10), (0, .nameAndType 11 12), (0, u "com/example/depth2/depth2/MarkingStore"), (0, u "hash"), (0, u "([BII)J"), (0, .class_ 14), (0, u "com/example/depth2/depth2/MarkingStoreHashPinLaw"), (2, u "law"), (0, u "(JJI)Z")] 5

def k1m0 : Method := { name := "<init>", desc := "()V", sig := { parameters := [], returnType := none }, accessFlags := 1, code := none }
def k1c1 : Code := { maxStack := 5, maxLocals := 16, code := code, exceptionTable := #[], attributes := #[] }
def k1m1 : Method := { name := "law", desc := "(JJI)Z", sig := { parameters := [.long, .long, .int], returnType := some .boolean }, accessFlags := 9, code := some k1c1 }
/-- com/example/depth2/depth2/MarkingStoreHashPinLaw -/
def k1 : Class := { plain "com/example/depth2/depth2/MarkingStoreHashPinLaw" (some 0) with
  accessFlags := 49
  interfaces := #[]
  cf := some (fileOf pool1 13 #[] #[{ accessFlags := 1, nameIndex := 5, descriptorIndex := 6, attributes := #[] }, { accessFlags := 9, nameIndex := 17, descriptorIndex := 18, attributes := #[] }] 49 2 #[] #[])
  fields := #[]
  methods := #[k1m0, k1m1]
  instanceTypes := #[]
  staticTypes := #[]
  resolved := Array.replicate 24 none
  statics := none }

def pool2 : Array CpInfo := pool [(1, .class_ 2), (0, u "com/example/depth2/depth2/MarkingStore"), (1, .class_ 6), (1, u "java/lang/Object"), (0, u "<init>"), (0, u "()V"), (5, u "pages"), (0, u "[[B"), (2, u "ends"), (0, u "[I"), (1, u "[J"), (2, u "checkpoints"), (0, u "[[J"), (2, u "slotBits"), (0, u "I"), (2, u "slots"), (2, u "size"), (26, .long 11400714819323198485), (1, .long 1099511628211), (1, .long 15485907386658061715), (40, u "([BII)J"), (12, u "pageCount"), (2, u "fill"), (16, u "hash"), (0, u "PAGE_BITS"), (2, u "MAX_PAGES"), (0, u "ADDRESS_BITS"), (1, u "ADDRESS"), (0, u "J"), (0, u "CHECKPOINT_BITS"), (1, u "CHUNK_BITS"), (1, u "MAX_SLOT_BITS"), (1, u "NUMBER_BYTES"), (15, .class_ 172), (0, u "com/example/depth2/depth2/MarkingStore$Cursor")] 2

def k2m0 : Method := { name := "<init>", desc := "()V", sig := { parameters := [], returnType := none }, accessFlags := 0, code := none }
def k2c1 : Code := { maxStack := 5, maxLocals := 6, code := prog_25_method_5_code, exceptionTable := #[], attributes := #[] }
def k2m1 : Method := { name := "hash", desc := "([BII)J", sig := { parameters := [(.array .byte), .int, .int], returnType := some .long }, accessFlags := 8, code := some k2c1 }
/-- com/example/depth2/depth2/MarkingStore -/
def k2 : Class := { plain "com/example/depth2/depth2/MarkingStore" (some 0) with
  accessFlags := 48
  interfaces := #[]
  cf := some (fileOf pool2 1 #[.nestMembers #[171]] #[{ accessFlags := 0, nameIndex := 7, descriptorIndex := 8, attributes := #[] }, { accessFlags := 8, nameIndex := 140, descriptorIndex := 107, attributes := #[] }] 48 4 #[] #[{ accessFlags := 26, nameIndex := 141, descriptorIndex := 29, attributes := #[] }, { accessFlags := 26, nameIndex := 144, descriptorIndex := 29, attributes := #[] }, { accessFlags := 26, nameIndex := 145, descriptorIndex := 29, attributes := #[] }, { accessFlags := 26, nameIndex := 147, descriptorIndex := 148, attributes := #[] }, { accessFlags := 26, nameIndex := 149, descriptorIndex := 29, attributes := #[] }, { accessFlags := 26, nameIndex := 151, descriptorIndex := 29, attributes := #[] }, { accessFlags := 26, nameIndex := 153, descriptorIndex := 29, attributes := #[] }, { accessFlags := 26, nameIndex := 155, descriptorIndex := 29, attributes := #[] }, { accessFlags := 18, nameIndex := 14, descriptorIndex := 15, attributes := #[] }, { accessFlags := 18, nameIndex := 18, descriptorIndex := 19, attributes := #[] }, { accessFlags := 2, nameIndex := 120, descriptorIndex := 29, attributes := #[] }, { accessFlags := 2, nameIndex := 123, descriptorIndex := 29, attributes := #[] }, { accessFlags := 18, nameIndex := 24, descriptorIndex := 25, attributes := #[] }, { accessFlags := 2, nameIndex := 35, descriptorIndex := 29, attributes := #[] }, { accessFlags := 2, nameIndex := 28, descriptorIndex := 29, attributes := #[] }, { accessFlags := 2, nameIndex := 32, descriptorIndex := 21, attributes := #[] }])
  fields := #[{ name := "PAGE_BITS", type := .int, accessFlags := 26, slot := 0, constantValue := 0 }, { name := "MAX_PAGES", type := .int, accessFlags := 26, slot := 1, constantValue := 0 }, { name := "ADDRESS_BITS", type := .int, accessFlags := 26, slot := 2, constantValue := 0 }, { name := "ADDRESS", type := .long, accessFlags := 26, slot := 3, constantValue := 0 }, { name := "CHECKPOINT_BITS", type := .int, accessFlags := 26, slot := 4, constantValue := 0 }, { name := "CHUNK_BITS", type := .int, accessFlags := 26, slot := 5, constantValue := 0 }, { name := "MAX_SLOT_BITS", type := .int, accessFlags := 26, slot := 6, constantValue := 0 }, { name := "NUMBER_BYTES", type := .int, accessFlags := 26, slot := 7, constantValue := 0 }, { name := "pages", type := (.array (.array .byte)), accessFlags := 18, slot := 0, constantValue := 0 }, { name := "ends", type := (.array .int), accessFlags := 18, slot := 1, constantValue := 0 }, { name := "pageCount", type := .int, accessFlags := 2, slot := 2, constantValue := 0 }, { name := "fill", type := .int, accessFlags := 2, slot := 3, constantValue := 0 }, { name := "checkpoints", type := (.array (.array .long)), accessFlags := 18, slot := 4, constantValue := 0 }, { name := "size", type := .int, accessFlags := 2, slot := 5, constantValue := 0 }, { name := "slotBits", type := .int, accessFlags := 2, slot := 6, constantValue := 0 }, { name := "slots", type := (.array .long), accessFlags := 2, slot := 7, constantValue := 0 }]
  methods := #[k2m0, k2m1]
  instanceTypes := #[(.array (.array .byte)), (.array .int), .int, .int, (.array (.array .long)), .int, .int, (.array .long)]
  staticTypes := #[.int, .int, .int, .long, .int, .int, .int, .int]
  resolved := Array.replicate 175 none
  statics := none }

def pool3 : Array CpInfo := pool [(1, u "java/lang/Cloneable"), (0, .class_ 1), (0, u "java/lang/Object"), (0, .class_ 3)] 3

/-- java/lang/Cloneable -/
def k3 : Class := { plain "java/lang/Cloneable" (some 0) with
  accessFlags := 1537
  interfaces := #[]
  cf := some (fileOf pool3 2 #[] #[] 1537 4 #[] #[])
  fields := #[]
  methods := #[]
  instanceTypes := #[]
  staticTypes := #[]
  resolved := Array.replicate 8 none
  statics := none }

def pool4 : Array CpInfo := pool [(1, u "java/io/Serializable"), (0, .class_ 1), (0, u "java/lang/Object"), (0, .class_ 3)] 3

/-- java/io/Serializable -/
def k4 : Class := { plain "java/io/Serializable" (some 0) with
  accessFlags := 1537
  interfaces := #[]
  cf := some (fileOf pool4 2 #[] #[] 1537 4 #[] #[])
  fields := #[]
  methods := #[]
  instanceTypes := #[]
  staticTypes := #[]
  resolved := Array.replicate 8 none
  statics := none }

/-- the primitive byte -/
def k5 : Class := { plain "byte" none with kind := .primitive 'B', accessFlags := 0x411 }
/-- [B -/
def k6 : Class := { plain "[B" (some 0) with kind := .array 5 .byte, interfaces := #[3, 4], accessFlags := 1041 }

/-- the primitive int -/
def k7 : Class := { plain "int" none with kind := .primitive 'I', accessFlags := 0x411 }
/-- [I -/
def k8 : Class := { plain "[I" (some 0) with kind := .array 7 .int, interfaces := #[3, 4], accessFlags := 1041 }

def heap : Heap := #[]
def classes : Array Class := #[k0, k1, k2, k3, k4, k5, k6, k7, k8]
def interned : List (Array UInt16 × Addr) := []
def slotsUsed : Nat := 0
def theMethod : MethodId := ⟨1, 1⟩
def args0 : Array Value := #[.long 5, .long 6, .int 7]
def aboutOver (below : List Frame) : State where
  vm := { classes := classes, interned := interned.toArray }
  heap := heap
  slotsUsed := slotsUsed
  threads := #[{ frames := .invoking theMethod args0 :: below }]
def below0 : List Frame := [.native { method := ⟨0, 0⟩, args := #[] }]
def about1 : State := aboutOver below0
def p0 : Program := .bare "" "" ""
def e0 : Env := launch0.env 0 0 0
theorem w_frames : about1.frames = Frame.invoking theMethod args0 :: below0 := rfl
set_option maxRecDepth 65536 in
theorem w_args : argsFit about1.vm theMethod args0 = true := by decide +kernel
set_option maxRecDepth 65536 in
theorem w_heap : heapFits about1 = true := by decide +kernel
set_option maxRecDepth 65536 in
theorem w_runnable : about1.curStatus? = some .runnable := by decide +kernel
set_option maxRecDepth 65536 in
theorem w_alone : about1.alone = true := by decide +kernel
set_option maxRecDepth 65536 in
theorem w_named : about1.methodNamed? x = some theMethod := by decide +kernel
set_option maxRecDepth 65536 in
theorem w_hears : about1.hears theMethod below0 = true := by decide +kernel
set_option maxRecDepth 65536 in
theorem w_ripe : about1.ripe theMethod args0 below0 = true := by decide +kernel
theorem w_running : about1.status = .running := rfl
set_option maxRecDepth 65536 in
theorem w_room : about1.hasRoom e0.platform room_1 = true :=
  launch0.hasRoom_least _ room_1 (by decide +kernel) (by decide +kernel) (by decide +kernel) (by decide +kernel) (by decide +kernel) (by decide +kernel)
theorem allAtoms_all (ts : List Jvm.Cond) (a : Array Jvm.Value) (st : Jvm.State) : (allAtoms ts).before a st = ts.all (fun c => c.before a st) := by
  induction ts with
  | nil => rfl
  | cons c t ih =>
    show (Jvm.Cond.and c (allAtoms t)).before a st = _
    rw [Jvm.Cond.before_and, ih, List.all_cons]
def words1 : List Jvm.Cond := Jvm.Cond.code x code maxLocals ret :: tables_1
/-- a 'code' word, met by the world's own term for the bytes: nothing is compared byte by byte -/
theorem code_word {y : MethodName} {bytes : ByteArray} {mx : Nat} {rt : Option FieldType} {a : Array Value} {s : State} {m : MethodId} {meth : Method} {c : Code} (h1 : s.methodNamed? y = some m) (h2 : s.vm.method? m = some meth) (h3 : meth.code = some c) (h4 : c.code = bytes)
    (h5 : (c.maxLocals == mx && c.exceptionTable.isEmpty && decide (c.maxStack ≤ mostOperands) && decide (meth.sig.returnType = rt) && !meth.locks && decide (parseMethodDescriptor y.desc = some meth.sig)) = true) : (Jvm.Cond.code y bytes mx rt).before a s = true := by
  simp only [Bool.and_eq_true, beq_iff_eq, Bool.not_eq_true', decide_eq_true_eq] at h5
  obtain ⟨⟨⟨⟨⟨g1, g2⟩, g3⟩, g4⟩, g5⟩, g6⟩ := h5
  simp [Cond.before, Cond.holds, Cond.value, h1, h2, h3, h4, g1, g2, g3, g4, g5, g6]
def isCode : Jvm.Cond → Bool
  | .code _ _ _ _ => true
  | _ => false
theorem all_split {L : List Jvm.Cond} {P : Jvm.Cond → Bool} (h1 : L.all (fun c => isCode c || P c) = true) (h2 : ∀ c ∈ L.filter isCode, P c = true) : L.all P = true := by
  refine List.all_eq_true.mpr fun c hc => ?_
  have h := List.all_eq_true.mp h1 c hc
  rcases Bool.eq_false_or_eq_true (isCode c) with hi | hi
  · exact h2 c (List.mem_filter.mpr ⟨hc, hi⟩)
  · simpa [hi] using h
set_option maxRecDepth 65536 in
theorem w_c0 : (Jvm.Cond.code x code maxLocals ret).before args0 about1 = true := code_word (m := ⟨1, 1⟩) (meth := k1m1) (c := k1c1) (by decide +kernel) rfl rfl rfl (by decide +kernel)
set_option maxRecDepth 65536 in
theorem w_c1 : (Jvm.Cond.code ({ cls := "com/example/depth2/depth2/MarkingStore", name := "hash", desc := "([BII)J" } : Jvm.MethodName) prog_25_method_5_code (6 : Nat) (Option.some Jvm.ClassFile.FieldType.long)).before args0 about1 = true := code_word (m := ⟨2, 1⟩) (meth := k2m1) (c := k2c1) (by decide +kernel) rfl rfl rfl (by decide +kernel)
def codes1 : List Jvm.Cond := [Jvm.Cond.code x code maxLocals ret, Jvm.Cond.code ({ cls := "com/example/depth2/depth2/MarkingStore", name := "hash", desc := "([BII)J" } : Jvm.MethodName) prog_25_method_5_code (6 : Nat) (Option.some Jvm.ClassFile.FieldType.long)]
set_option maxRecDepth 65536 in
theorem codes_eq : words1.filter isCode = codes1 := rfl
theorem w_codes : ∀ c ∈ words1.filter isCode, c.before args0 about1 = true := by
  rw [codes_eq]
  intro c hc
  simp only [codes1, List.mem_cons, List.not_mem_nil, or_false] at hc
  rcases hc with rfl | rfl
  · exact w_c0
  · exact w_c1
set_option maxRecDepth 65536 in
theorem w_t1 : words1.all (fun c => isCode c || c.before args0 about1) = true := by decide +kernel
theorem w_tables : (allAtoms (Jvm.Cond.code x code maxLocals ret :: tables_1)).before args0 about1 = true := by
  rw [allAtoms_all]
  show words1.all (fun c => c.before args0 about1) = true
  refine all_split ?_ w_codes
  rw [w_t1]
set_option maxRecDepth 65536 in
theorem w_case : (Jvm.Cond.and given_1 narrow_1).before args0 about1 = true := by decide +kernel
theorem w_applies : (headSpec (Jvm.Cond.code x code maxLocals ret :: tables_1) room_1).applies x e0.platform about1 = true :=
  (Spec.applies_iff w_frames).mpr ⟨w_running, w_runnable, w_alone, w_named, w_hears, w_ripe, w_room, w_tables⟩
theorem atStart : AtStart classFile x code maxLocals ret World_1 tables_1 room_1 Calls_1 rest_1 Pre_1 launch0 p0 e0 about1 theMethod args0 below0 :=
  ⟨lists_1, trivial, launch0.admits_env _ _ _, launch0.least_env, fairChoices_fair.cas, fairChoices_fair.clock, w_frames, w_args, w_heap, w_applies, trivial, trivial, w_case⟩
end start1
theorem witness_1 : WitnessClaimed_1 := ⟨start1.p0, start1.e0, start1.about1, start1.theMethod, start1.args0, start1.below0, start1.atStart⟩
end Jvm.Pilot.@@N@@
