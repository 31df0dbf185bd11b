import JvmDerived
import JvmDerived.Pilot.@@N@@Statement
import JvmDerived.Pilot.@@N@@Code
set_option linter.unusedVariables false
set_option linter.unusedSimpArgs false
namespace Jvm.Pilot.@@N@@
open Jvm Jvm.ClassFile Sem Op Lib Jvm.Free Jvm.Stand Jvm.LawKit Jvm.RoadKit Bundle Jvm.Pilot.@@N@@.Jvm.D
section OwnLayer
variable {p : Program} {l : Launch} {e : Env} {R : Room} {s : State} {m : MethodId} {args : Array Value} {below : List Frame} {meth : Method} {c : Code} {T : State} {cells slots : Nat} {Z : State} {a0 : Array Value} {h h' : Heap} {n0 : Nat} {A : State → Outcome → Prop} {bs : ByteArray} {maxL : Nat} {own : String} {pc pc' : Nat} {L L' : Array Slot} {st : List Value}
/-- the run that stands over T with the frame f comes to an end that A allows -/
def own_Wins (p : Program) (e : Env) (below : List Frame) (A : State → Outcome → Prop) (T : State) (f : JFrame) : Prop := ∃ U o, Steps p.tables e below (T.setTop f) U ∧ A U o
theorem own_by {T' : State} {f f' : JFrame} (q : ∀ target, Steps p.tables e below (T'.setTop f') target → Steps p.tables e below (T.setTop f) target) (k : own_Wins p e below A T' f') : own_Wins p e below A T f := by
  obtain ⟨U, o, h1, h2⟩ := k
  exact ⟨U, o, q _ h1, h2⟩
/-- where the walk stands: the kit's Stand, the heap, what was written is new, and what the walk knows of the body -/
def own_St (p : Program) (l : Launch) (e : Env) (R : Room) (s : State) (m : MethodId) (args : Array Value) (below : List Frame) (meth : Method) (c : Code) (Z : State) (n0 : Nat) (bs : ByteArray) (maxL : Nat) (own : String) (T : State) (h : Heap) (cells slots : Nat) : Prop :=
  ∃ locs, Stand p l e R s m args below meth c T locs cells slots ∧ T.heap = h ∧ Fr n0 locs ∧ n0 ≤ h.size ∧ p.tables.exec = Jvm.exec ∧ c.code = bs ∧ c.maxLocals = maxL ∧ s.vm.findClass own = some m.cls ∧ Z.Warmed39 s.vm ∧ meth.locks = false
theorem own_St.here (X : own_St p l e R s m args below meth c Z n0 bs maxL own T h cells slots) : At T m c below := by obtain ⟨_, Y, -⟩ := X; exact Y.here
theorem own_St.ex (X : own_St p l e R s m args below meth c Z n0 bs maxL own T h cells slots) : p.tables.exec = Jvm.exec := by obtain ⟨_, -, -, -, -, q, -⟩ := X; exact q
theorem own_St.cd (X : own_St p l e R s m args below meth c Z n0 bs maxL own T h cells slots) : c.code = bs := by obtain ⟨_, -, -, -, -, -, q, -⟩ := X; exact q
theorem own_St.ml (X : own_St p l e R s m args below meth c Z n0 bs maxL own T h cells slots) : c.maxLocals = maxL := by obtain ⟨_, -, -, -, -, -, -, q, -⟩ := X; exact q
theorem own_St.sz (X : own_St p l e R s m args below meth c Z n0 bs maxL own T h cells slots) : n0 ≤ h.size := by obtain ⟨_, -, -, -, q, -⟩ := X; exact q
theorem own_St.wz (X : own_St p l e R s m args below meth c Z n0 bs maxL own T h cells slots) : Z.Warmed39 s.vm := by obtain ⟨_, -, -, -, -, -, -, -, -, q, -⟩ := X; exact q
theorem own_St.more (X : own_St p l e R s m args below meth c Z n0 bs maxL own T h cells slots) {cells' slots' : Nat} (hc : cells ≤ cells') (hs : slots ≤ slots') : own_St p l e R s m args below meth c Z n0 bs maxL own T h cells' slots' := by
  obtain ⟨locs, Y, r⟩ := X
  exact ⟨locs, Y.more hc hs, r⟩
/-- an instruction, with the pc behind it -/
def own_ix (bs : ByteArray) (pc : Nat) (i : Instr) (n pc' : Nat) : Prop := decode bs pc = .ok (i, n) ∧ pc + n = pc'
def own_ik (bs : ByteArray) (pc : Nat) (v : Int32) (pc' : Nat) : Prop := ∃ i : Int, (decode bs pc = .ok (.iconst i, 1) ∧ Int32.ofInt i = v ∧ pc + 1 = pc') ∨ (decode bs pc = .ok (.bipush i, 2) ∧ (Int8.ofInt i).toInt32 = v ∧ pc + 2 = pc') ∨ (decode bs pc = .ok (.sipush i, 3) ∧ (Int16.ofInt i).toInt32 = v ∧ pc + 3 = pc')
def own_lk (bs : ByteArray) (pc : Nat) (v : Int64) (pc' : Nat) : Prop := ∃ k : Fin 2, decode bs pc = .ok (.lconst k, 1) ∧ Int64.ofNat k = v ∧ pc + 1 = pc'
def own_ii (bs : ByteArray) (pc : Nat) (k : Nat) (w : Int32) (pc' : Nat) : Prop := ∃ cst : Int, decode bs pc = .ok (.iinc k cst, 3) ∧ Int32.ofInt cst = w ∧ pc + 3 = pc'
def own_gt (bs : ByteArray) (pc tgt : Nat) : Prop := ∃ o : Int, decode bs pc = .ok (.goto o, 3) ∧ 0 ≤ (pc : Int) + o ∧ ((pc : Int) + o).toNat = tgt
def own_ifc (bs : ByteArray) (pc : Nat) (cd : ClassFile.Cond) (pc' tgt : Nat) : Prop := ∃ o : Int, decode bs pc = .ok (.ifCond cd o, 3) ∧ pc + 3 = pc' ∧ 0 ≤ (pc : Int) + o ∧ ((pc : Int) + o).toNat = tgt
def own_icm (bs : ByteArray) (pc : Nat) (cd : ClassFile.Cond) (pc' tgt : Nat) : Prop := ∃ o : Int, decode bs pc = .ok (.if_icmp cd o, 3) ∧ pc + 3 = pc' ∧ 0 ≤ (pc : Int) + o ∧ ((pc : Int) + o).toNat = tgt
def own_inl (bs : ByteArray) (pc : Nat) (pc' tgt : Nat) : Prop := ∃ o : Int, decode bs pc = .ok (.ifnull o, 3) ∧ pc + 3 = pc' ∧ 0 ≤ (pc : Int) + o ∧ ((pc : Int) + o).toNat = tgt
def own_inn (bs : ByteArray) (pc : Nat) (pc' tgt : Nat) : Prop := ∃ o : Int, decode bs pc = .ok (.ifnonnull o, 3) ∧ pc + 3 = pc' ∧ 0 ≤ (pc : Int) + o ∧ ((pc : Int) + o).toNat = tgt
def own_il (bs : ByteArray) (pc k pc' : Nat) : Prop := (∃ q : Fin 4, decode bs pc = .ok (.iload_n q, 1) ∧ q.val = k ∧ pc + 1 = pc') ∨ (decode bs pc = .ok (.iload k, 2) ∧ pc + 2 = pc')
def own_ll (bs : ByteArray) (pc k pc' : Nat) : Prop := (∃ q : Fin 4, decode bs pc = .ok (.lload_n q, 1) ∧ q.val = k ∧ pc + 1 = pc') ∨ (decode bs pc = .ok (.lload k, 2) ∧ pc + 2 = pc')
def own_al (bs : ByteArray) (pc k pc' : Nat) : Prop := (∃ q : Fin 4, decode bs pc = .ok (.aload_n q, 1) ∧ q.val = k ∧ pc + 1 = pc') ∨ (decode bs pc = .ok (.aload k, 2) ∧ pc + 2 = pc')
def own_si (bs : ByteArray) (pc k pc' : Nat) : Prop := (∃ q : Fin 4, decode bs pc = .ok (.istore_n q, 1) ∧ q.val = k ∧ pc + 1 = pc') ∨ (decode bs pc = .ok (.istore k, 2) ∧ pc + 2 = pc')
def own_sl (bs : ByteArray) (pc k pc' : Nat) : Prop := (∃ q : Fin 4, decode bs pc = .ok (.lstore_n q, 1) ∧ q.val = k ∧ pc + 1 = pc') ∨ (decode bs pc = .ok (.lstore k, 2) ∧ pc + 2 = pc')
def own_sa (bs : ByteArray) (pc k pc' : Nat) : Prop := (∃ q : Fin 4, decode bs pc = .ok (.astore_n q, 1) ∧ q.val = k ∧ pc + 1 = pc') ∨ (decode bs pc = .ok (.astore k, 2) ∧ pc + 2 = pc')
def own_Lshl (x : Int64) (q : Int32) : Int64 := x <<< (q &&& 0x3f).toInt64
def own_Lshr (x : Int64) (q : Int32) : Int64 := x >>> (q &&& 0x3f).toInt64
def own_Lushr (x : Int64) (q : Int32) : Int64 := (x.toUInt64 >>> (q &&& 0x3f).toInt64.toUInt64).toInt64
def own_Ishl (x q : Int32) : Int32 := x <<< (q &&& 31)
def own_Ishr (x q : Int32) : Int32 := x >>> (q &&& 31)
def own_Iushr (x q : Int32) : Int32 := (x.toUInt32 >>> (q &&& 31).toUInt32).toInt32
theorem own_iadd (X : own_St p l e R s m args below meth c Z n0 bs maxL own T h cells slots) {x y : Int32} (d : own_ix bs pc .iadd 1 pc')  (k : own_Wins p e below A T (mkF m pc' L (.int (x + y) :: st))) : own_Wins p e below A T (mkF m pc L (.int y :: .int x :: st)) := by
  obtain ⟨d, rfl⟩ := d
  exact own_by (fun _ q => XS.iadd X.here X.ex rfl (hb X.cd d) rfl q) k
theorem own_isub (X : own_St p l e R s m args below meth c Z n0 bs maxL own T h cells slots) {x y : Int32} (d : own_ix bs pc .isub 1 pc')  (k : own_Wins p e below A T (mkF m pc' L (.int (x - y) :: st))) : own_Wins p e below A T (mkF m pc L (.int y :: .int x :: st)) := by
  obtain ⟨d, rfl⟩ := d
  exact own_by (fun _ q => XS.isub X.here X.ex rfl (hb X.cd d) rfl q) k
theorem own_imul (X : own_St p l e R s m args below meth c Z n0 bs maxL own T h cells slots) {x y : Int32} (d : own_ix bs pc .imul 1 pc')  (k : own_Wins p e below A T (mkF m pc' L (.int (x * y) :: st))) : own_Wins p e below A T (mkF m pc L (.int y :: .int x :: st)) := by
  obtain ⟨d, rfl⟩ := d
  exact own_by (fun _ q => XS.imul X.here X.ex rfl (hb X.cd d) rfl q) k
theorem own_iand (X : own_St p l e R s m args below meth c Z n0 bs maxL own T h cells slots) {x y : Int32} (d : own_ix bs pc .iand 1 pc')  (k : own_Wins p e below A T (mkF m pc' L (.int (x &&& y) :: st))) : own_Wins p e below A T (mkF m pc L (.int y :: .int x :: st)) := by
  obtain ⟨d, rfl⟩ := d
  exact own_by (fun _ q => XS.iand X.here X.ex rfl (hb X.cd d) rfl q) k
theorem own_ior (X : own_St p l e R s m args below meth c Z n0 bs maxL own T h cells slots) {x y : Int32} (d : own_ix bs pc .ior 1 pc')  (k : own_Wins p e below A T (mkF m pc' L (.int (x ||| y) :: st))) : own_Wins p e below A T (mkF m pc L (.int y :: .int x :: st)) := by
  obtain ⟨d, rfl⟩ := d
  exact own_by (fun _ q => XS.ior X.here X.ex rfl (hb X.cd d) rfl q) k
theorem own_ixor (X : own_St p l e R s m args below meth c Z n0 bs maxL own T h cells slots) {x y : Int32} (d : own_ix bs pc .ixor 1 pc')  (k : own_Wins p e below A T (mkF m pc' L (.int (x ^^^ y) :: st))) : own_Wins p e below A T (mkF m pc L (.int y :: .int x :: st)) := by
  obtain ⟨d, rfl⟩ := d
  exact own_by (fun _ q => XS.ixor X.here X.ex rfl (hb X.cd d) rfl q) k
theorem own_ladd (X : own_St p l e R s m args below meth c Z n0 bs maxL own T h cells slots) {x y : Int64} (d : own_ix bs pc .ladd 1 pc')  (k : own_Wins p e below A T (mkF m pc' L (.long (x + y) :: st))) : own_Wins p e below A T (mkF m pc L (.long y :: .long x :: st)) := by
  obtain ⟨d, rfl⟩ := d
  exact own_by (fun _ q => XS.ladd X.here X.ex rfl (hb X.cd d) rfl q) k
theorem own_lsub (X : own_St p l e R s m args below meth c Z n0 bs maxL own T h cells slots) {x y : Int64} (d : own_ix bs pc .lsub 1 pc')  (k : own_Wins p e below A T (mkF m pc' L (.long (x - y) :: st))) : own_Wins p e below A T (mkF m pc L (.long y :: .long x :: st)) := by
  obtain ⟨d, rfl⟩ := d
  exact own_by (fun _ q => XS.lsub X.here X.ex rfl (hb X.cd d) rfl q) k
theorem own_lmul (X : own_St p l e R s m args below meth c Z n0 bs maxL own T h cells slots) {x y : Int64} (d : own_ix bs pc .lmul 1 pc')  (k : own_Wins p e below A T (mkF m pc' L (.long (x * y) :: st))) : own_Wins p e below A T (mkF m pc L (.long y :: .long x :: st)) := by
  obtain ⟨d, rfl⟩ := d
  exact own_by (fun _ q => XS.lmul X.here X.ex rfl (hb X.cd d) rfl q) k
theorem own_land (X : own_St p l e R s m args below meth c Z n0 bs maxL own T h cells slots) {x y : Int64} (d : own_ix bs pc .land 1 pc')  (k : own_Wins p e below A T (mkF m pc' L (.long (x &&& y) :: st))) : own_Wins p e below A T (mkF m pc L (.long y :: .long x :: st)) := by
  obtain ⟨d, rfl⟩ := d
  exact own_by (fun _ q => XS.land X.here X.ex rfl (hb X.cd d) rfl q) k
theorem own_lor (X : own_St p l e R s m args below meth c Z n0 bs maxL own T h cells slots) {x y : Int64} (d : own_ix bs pc .lor 1 pc')  (k : own_Wins p e below A T (mkF m pc' L (.long (x ||| y) :: st))) : own_Wins p e below A T (mkF m pc L (.long y :: .long x :: st)) := by
  obtain ⟨d, rfl⟩ := d
  exact own_by (fun _ q => XS.lor X.here X.ex rfl (hb X.cd d) rfl q) k
theorem own_lxor (X : own_St p l e R s m args below meth c Z n0 bs maxL own T h cells slots) {x y : Int64} (d : own_ix bs pc .lxor 1 pc')  (k : own_Wins p e below A T (mkF m pc' L (.long (x ^^^ y) :: st))) : own_Wins p e below A T (mkF m pc L (.long y :: .long x :: st)) := by
  obtain ⟨d, rfl⟩ := d
  exact own_by (fun _ q => XS.lxor X.here X.ex rfl (hb X.cd d) rfl q) k
theorem own_ishl (X : own_St p l e R s m args below meth c Z n0 bs maxL own T h cells slots) {x y : Int32} (d : own_ix bs pc .ishl 1 pc')  (k : own_Wins p e below A T (mkF m pc' L (.int (own_Ishl x y) :: st))) : own_Wins p e below A T (mkF m pc L (.int y :: .int x :: st)) := by
  obtain ⟨d, rfl⟩ := d
  exact own_by (fun _ q => XS.ishl X.here X.ex rfl (hb X.cd d) rfl q) k
theorem own_ishr (X : own_St p l e R s m args below meth c Z n0 bs maxL own T h cells slots) {x y : Int32} (d : own_ix bs pc .ishr 1 pc')  (k : own_Wins p e below A T (mkF m pc' L (.int (own_Ishr x y) :: st))) : own_Wins p e below A T (mkF m pc L (.int y :: .int x :: st)) := by
  obtain ⟨d, rfl⟩ := d
  exact own_by (fun _ q => XS.ishr X.here X.ex rfl (hb X.cd d) rfl q) k
theorem own_iushr (X : own_St p l e R s m args below meth c Z n0 bs maxL own T h cells slots) {x y : Int32} (d : own_ix bs pc .iushr 1 pc')  (k : own_Wins p e below A T (mkF m pc' L (.int (own_Iushr x y) :: st))) : own_Wins p e below A T (mkF m pc L (.int y :: .int x :: st)) := by
  obtain ⟨d, rfl⟩ := d
  exact own_by (fun _ q => XS.iushr X.here X.ex rfl (hb X.cd d) rfl q) k
theorem own_lshl (X : own_St p l e R s m args below meth c Z n0 bs maxL own T h cells slots) {x : Int64} {y : Int32} (d : own_ix bs pc .lshl 1 pc')  (k : own_Wins p e below A T (mkF m pc' L (.long (own_Lshl x y) :: st))) : own_Wins p e below A T (mkF m pc L (.int y :: .long x :: st)) := by
  obtain ⟨d, rfl⟩ := d
  exact own_by (fun _ q => XS.lshl X.here X.ex rfl (hb X.cd d) rfl q) k
theorem own_lshr (X : own_St p l e R s m args below meth c Z n0 bs maxL own T h cells slots) {x : Int64} {y : Int32} (d : own_ix bs pc .lshr 1 pc')  (k : own_Wins p e below A T (mkF m pc' L (.long (own_Lshr x y) :: st))) : own_Wins p e below A T (mkF m pc L (.int y :: .long x :: st)) := by
  obtain ⟨d, rfl⟩ := d
  exact own_by (fun _ q => XS.lshr X.here X.ex rfl (hb X.cd d) rfl q) k
theorem own_lushr (X : own_St p l e R s m args below meth c Z n0 bs maxL own T h cells slots) {x : Int64} {y : Int32} (d : own_ix bs pc .lushr 1 pc')  (k : own_Wins p e below A T (mkF m pc' L (.long (own_Lushr x y) :: st))) : own_Wins p e below A T (mkF m pc L (.int y :: .long x :: st)) := by
  obtain ⟨d, rfl⟩ := d
  exact own_by (fun _ q => XS.lushr X.here X.ex rfl (hb X.cd d) rfl q) k
theorem own_idiv (X : own_St p l e R s m args below meth c Z n0 bs maxL own T h cells slots) {x y : Int32} (d : own_ix bs pc .idiv 1 pc') (hy : y ≠ 0) (k : own_Wins p e below A T (mkF m pc' L (.int (x / y) :: st))) : own_Wins p e below A T (mkF m pc L (.int y :: .int x :: st)) := by
  obtain ⟨d, rfl⟩ := d
  exact own_by (fun _ q => XS.idiv X.here X.ex rfl (hb X.cd d) rfl hy q) k
theorem own_ldiv (X : own_St p l e R s m args below meth c Z n0 bs maxL own T h cells slots) {x y : Int64} (d : own_ix bs pc .ldiv 1 pc') (hy : y ≠ 0) (k : own_Wins p e below A T (mkF m pc' L (.long (x / y) :: st))) : own_Wins p e below A T (mkF m pc L (.long y :: .long x :: st)) := by
  obtain ⟨d, rfl⟩ := d
  exact own_by (fun _ q => XS.ldiv X.here X.ex rfl (hb X.cd d) rfl hy q) k
theorem own_irem (X : own_St p l e R s m args below meth c Z n0 bs maxL own T h cells slots) {x y : Int32} (d : own_ix bs pc .irem 1 pc') (hy : y ≠ 0) (k : own_Wins p e below A T (mkF m pc' L (.int (x % y) :: st))) : own_Wins p e below A T (mkF m pc L (.int y :: .int x :: st)) := by
  obtain ⟨d, rfl⟩ := d
  have e1 : x - x / y * y = x % y := irem_eq_mod x y
  exact own_by (fun _ q => XS.irem X.here X.ex rfl (hb X.cd d) rfl hy (by rw [e1]; exact q)) k
theorem own_lrem (X : own_St p l e R s m args below meth c Z n0 bs maxL own T h cells slots) {x y : Int64} (d : own_ix bs pc .lrem 1 pc') (hy : y ≠ 0) (k : own_Wins p e below A T (mkF m pc' L (.long (x % y) :: st))) : own_Wins p e below A T (mkF m pc L (.long y :: .long x :: st)) := by
  obtain ⟨d, rfl⟩ := d
  have e1 : x - x / y * y = x % y := lrem_mod x y
  exact own_by (fun _ q => XS.lrem X.here X.ex rfl (hb X.cd d) rfl hy (by rw [e1]; exact q)) k
theorem own_ineg (X : own_St p l e R s m args below meth c Z n0 bs maxL own T h cells slots) {x : Int32} (d : own_ix bs pc .ineg 1 pc')  (k : own_Wins p e below A T (mkF m pc' L (.int (-x) :: st))) : own_Wins p e below A T (mkF m pc L (.int x :: st)) := by
  obtain ⟨d, rfl⟩ := d
  exact own_by (fun _ q => XS.ineg X.here X.ex rfl (hb X.cd d) rfl q) k
theorem own_lneg (X : own_St p l e R s m args below meth c Z n0 bs maxL own T h cells slots) {x : Int64} (d : own_ix bs pc .lneg 1 pc')  (k : own_Wins p e below A T (mkF m pc' L (.long (-x) :: st))) : own_Wins p e below A T (mkF m pc L (.long x :: st)) := by
  obtain ⟨d, rfl⟩ := d
  exact own_by (fun _ q => XS.lneg X.here X.ex rfl (hb X.cd d) rfl q) k
theorem own_i2l (X : own_St p l e R s m args below meth c Z n0 bs maxL own T h cells slots) {x : Int32} (d : own_ix bs pc .i2l 1 pc')  (k : own_Wins p e below A T (mkF m pc' L (.long x.toInt64 :: st))) : own_Wins p e below A T (mkF m pc L (.int x :: st)) := by
  obtain ⟨d, rfl⟩ := d
  exact own_by (fun _ q => XS.i2l X.here X.ex rfl (hb X.cd d) rfl q) k
theorem own_l2i (X : own_St p l e R s m args below meth c Z n0 bs maxL own T h cells slots) {x : Int64} (d : own_ix bs pc .l2i 1 pc')  (k : own_Wins p e below A T (mkF m pc' L (.int x.toInt32 :: st))) : own_Wins p e below A T (mkF m pc L (.long x :: st)) := by
  obtain ⟨d, rfl⟩ := d
  exact own_by (fun _ q => XS.l2i X.here X.ex rfl (hb X.cd d) rfl q) k
theorem own_i2b (X : own_St p l e R s m args below meth c Z n0 bs maxL own T h cells slots) {x : Int32} (d : own_ix bs pc .i2b 1 pc')  (k : own_Wins p e below A T (mkF m pc' L (.int x.toInt8.toInt32 :: st))) : own_Wins p e below A T (mkF m pc L (.int x :: st)) := by
  obtain ⟨d, rfl⟩ := d
  exact own_by (fun _ q => XS.i2b X.here X.ex rfl (hb X.cd d) rfl q) k
theorem own_lcmp (X : own_St p l e R s m args below meth c Z n0 bs maxL own T h cells slots) {x y : Int64} (d : own_ix bs pc .lcmp 1 pc')  (k : own_Wins p e below A T (mkF m pc' L (.int (lcmpW x y) :: st))) : own_Wins p e below A T (mkF m pc L (.long y :: .long x :: st)) := by
  obtain ⟨d, rfl⟩ := d
  exact own_by (fun _ q => XS.lcmp X.here X.ex rfl (hb X.cd d) rfl q) k
theorem own_dup (X : own_St p l e R s m args below meth c Z n0 bs maxL own T h cells slots) {x : Value} (d : own_ix bs pc .dup 1 pc') (hc : x.category = 1) (k : own_Wins p e below A T (mkF m pc' L (x :: x :: st))) : own_Wins p e below A T (mkF m pc L (x :: st)) := by
  obtain ⟨d, rfl⟩ := d
  exact own_by (fun _ q => XS.dup X.here X.ex rfl (hb X.cd d) rfl hc q) k
theorem own_pop (X : own_St p l e R s m args below meth c Z n0 bs maxL own T h cells slots) {x : Value} (d : own_ix bs pc .pop 1 pc') (hc : x.category = 1) (k : own_Wins p e below A T (mkF m pc' L st)) : own_Wins p e below A T (mkF m pc L (x :: st)) := by
  obtain ⟨d, rfl⟩ := d
  exact own_by (fun _ q => XS.pop X.here X.ex rfl (hb X.cd d) rfl hc q) k
theorem own_dup2 (X : own_St p l e R s m args below meth c Z n0 bs maxL own T h cells slots) {x : Int32} {y : Addr} (d : own_ix bs pc .dup2 1 pc')  (k : own_Wins p e below A T (mkF m pc' L (.int x :: .ref y :: .int x :: .ref y :: st))) : own_Wins p e below A T (mkF m pc L (.int x :: .ref y :: st)) := by
  obtain ⟨d, rfl⟩ := d
  refine own_by (fun _ q => ?_) k
  show Steps p.tables e below (T.setTop (mkF m pc L (.int x :: .ref y :: st))) _
  jvm_step X.here [X.here.top, X.ex, (hb X.cd d), Value.category]
  exact q
theorem own_anull (X : own_St p l e R s m args below meth c Z n0 bs maxL own T h cells slots)  (d : own_ix bs pc .aconst_null 1 pc')  (k : own_Wins p e below A T (mkF m pc' L (.null :: st))) : own_Wins p e below A T (mkF m pc L st) := by
  obtain ⟨d, rfl⟩ := d
  exact own_by (fun _ q => XS.aconstNull X.here X.ex rfl (hb X.cd d) q) k
theorem own_ipush (X : own_St p l e R s m args below meth c Z n0 bs maxL own T h cells slots) {v : Int32} (d : own_ik bs pc v pc')  (k : own_Wins p e below A T (mkF m pc' L (.int v :: st))) : own_Wins p e below A T (mkF m pc L st) := by
  obtain ⟨i, ⟨d, rfl, rfl⟩ | ⟨d, rfl, rfl⟩ | ⟨d, rfl, rfl⟩⟩ := d
  · exact own_by (fun _ q => XS.iconst X.here X.ex rfl (hb X.cd d) q) k
  · exact own_by (fun _ q => XS.bipush X.here X.ex rfl (hb X.cd d) q) k
  · exact own_by (fun _ q => XS.sipush X.here X.ex rfl (hb X.cd d) q) k
theorem own_lpush (X : own_St p l e R s m args below meth c Z n0 bs maxL own T h cells slots) {v : Int64} (d : own_lk bs pc v pc')  (k : own_Wins p e below A T (mkF m pc' L (.long v :: st))) : own_Wins p e below A T (mkF m pc L st) := by
  obtain ⟨i, d, rfl, rfl⟩ := d
  exact own_by (fun _ q => XS.lconst X.here X.ex rfl (hb X.cd d) q) k
theorem own_iload (X : own_St p l e R s m args below meth c Z n0 bs maxL own T h cells slots) {i : Nat} {v : Int32} (d : own_il bs pc i pc') (hl : L[i]? = some (.val (.int v))) (k : own_Wins p e below A T (mkF m pc' L (.int v :: st))) : own_Wins p e below A T (mkF m pc L st) := by
  obtain ⟨i', d, rfl, rfl⟩ | ⟨d, rfl⟩ := d
  · exact own_by (fun _ q => XS.iloadN X.here X.ex rfl (hb X.cd d) hl q) k
  · exact own_by (fun _ q => XS.iload X.here X.ex rfl (hb X.cd d) hl q) k
theorem own_lload (X : own_St p l e R s m args below meth c Z n0 bs maxL own T h cells slots) {i : Nat} {v : Int64} (d : own_ll bs pc i pc') (hl : L[i]? = some (.val (.long v))) (k : own_Wins p e below A T (mkF m pc' L (.long v :: st))) : own_Wins p e below A T (mkF m pc L st) := by
  obtain ⟨i', d, rfl, rfl⟩ | ⟨d, rfl⟩ := d
  · exact own_by (fun _ q => XS.lloadN X.here X.ex rfl (hb X.cd d) hl q) k
  · exact own_by (fun _ q => XS.lload X.here X.ex rfl (hb X.cd d) hl q) k
theorem own_aload (X : own_St p l e R s m args below meth c Z n0 bs maxL own T h cells slots) {i : Nat} {v : Addr} (d : own_al bs pc i pc') (hl : L[i]? = some (.val (.ref v))) (k : own_Wins p e below A T (mkF m pc' L (.ref v :: st))) : own_Wins p e below A T (mkF m pc L st) := by
  obtain ⟨i', d, rfl, rfl⟩ | ⟨d, rfl⟩ := d
  · exact own_by (fun _ q => XS.aloadN X.here X.ex rfl (hb X.cd d) hl rfl q) k
  · exact own_by (fun _ q => XS.aload X.here X.ex rfl (hb X.cd d) hl rfl q) k
theorem own_aloadN (X : own_St p l e R s m args below meth c Z n0 bs maxL own T h cells slots) {i : Nat} (d : own_al bs pc i pc') (hl : L[i]? = some (.val .null)) (k : own_Wins p e below A T (mkF m pc' L (.null :: st))) : own_Wins p e below A T (mkF m pc L st) := by
  obtain ⟨i', d, rfl, rfl⟩ | ⟨d, rfl⟩ := d
  · exact own_by (fun _ q => XS.aloadN X.here X.ex rfl (hb X.cd d) hl rfl q) k
  · exact own_by (fun _ q => XS.aload X.here X.ex rfl (hb X.cd d) hl rfl q) k
theorem own_istore (X : own_St p l e R s m args below meth c Z n0 bs maxL own T h cells slots) {i : Nat} {v : Int32} (L' : Array Slot) (d : own_si bs pc i pc') (hl : storeLocals L i (.int v) = some L') (k : own_Wins p e below A T (mkF m pc' L' st)) : own_Wins p e below A T (mkF m pc L (.int v :: st)) := by
  obtain ⟨i', d, rfl, rfl⟩ | ⟨d, rfl⟩ := d
  · exact own_by (fun _ q => XS.istoreN X.here X.ex rfl (hb X.cd d) rfl hl q) k
  · exact own_by (fun _ q => XS.istore X.here X.ex rfl (hb X.cd d) rfl hl q) k
theorem own_lstore (X : own_St p l e R s m args below meth c Z n0 bs maxL own T h cells slots) {i : Nat} {v : Int64} (L' : Array Slot) (d : own_sl bs pc i pc') (hl : storeLocals L i (.long v) = some L') (k : own_Wins p e below A T (mkF m pc' L' st)) : own_Wins p e below A T (mkF m pc L (.long v :: st)) := by
  obtain ⟨i', d, rfl, rfl⟩ | ⟨d, rfl⟩ := d
  · exact own_by (fun _ q => XS.lstoreN X.here X.ex rfl (hb X.cd d) rfl hl q) k
  · exact own_by (fun _ q => XS.lstore X.here X.ex rfl (hb X.cd d) rfl hl q) k
theorem own_astore (X : own_St p l e R s m args below meth c Z n0 bs maxL own T h cells slots) {i : Nat} {v : Addr} (L' : Array Slot) (d : own_sa bs pc i pc') (hl : storeLocals L i (.ref v) = some L') (k : own_Wins p e below A T (mkF m pc' L' st)) : own_Wins p e below A T (mkF m pc L (.ref v :: st)) := by
  obtain ⟨i', d, rfl, rfl⟩ | ⟨d, rfl⟩ := d
  · exact own_by (fun _ q => XS.astoreN X.here X.ex rfl (hb X.cd d) rfl rfl hl q) k
  · exact own_by (fun _ q => XS.astore X.here X.ex rfl (hb X.cd d) rfl rfl hl q) k
theorem own_iinc (X : own_St p l e R s m args below meth c Z n0 bs maxL own T h cells slots) {i : Nat} {x w : Int32} (L' : Array Slot) (d : own_ii bs pc i w pc') (hl : L[i]? = some (.val (.int x))) (hl' : storeLocals L i (.int (x + w)) = some L') (k : own_Wins p e below A T (mkF m pc' L' st)) : own_Wins p e below A T (mkF m pc L st) := by
  obtain ⟨i', d, rfl, rfl⟩ := d
  exact own_by (fun _ q => XS.iinc X.here X.ex rfl (hb X.cd d) hl hl' q) k
theorem own_goto (X : own_St p l e R s m args below meth c Z n0 bs maxL own T h cells slots) (d : own_gt bs pc pc') (k : own_Wins p e below A T (mkF m pc' L st)) : own_Wins p e below A T (mkF m pc L st) := by
  obtain ⟨o, d, h1, h2⟩ := d
  exact own_by (fun _ q => XS.goto X.here X.ex rfl rfl (hb X.cd d) h1 h2 q) k
theorem own_ifYes (X : own_St p l e R s m args below meth c Z n0 bs maxL own T h cells slots) {cd : ClassFile.Cond} {x : Int32} {nx : Nat} (d : own_ifc bs pc cd nx pc') (hc : ifCond.holds cd x = true) (k : own_Wins p e below A T (mkF m pc' L st)) : own_Wins p e below A T (mkF m pc L (.int x :: st)) := by
  obtain ⟨o, d, -, h1, h2⟩ := d
  exact own_by (fun _ q => XS.ifYes X.here X.ex rfl rfl (hb X.cd d) rfl hc h1 h2 q) k
theorem own_ifNo (X : own_St p l e R s m args below meth c Z n0 bs maxL own T h cells slots) {cd : ClassFile.Cond} {x : Int32} {tg : Nat} (d : own_ifc bs pc cd pc' tg) (hc : ifCond.holds cd x = false) (k : own_Wins p e below A T (mkF m pc' L st)) : own_Wins p e below A T (mkF m pc L (.int x :: st)) := by
  obtain ⟨o, d, rfl, h1, h2⟩ := d
  exact own_by (fun _ q => XS.ifNo X.here X.ex rfl (hb X.cd d) rfl hc q) k
theorem own_icYes (X : own_St p l e R s m args below meth c Z n0 bs maxL own T h cells slots) {cd : ClassFile.Cond} {x y : Int32} {nx : Nat} (d : own_icm bs pc cd nx pc') (hc : if_icmp.holds cd x y = true) (k : own_Wins p e below A T (mkF m pc' L st)) : own_Wins p e below A T (mkF m pc L (.int y :: .int x :: st)) := by
  obtain ⟨o, d, -, h1, h2⟩ := d
  exact own_by (fun _ q => XS.icmpYes X.here X.ex rfl rfl (hb X.cd d) rfl hc h1 h2 q) k
theorem own_icNo (X : own_St p l e R s m args below meth c Z n0 bs maxL own T h cells slots) {cd : ClassFile.Cond} {x y : Int32} {tg : Nat} (d : own_icm bs pc cd pc' tg) (hc : if_icmp.holds cd x y = false) (k : own_Wins p e below A T (mkF m pc' L st)) : own_Wins p e below A T (mkF m pc L (.int y :: .int x :: st)) := by
  obtain ⟨o, d, rfl, h1, h2⟩ := d
  exact own_by (fun _ q => XS.icmpNo X.here X.ex rfl (hb X.cd d) rfl hc q) k
theorem own_inlYes (X : own_St p l e R s m args below meth c Z n0 bs maxL own T h cells slots) {nx : Nat} (d : own_inl bs pc nx pc') (k : own_Wins p e below A T (mkF m pc' L st)) : own_Wins p e below A T (mkF m pc L (.null :: st)) := by
  obtain ⟨o, d, -, h1, h2⟩ := d
  exact own_by (fun _ q => XS.ifnullYes X.here X.ex rfl rfl (hb X.cd d) rfl h1 h2 q) k
theorem own_inlNo (X : own_St p l e R s m args below meth c Z n0 bs maxL own T h cells slots) {a : Addr} {tg : Nat} (d : own_inl bs pc pc' tg) (k : own_Wins p e below A T (mkF m pc' L st)) : own_Wins p e below A T (mkF m pc L (.ref a :: st)) := by
  obtain ⟨o, d, rfl, h1, h2⟩ := d
  exact own_by (fun _ q => XS.ifnullNo X.here X.ex rfl (hb X.cd d) rfl q) k
theorem own_innYes (X : own_St p l e R s m args below meth c Z n0 bs maxL own T h cells slots) {a : Addr} {nx : Nat} (d : own_inn bs pc nx pc') (k : own_Wins p e below A T (mkF m pc' L st)) : own_Wins p e below A T (mkF m pc L (.ref a :: st)) := by
  obtain ⟨o, d, -, h1, h2⟩ := d
  exact own_by (fun _ q => XS.ifnonnullYes X.here X.ex rfl rfl (hb X.cd d) rfl h1 h2 q) k
theorem own_innNo (X : own_St p l e R s m args below meth c Z n0 bs maxL own T h cells slots) {tg : Nat} (d : own_inn bs pc pc' tg) (k : own_Wins p e below A T (mkF m pc' L st)) : own_Wins p e below A T (mkF m pc L (.null :: st)) := by
  obtain ⟨o, d, rfl, h1, h2⟩ := d
  exact own_by (fun _ q => XS.ifnonnullNo X.here X.ex rfl (hb X.cd d) rfl q) k
theorem own_ldc (X : own_St p l e R s m args below meth c Z n0 bs maxL own T h cells slots) {i : Nat} {v : Int32} (w : (Jvm.Cond.constant own i v).before a0 Z = true) (d : own_ix bs pc (.ldc i) 2 pc') (k : own_Wins p e below A T (mkF m pc' L (.int v :: st))) : own_Wins p e below A T (mkF m pc L st) := by
  obtain ⟨locs, Y, eT, N, hn, hx, hby, hml, hown, hZ, hlk⟩ := X
  obtain ⟨d, rfl⟩ := d
  exact own_by (Y.ldcInt hx hown (mvT hZ w) (g := mkF m pc L st) rfl (hb hby d)) k
theorem own_ldc2 (X : own_St p l e R s m args below meth c Z n0 bs maxL own T h cells slots) {i : Nat} {v : Int64} (w : (Jvm.Cond.constantLong own i v).before a0 Z = true) (d : own_ix bs pc (.ldc2_w i) 3 pc') (k : own_Wins p e below A T (mkF m pc' L (.long v :: st))) : own_Wins p e below A T (mkF m pc L st) := by
  obtain ⟨locs, Y, eT, N, hn, hx, hby, hml, hown, hZ, hlk⟩ := X
  obtain ⟨d, rfl⟩ := d
  exact own_by (Y.ldc2Long hx hown (mvT hZ w) (g := mkF m pc L st) rfl (hb hby d)) k
/-- an array of primitives: its values as a list -/
def own_AL (Z : State) (h : Heap) (a : Addr) (ty : FieldType) (vs : List Value) : Prop := ∃ c : Cell, Arr Z h a c ty ∧ c.slots = vs.toArray ∧ vs.length < 2147483648
theorem own_AL.lt {a : Addr} {ty : FieldType} {vs : List Value} (V : own_AL Z h a ty vs) : a < h.size := by obtain ⟨c, A, -⟩ := V; exact A.lt
theorem own_AL.ext {a : Addr} {ty : FieldType} {vs : List Value} (V : own_AL Z h a ty vs) (E : Ext h h') : own_AL Z h' a ty vs := by obtain ⟨c, A, r⟩ := V; exact ⟨c, A.ext E, r⟩
theorem own_AL.other {a b : Addr} {sl : Nat} {v : Value} {ty : FieldType} {vs : List Value} (V : own_AL Z h b ty vs) (W : Wr h h' a sl v) (q : b ≠ a) : own_AL Z h' b ty vs := by obtain ⟨c, A, r⟩ := V; exact ⟨c, A.other W q, r⟩
theorem own_AL.keep {a : Addr} {ws : List Addr} {ty : FieldType} {vs : List Value} (V : own_AL Z h a ty vs) (K : Keep h h' ws) (q : a ∉ ws) : own_AL Z h' a ty vs := by obtain ⟨c, A, r⟩ := V; exact ⟨c, ⟨K.2.1 a c A.1 q, A.2⟩, r⟩
theorem own_AL.new {a : Addr} {k : ClassId} {ty : FieldType} {z : Int32} {n : Nat} (A : Arr Z h a (newA k ty z) ty) (hz : z.toNatClampNeg = n) (hn : n < 2147483648) : own_AL Z h a ty (List.replicate n (defaultValue ty)) :=
  ⟨_, A, by simp [newA, hz], by simpa using hn⟩
theorem own_AL.same {a : Addr} {k : Nat} {v : Value} {ty : FieldType} {vs : List Value} (V : own_AL Z h a ty vs) (W : Wr h h' a k v) : own_AL Z h' a ty (vs.set k v) := by
  obtain ⟨c, A, q, r⟩ := V
  exact ⟨_, A.same W, by simp [Cell.setSlot, q], by simpa using r⟩
/-- an index in its two forms -/
def own_idx (j : Int32) (k : Nat) : Prop := ¬ j < 0 ∧ j.toNatClampNeg = k
theorem own_in {j : Int32} {k : Nat} {cl : Cell} {vs : List Value} (hj : own_idx j k) (q : cl.slots = vs.toArray) (hk : k < vs.length) : ¬ (j < 0 ∨ cl.slots.size ≤ j.toNatClampNeg) := by
  rw [q, hj.2]; simp only [List.size_toArray]
  intro z; rcases z with z | z
  · exact hj.1 z
  · omega
theorem own_len {cl : Cell} {vs : List Value} (q : cl.slots = vs.toArray) : cl.slots.size.toInt32 = Int32.ofNat vs.length := by rw [q]; simp [Nat.toInt32]
theorem own_iaload (X : own_St p l e R s m args below meth c Z n0 bs maxL own T h cells slots) {a : Addr} {vs : List Value} (V : own_AL Z h a .int vs) {j : Int32} {i : Nat} {v : Value} (hj : own_idx j i) (hv : vs[i]? = some v) (d : own_ix bs pc .iaload 1 pc') (k : own_Wins p e below A T (mkF m pc' L (v :: st))) : own_Wins p e below A T (mkF m pc L (.int j :: .ref a :: st)) := by
  obtain ⟨locs, Y, eT, N, hn, hx, hby, hml, hown, hZ, hlk⟩ := X
  obtain ⟨d, rfl⟩ := d
  obtain ⟨cl, Ar, q, r⟩ := V
  have hk : i < vs.length := (List.getElem?_eq_some_iff.mp hv).1
  exact own_by (fun t kk => Y.iaload hx (j := j) (v := v) (by rw [eT]; exact Ar.1) (State.isArrayOf_alike hZ.alike Ar.2.1) Ar.2.2 (own_in hj q hk) (by rw [q, hj.2]; simpa using hv) (g := mkF m pc L (.int j :: .ref a :: st)) rfl rfl (hb hby d) t kk) k
theorem own_laload (X : own_St p l e R s m args below meth c Z n0 bs maxL own T h cells slots) {a : Addr} {vs : List Value} (V : own_AL Z h a .long vs) {j : Int32} {i : Nat} {v : Value} (hj : own_idx j i) (hv : vs[i]? = some v) (d : own_ix bs pc .laload 1 pc') (k : own_Wins p e below A T (mkF m pc' L (v :: st))) : own_Wins p e below A T (mkF m pc L (.int j :: .ref a :: st)) := by
  obtain ⟨locs, Y, eT, N, hn, hx, hby, hml, hown, hZ, hlk⟩ := X
  obtain ⟨d, rfl⟩ := d
  obtain ⟨cl, Ar, q, r⟩ := V
  have hk : i < vs.length := (List.getElem?_eq_some_iff.mp hv).1
  exact own_by (fun t kk => Y.laload hx (j := j) (v := v) (by rw [eT]; exact Ar.1) (State.isArrayOf_alike hZ.alike Ar.2.1) Ar.2.2 (own_in hj q hk) (by rw [q, hj.2]; simpa using hv) (g := mkF m pc L (.int j :: .ref a :: st)) rfl rfl (hb hby d) t kk) k
theorem own_baload (X : own_St p l e R s m args below meth c Z n0 bs maxL own T h cells slots) {a : Addr} {vs : List Value} (V : own_AL Z h a .byte vs) {j : Int32} {i : Nat} {v : Value} (hj : own_idx j i) (hv : vs[i]? = some v) (d : own_ix bs pc .baload 1 pc') (k : own_Wins p e below A T (mkF m pc' L (v :: st))) : own_Wins p e below A T (mkF m pc L (.int j :: .ref a :: st)) := by
  obtain ⟨locs, Y, eT, N, hn, hx, hby, hml, hown, hZ, hlk⟩ := X
  obtain ⟨d, rfl⟩ := d
  obtain ⟨cl, Ar, q, r⟩ := V
  have hk : i < vs.length := (List.getElem?_eq_some_iff.mp hv).1
  exact own_by (fun t kk => Y.baloadBytes hx (j := j) (v := v) (by rw [eT]; exact Ar.1) (State.isArrayOf_alike hZ.alike Ar.2.1) Ar.2.2 (own_in hj q hk) (by rw [q, hj.2]; simpa using hv) (g := mkF m pc L (.int j :: .ref a :: st)) rfl rfl (hb hby d) t kk) k
theorem own_alen (X : own_St p l e R s m args below meth c Z n0 bs maxL own T h cells slots) {a : Addr} {ty : FieldType} {vs : List Value} (V : own_AL Z h a ty vs) (d : own_ix bs pc .arraylength 1 pc') (k : own_Wins p e below A T (mkF m pc' L (.int (Int32.ofNat vs.length) :: st))) : own_Wins p e below A T (mkF m pc L (.ref a :: st)) := by
  obtain ⟨locs, Y, eT, N, hn, hx, hby, hml, hown, hZ, hlk⟩ := X
  obtain ⟨d, rfl⟩ := d
  obtain ⟨cl, Ar, q, r⟩ := V
  exact own_by (fun t kk => Y.arraylength hx (by rw [eT]; exact Ar.1) (State.isArrayOf_alike hZ.alike Ar.2.1) (g := mkF m pc L (.ref a :: st)) rfl rfl (hb hby d) t (by rw [own_len q]; exact kk)) k
theorem own_iastore (X : own_St p l e R s m args below meth c Z n0 bs maxL own T h cells slots) {a : Addr} {vs : List Value} (V : own_AL Z h a .int vs) (ga : n0 ≤ a) {j : Int32} {x : Int32} {i : Nat} (hj : own_idx j i) (hk : i < vs.length) (d : own_ix bs pc .iastore 1 pc') (k : ∀ T' h', own_St p l e R s m args below meth c Z n0 bs maxL own T' h' cells slots → Wr h h' a i (.int x) → own_AL Z h' a .int (vs.set i (.int x)) → own_Wins p e below A T' (mkF m pc' L st)) : own_Wins p e below A T (mkF m pc L (.int x :: .int j :: .ref a :: st)) := by
  obtain ⟨locs, Y, eT, N, hn, hx, hby, hml, hown, hZ, hlk⟩ := X
  obtain ⟨d, rfl⟩ := d
  have V0 := V
  obtain ⟨cl, Ar, q, r⟩ := V
  obtain ⟨T', h', Y', e', W', st'⟩ := stI Y hx hZ eT Ar (j := j) (x := x) (own_in hj q hk) (g := mkF m pc L (.int x :: .int j :: .ref a :: st)) rfl rfl (hb hby d)
  have W2 : Wr h h' a i (.int x) := hj.2 ▸ W'
  exact own_by st' (k T' h' ⟨_, Y', e', Fr.snoc Y' N ga, W'.size ▸ hn, hx, hby, hml, hown, hZ, hlk⟩ W2 (V0.same W2))
theorem own_lastore (X : own_St p l e R s m args below meth c Z n0 bs maxL own T h cells slots) {a : Addr} {vs : List Value} (V : own_AL Z h a .long vs) (ga : n0 ≤ a) {j : Int32} {x : Int64} {i : Nat} (hj : own_idx j i) (hk : i < vs.length) (d : own_ix bs pc .lastore 1 pc') (k : ∀ T' h', own_St p l e R s m args below meth c Z n0 bs maxL own T' h' cells slots → Wr h h' a i (.long x) → own_AL Z h' a .long (vs.set i (.long x)) → own_Wins p e below A T' (mkF m pc' L st)) : own_Wins p e below A T (mkF m pc L (.long x :: .int j :: .ref a :: st)) := by
  obtain ⟨locs, Y, eT, N, hn, hx, hby, hml, hown, hZ, hlk⟩ := X
  obtain ⟨d, rfl⟩ := d
  have V0 := V
  obtain ⟨cl, Ar, q, r⟩ := V
  obtain ⟨T', h', Y', e', W', st'⟩ := stJ Y hx hZ eT Ar (j := j) (x := x) (own_in hj q hk) (g := mkF m pc L (.long x :: .int j :: .ref a :: st)) rfl rfl (hb hby d)
  have W2 : Wr h h' a i (.long x) := hj.2 ▸ W'
  exact own_by st' (k T' h' ⟨_, Y', e', Fr.snoc Y' N ga, W'.size ▸ hn, hx, hby, hml, hown, hZ, hlk⟩ W2 (V0.same W2))
theorem own_bastore (X : own_St p l e R s m args below meth c Z n0 bs maxL own T h cells slots) {a : Addr} {vs : List Value} (V : own_AL Z h a .byte vs) (ga : n0 ≤ a) {j : Int32} {x : Int32} {i : Nat} (hj : own_idx j i) (hk : i < vs.length) (d : own_ix bs pc .bastore 1 pc') (k : ∀ T' h', own_St p l e R s m args below meth c Z n0 bs maxL own T' h' cells slots → Wr h h' a i (.int x.toInt8.toInt32) → own_AL Z h' a .byte (vs.set i (.int x.toInt8.toInt32)) → own_Wins p e below A T' (mkF m pc' L st)) : own_Wins p e below A T (mkF m pc L (.int x :: .int j :: .ref a :: st)) := by
  obtain ⟨locs, Y, eT, N, hn, hx, hby, hml, hown, hZ, hlk⟩ := X
  obtain ⟨d, rfl⟩ := d
  have V0 := V
  obtain ⟨cl, Ar, q, r⟩ := V
  obtain ⟨T', h', Y', e', W', st'⟩ := stB Y hx hZ eT Ar (j := j) (x := x) (own_in hj q hk) (g := mkF m pc L (.int x :: .int j :: .ref a :: st)) rfl rfl (hb hby d)
  have W2 : Wr h h' a i (.int x.toInt8.toInt32) := hj.2 ▸ W'
  exact own_by st' (k T' h' ⟨_, Y', e', Fr.snoc Y' N ga, W'.size ▸ hn, hx, hby, hml, hown, hZ, hlk⟩ W2 (V0.same W2))
theorem own_newarr (X : own_St p l e R s m args below meth c Z n0 bs maxL own T h cells slots) {aty : ArrayType} (w : (Jvm.Cond.arrayClass (newarray.typeOf aty)).before a0 Z = true) (d : own_ix bs pc (.newarray aty) 2 pc') {z : Int32} {n : Nat} (hz : own_idx z n) (cap : Nat) (hcap : n ≤ cap) (hb1 : cap * 8 ≤ 536870912) (hc : cells + 1 ≤ R.cells) (hl : slots + cap ≤ R.slots)
    (k : ∀ T' h' a, own_St p l e R s m args below meth c Z n0 bs maxL own T' h' (cells + 1) (slots + cap) → Ext h h' → a = h.size → n0 ≤ a → own_AL Z h' a (newarray.typeOf aty) (List.replicate n (defaultValue (newarray.typeOf aty))) → own_Wins p e below A T' (mkF m pc' L (.ref a :: st))) : own_Wins p e below A T (mkF m pc L (.int z :: st)) := by
  obtain ⟨locs, Y, eT, N, hn, hx, hby, hml, hown, hZ, hlk⟩ := X
  obtain ⟨d, rfl⟩ := d
  obtain ⟨T', h', cA, Y', e', E', A', st'⟩ := newP Y hx hZ w eT (g := mkF m pc L (.int z :: st)) rfl (hb hby d) rfl hz.1 (cap := cap) (by rw [hz.2]; exact hcap) hb1 hc hl
  exact own_by st' (k T' h' _ ⟨_, Y', e', N, Nat.le_trans hn E'.1, hx, hby, hml, hown, hZ, hlk⟩ E' rfl hn (own_AL.new A' hz.2 (by omega)))
def own_up (g : Nat → Value) (k : Nat) (v : Value) : Nat → Value := fun j => if j = k then v else g j
theorem own_up_same (g : Nat → Value) (k : Nat) (v : Value) : own_up g k v k = v := if_pos rfl
theorem own_up_ne (g : Nat → Value) {k j : Nat} (v : Value) (h : j ≠ k) : own_up g k v j = g j := if_neg h
def own_AF (Z : State) (h : Heap) (a : Addr) (ty : FieldType) (n : Nat) (g : Nat → Value) : Prop := ∃ vs, own_AL Z h a ty vs ∧ vs.length = n ∧ ∀ j, j < n → vs[j]? = some (g j)
theorem own_AF.lt {a : Addr} {ty : FieldType} {n : Nat} {g : Nat → Value} (V : own_AF Z h a ty n g) : a < h.size := by obtain ⟨vs, V, -⟩ := V; exact V.lt
theorem own_AF.ext {a : Addr} {ty : FieldType} {n : Nat} {g : Nat → Value} (V : own_AF Z h a ty n g) (E : Ext h h') : own_AF Z h' a ty n g := by obtain ⟨vs, V, r⟩ := V; exact ⟨vs, V.ext E, r⟩
theorem own_AF.other {a b : Addr} {sl : Nat} {v : Value} {ty : FieldType} {n : Nat} {g : Nat → Value} (V : own_AF Z h b ty n g) (W : Wr h h' a sl v) (q : b ≠ a) : own_AF Z h' b ty n g := by obtain ⟨vs, V, r⟩ := V; exact ⟨vs, V.other W q, r⟩
theorem own_AF.keep {a : Addr} {ws : List Addr} {ty : FieldType} {n : Nat} {g : Nat → Value} (V : own_AF Z h a ty n g) (K : Keep h h' ws) (q : a ∉ ws) : own_AF Z h' a ty n g := by obtain ⟨vs, V, r⟩ := V; exact ⟨vs, V.keep K q, r⟩
theorem own_AF.same {a : Addr} {i : Nat} {v : Value} {ty : FieldType} {n : Nat} {g : Nat → Value} (V : own_AF Z h a ty n g) (W : Wr h h' a i v) : own_AF Z h' a ty n (own_up g i v) := by
  obtain ⟨vs, V, hn, hg⟩ := V
  refine ⟨_, V.same W, by simpa using hn, fun j hj => ?_⟩
  by_cases hij : j = i
  · subst hij; rw [own_up_same, List.getElem?_set_self (by omega)]
  · rw [own_up_ne _ _ hij, List.getElem?_set_ne (Ne.symm hij)]; exact hg j hj
theorem own_AF.len {a : Addr} {ty : FieldType} {n : Nat} {g : Nat → Value} (V : own_AF Z h a ty n g) : n < 2147483648 := by obtain ⟨vs, ⟨c, -, -, q⟩, hn, -⟩ := V; omega
theorem own_AL.fn {a : Addr} {ty : FieldType} {vs : List Value} (V : own_AL Z h a ty vs) (n : Nat) (hn : vs.length = n) (d : Value) : own_AF Z h a ty n (fun j => vs.getD j d) := ⟨vs, V, hn, fun j hj => by simp only [List.getD_eq_getElem?_getD]; rw [List.getElem?_eq_getElem (by omega)]; rfl⟩
theorem own_AF.to {a : Addr} {ty : FieldType} {n : Nat} {g g' : Nat → Value} (V : own_AF Z h a ty n g) (e : ∀ j, j < n → g j = g' j) : own_AF Z h a ty n g' := by obtain ⟨vs, V, hn, hg⟩ := V; exact ⟨vs, V, hn, fun j hj => by rw [hg j hj, e j hj]⟩
theorem own_ialoadF (X : own_St p l e R s m args below meth c Z n0 bs maxL own T h cells slots) {a : Addr} {n : Nat} {g : Nat → Value} (V : own_AF Z h a .int n g) {j : Int32} {i : Nat} {v : Value} (hj : own_idx j i) (hi : i < n) (hv : g i = v) (d : own_ix bs pc .iaload 1 pc') (k : own_Wins p e below A T (mkF m pc' L (v :: st))) : own_Wins p e below A T (mkF m pc L (.int j :: .ref a :: st)) := by
  obtain ⟨vs, V, hn, hg⟩ := V
  exact own_iaload X V hj (by rw [hg i hi, hv]) d k
theorem own_laloadF (X : own_St p l e R s m args below meth c Z n0 bs maxL own T h cells slots) {a : Addr} {n : Nat} {g : Nat → Value} (V : own_AF Z h a .long n g) {j : Int32} {i : Nat} {v : Value} (hj : own_idx j i) (hi : i < n) (hv : g i = v) (d : own_ix bs pc .laload 1 pc') (k : own_Wins p e below A T (mkF m pc' L (v :: st))) : own_Wins p e below A T (mkF m pc L (.int j :: .ref a :: st)) := by
  obtain ⟨vs, V, hn, hg⟩ := V
  exact own_laload X V hj (by rw [hg i hi, hv]) d k
theorem own_baloadF (X : own_St p l e R s m args below meth c Z n0 bs maxL own T h cells slots) {a : Addr} {n : Nat} {g : Nat → Value} (V : own_AF Z h a .byte n g) {j : Int32} {i : Nat} {v : Value} (hj : own_idx j i) (hi : i < n) (hv : g i = v) (d : own_ix bs pc .baload 1 pc') (k : own_Wins p e below A T (mkF m pc' L (v :: st))) : own_Wins p e below A T (mkF m pc L (.int j :: .ref a :: st)) := by
  obtain ⟨vs, V, hn, hg⟩ := V
  exact own_baload X V hj (by rw [hg i hi, hv]) d k
theorem own_alenF (X : own_St p l e R s m args below meth c Z n0 bs maxL own T h cells slots) {a : Addr} {ty : FieldType} {n : Nat} {g : Nat → Value} (V : own_AF Z h a ty n g) (d : own_ix bs pc .arraylength 1 pc') (k : own_Wins p e below A T (mkF m pc' L (.int (Int32.ofNat n) :: st))) : own_Wins p e below A T (mkF m pc L (.ref a :: st)) := by
  obtain ⟨vs, V, rfl, hg⟩ := V
  exact own_alen X V d k
theorem own_iastoreF (X : own_St p l e R s m args below meth c Z n0 bs maxL own T h cells slots) {a : Addr} {n : Nat} {g : Nat → Value} (V : own_AF Z h a .int n g) (ga : n0 ≤ a) {j : Int32} {x : Int32} {i : Nat} (hj : own_idx j i) (hi : i < n) (d : own_ix bs pc .iastore 1 pc') (k : ∀ T' h', own_St p l e R s m args below meth c Z n0 bs maxL own T' h' cells slots → Wr h h' a i (.int x) → own_AF Z h' a .int n (own_up g i (.int x)) → own_Wins p e below A T' (mkF m pc' L st)) : own_Wins p e below A T (mkF m pc L (.int x :: .int j :: .ref a :: st)) := by
  have V0 := V
  obtain ⟨vs, V, hn, hg⟩ := V
  exact own_iastore X V ga hj (by omega) d (fun T' h' X' W' _ => k T' h' X' W' (V0.same W'))
theorem own_lastoreF (X : own_St p l e R s m args below meth c Z n0 bs maxL own T h cells slots) {a : Addr} {n : Nat} {g : Nat → Value} (V : own_AF Z h a .long n g) (ga : n0 ≤ a) {j : Int32} {x : Int64} {i : Nat} (hj : own_idx j i) (hi : i < n) (d : own_ix bs pc .lastore 1 pc') (k : ∀ T' h', own_St p l e R s m args below meth c Z n0 bs maxL own T' h' cells slots → Wr h h' a i (.long x) → own_AF Z h' a .long n (own_up g i (.long x)) → own_Wins p e below A T' (mkF m pc' L st)) : own_Wins p e below A T (mkF m pc L (.long x :: .int j :: .ref a :: st)) := by
  have V0 := V
  obtain ⟨vs, V, hn, hg⟩ := V
  exact own_lastore X V ga hj (by omega) d (fun T' h' X' W' _ => k T' h' X' W' (V0.same W'))
theorem own_bastoreF (X : own_St p l e R s m args below meth c Z n0 bs maxL own T h cells slots) {a : Addr} {n : Nat} {g : Nat → Value} (V : own_AF Z h a .byte n g) (ga : n0 ≤ a) {j : Int32} {x : Int32} {i : Nat} (hj : own_idx j i) (hi : i < n) (d : own_ix bs pc .bastore 1 pc') (k : ∀ T' h', own_St p l e R s m args below meth c Z n0 bs maxL own T' h' cells slots → Wr h h' a i (.int x.toInt8.toInt32) → own_AF Z h' a .byte n (own_up g i (.int x.toInt8.toInt32)) → own_Wins p e below A T' (mkF m pc' L st)) : own_Wins p e below A T (mkF m pc L (.int x :: .int j :: .ref a :: st)) := by
  have V0 := V
  obtain ⟨vs, V, hn, hg⟩ := V
  exact own_bastore X V ga hj (by omega) d (fun T' h' X' W' _ => k T' h' X' W' (V0.same W'))
/-- an object of a class with these fields (names and descriptors), holding these values -/
def own_Obj (Z : State) (h : Heap) (a : Addr) (C : String) (ns : List (String × String)) (vs : List Value) : Prop := Exa Z h a C ∧ ns.length = vs.length ∧ ∀ (i : Nat) (n d : String) (v : Value), ns[i]? = some (n, d) → vs[i]? = some v → Fld Z h a C n d v
theorem own_Obj.lt {a : Addr} {C : String} {ns : List (String × String)} {vs : List Value} (O : own_Obj Z h a C ns vs) : a < h.size := O.1.lt
theorem own_Obj.ext {a : Addr} {C : String} {ns : List (String × String)} {vs : List Value} (O : own_Obj Z h a C ns vs) (E : Ext h h') : own_Obj Z h' a C ns vs := ⟨O.1.ext E, O.2.1, fun i n d v h1 h2 => (O.2.2 i n d v h1 h2).ext E⟩
theorem own_Obj.other {a b : Addr} {sl : Nat} {w : Value} {C : String} {ns : List (String × String)} {vs : List Value} (O : own_Obj Z h b C ns vs) (W : Wr h h' a sl w) (q : b ≠ a) : own_Obj Z h' b C ns vs := ⟨O.1.wr W, O.2.1, fun i n d v h1 h2 => (O.2.2 i n d v h1 h2).other W (Or.inl q)⟩
theorem own_Obj.keep {a : Addr} {ws : List Addr} {C : String} {ns : List (String × String)} {vs : List Value} (O : own_Obj Z h a C ns vs) (K : Keep h h' ws) (q : a ∉ ws) : own_Obj Z h' a C ns vs := ⟨O.1.keep K, O.2.1, fun i n d v h1 h2 => (O.2.2 i n d v h1 h2).keep K q⟩
def own_Laid (Z : State) (a0 : Array Value) (C : String) (ns : List (String × String)) : Prop := (∀ q ∈ ns, Laid Z a0 C C q.1 q.2 ∧ ∃ t, parseFieldDescriptor q.2 = some t) ∧ (ns.map (·.1)).Nodup
theorem own_Obj.put {a : Addr} {C n d : String} {ns : List (String × String)} {vs : List Value} {i : Nat} {v : Value} (O : own_Obj Z h a C ns vs) (La : own_Laid Z a0 C ns) (hi : ns[i]? = some (n, d)) (W : Wr h h' a (Jvm.RoadKit.slotOf Z C n d) v) : own_Obj Z h' a C ns (vs.set i v) := by
  refine ⟨O.1.wr W, by simpa using O.2.1, fun j n' d' v' h1 h2 => ?_⟩
  by_cases hij : i = j
  · subst hij
    rw [hi] at h1
    obtain ⟨rfl, rfl⟩ : n = n' ∧ d = d' := by simpa using h1
    have hlt : i < vs.length := by rw [← O.2.1]; exact (List.getElem?_eq_some_iff.mp hi).1
    rw [List.getElem?_set_self hlt] at h2
    cases h2
    exact (O.2.2 i n d vs[i] hi (List.getElem?_eq_getElem hlt)).same W
  · rw [List.getElem?_set_ne hij] at h2
    refine (O.2.2 j n' d' v' h1 h2).other W (Or.inr ?_)
    obtain ⟨L1, t1, e1⟩ := La.1 _ (List.mem_of_getElem? hi)
    obtain ⟨L2, t2, e2⟩ := La.1 _ (List.mem_of_getElem? h1)
    refine slot_ne L2 L1 ?_ e2 e1
    intro hnn
    obtain ⟨li, ei⟩ := List.getElem?_eq_some_iff.mp hi
    obtain ⟨lj, ej⟩ := List.getElem?_eq_some_iff.mp h1
    have hp := List.pairwise_iff_getElem.mp La.2
    rcases Nat.lt_or_gt_of_ne hij with hlt | hlt
    · exact hp i j (by simpa using li) (by simpa using lj) hlt (by simp [ei, ej, hnn])
    · exact hp j i (by simpa using lj) (by simpa using li) hlt (by simp [ei, ej, hnn])
theorem own_getF (X : own_St p l e R s m args below meth c Z n0 bs maxL own T h cells slots) {i k : Nat} {a : Addr} {C n dd host : String} {ns : List (String × String)} {vs : List Value} {v : Value} (w : (Jvm.Cond.fieldLink own i C n dd).before a0 Z = true) (O : own_Obj Z h a C ns vs) (hi : ns[k]? = some (n, dd)) (hv : vs[k]? = some v) (d : own_ix bs pc (.getfield i) 3 pc')
    (kk : ∀ T', own_St p l e R s m args below meth c Z n0 bs maxL own T' h cells slots → own_Wins p e below A T' (mkF m pc' L (v :: st))) : own_Wins p e below A T (mkF m pc L (.ref a :: st)) := by
  obtain ⟨locs, Y, eT, N, hn, hx, hby, hml, hown, hZ, hlk⟩ := X
  obtain ⟨d, rfl⟩ := d
  obtain ⟨T', Y', e', st'⟩ := getF Y hx hZ hown (host := "") (Or.inl w) Via.refl eT (O.2.2 k n dd v hi hv) (g := mkF m pc L (.ref a :: st)) rfl rfl (hb hby d)
  exact own_by st' (kk T' ⟨_, Y', e', N, hn, hx, hby, hml, hown, hZ, hlk⟩)
theorem own_putF (X : own_St p l e R s m args below meth c Z n0 bs maxL own T h cells slots) {i k kc : Nat} {a : Addr} {C n dd : String} {ns : List (String × String)} {vs : List Value} {v v' : Value} {ty : FieldType} (w : (Jvm.Cond.fieldLink own i C n dd).before a0 Z = true) (O : own_Obj Z h a C ns vs) (La : own_Laid Z a0 C ns) (hi : ns[k]? = some (n, dd))
    (Ly : (Jvm.Cond.lays C C n dd).before a0 Z = true ∨ ((Jvm.Cond.laysFinal C C n dd).before a0 Z = true ∧ own = C ∧ meth.name = "<init>")) (wi : (Jvm.Cond.instantiable C kc).before a0 Z = true) (hty : parseFieldDescriptor dd = some ty) (hnr : narrow ty v = v') (hf : fits ty v' = true) (ga : n0 ≤ a) (d : own_ix bs pc (.putfield i) 3 pc')
    (kk : ∀ T' h', own_St p l e R s m args below meth c Z n0 bs maxL own T' h' cells slots → Wr h h' a (Jvm.RoadKit.slotOf Z C n dd) v' → own_Obj Z h' a C ns (vs.set k v') → own_Wins p e below A T' (mkF m pc' L st)) : own_Wins p e below A T (mkF m pc L (v :: .ref a :: st)) := by
  obtain ⟨locs, Y, eT, N, hn, hx, hby, hml, hown, hZ, hlk⟩ := X
  obtain ⟨d, rfl⟩ := d
  have hlt : k < vs.length := by rw [← O.2.1]; exact (List.getElem?_eq_some_iff.mp hi).1
  obtain ⟨T', h', Y', e', W', st'⟩ := putFN Y hx hZ hown w Via.refl eT (O.2.2 k n dd vs[k] hi (List.getElem?_eq_getElem hlt)) O.1 Ly wi hty hnr hf (g := mkF m pc L (v :: .ref a :: st)) rfl rfl (hb hby d)
  exact own_by st' (kk T' h' ⟨_, Y', e', Fr.snoc Y' N ga, W'.size ▸ hn, hx, hby, hml, hown, hZ, hlk⟩ W' (O.put La hi W'))
theorem own_new (X : own_St p l e R s m args below meth c Z n0 bs maxL own T h cells slots) {i nn : Nat} {C : String} {ns : List (String × String)} (w1 : (Jvm.Cond.classLink own i C).before a0 Z = true) (w2 : (Jvm.Cond.instantiable C nn).before a0 Z = true) (w3 : (Jvm.Cond.initialized C).before a0 Z = true) (La : own_Laid Z a0 C ns) (vs : List Value) (hvs : vs = ns.map fun q => match parseFieldDescriptor q.2 with | some t => defaultValue t | none => .null) (d : own_ix bs pc (.new i) 3 pc') (hc : cells + 1 ≤ R.cells) (hl : slots + nn ≤ R.slots)
    (kk : ∀ T' h' a, own_St p l e R s m args below meth c Z n0 bs maxL own T' h' (cells + 1) (slots + nn) → Ext h h' → a = h.size → n0 ≤ a → own_Obj Z h' a C ns vs → own_Wins p e below A T' (mkF m pc' L (.ref a :: st))) : own_Wins p e below A T (mkF m pc L st) := by
  obtain ⟨locs, Y, eT, N, hn, hx, hby, hml, hown, hZ, hlk⟩ := X
  obtain ⟨d, rfl⟩ := d
  obtain ⟨T', h', Y', e', E', A', D', -, st'⟩ := newO Y hx hZ hown w1 w2 w3 eT (g := mkF m pc L st) rfl (hb hby d) hc hl
  refine own_by st' (kk T' h' _ ⟨_, Y', e', N, Nat.le_trans hn E'.1, hx, hby, hml, hown, hZ, hlk⟩ E' rfl hn ⟨A', by simp [hvs], fun j n dd v h1 h2 => ?_⟩)
  obtain ⟨Lq, t, et⟩ := La.1 _ (List.mem_of_getElem? h1)
  rw [hvs, List.getElem?_map, h1] at h2
  simp only [Option.map_some, et, Option.some.injEq] at h2
  subst h2
  exact D' Lq et
theorem own_initO (X : own_St p l e R s m args below meth c Z n0 bs maxL own T h cells slots) {i : Nat} {a : Addr} (w1 : (Jvm.Cond.methodLink own i Lib.objectInit).before a0 Z = true) (w2 : (Jvm.Cond.instanceMethod Lib.objectInit).before a0 Z = true) (w3 : (Jvm.Cond.code Lib.objectInit ⟨#[0xb1]⟩ 1 none).before a0 Z = true) (d : own_ix bs pc (.invokespecial i) 3 pc') (hsz : L.size = maxL) (hf : 1 ≤ R.frames) (Wt : Nat) (hW : 2 * 0 + (st.map fun v => v.category).sum ≤ Wt) (hl : Wt + 12 ≤ R.locals)
    (kk : ∀ T', own_St p l e R s m args below meth c Z n0 bs maxL own T' h cells slots → own_Wins p e below A T' (mkF m pc' L st)) : own_Wins p e below A T (mkF m pc L (.ref a :: st)) := by
  obtain ⟨locs, Y, eT, N, hn, hx, hby, hml, hown, hZ, hlk⟩ := X
  obtain ⟨d, rfl⟩ := d
  obtain ⟨T', Y', e', st'⟩ := initO Y hx hZ hown w1 w2 w3 eT (g := mkF m pc L (.ref a :: st)) rfl (by rw [hml]; exact hsz) rfl (hb hby d) hf (W := Wt) hW hl
  exact own_by st' (kk T' ⟨_, Y', e', N, hn, hx, hby, hml, hown, hZ, hlk⟩)
/-- what a body does, called with these arguments over this heap: it returns v and leaves a heap with P v h' -/
def own_Con (l : Launch) (Z : State) (n0 : Nat) (y : MethodName) (bs : ByteArray) (maxL : Nat) (ret : Option FieldType) (rm : Room) (ws : List Jvm.Cond) (av : Array Value) (h0 : Heap) (P : Option Value → Heap → Prop) : Prop :=
  MetFree l y (head1 (Jvm.Cond.code y bs maxL ret :: ws) rm) (fun a U => a = av ∧ Z.Warmed39 U.vm ∧ U.heap = h0) (fun _ _ _ _ _ => True) (fun _ U o U' => ∃ v L, o = .returned v ∧ (Fr n0 L ∧ n0 ≤ U'.heap.size ∧ P v U'.heap) ∧ FrameEnd U o U' L rm.cells rm.slots)
def own_G (s : State) (below : List Frame) (n0 : Nat) (rm : Room) (P : Option Value → Heap → Prop) (U : State) (o : Outcome) : Prop :=
  U.status = .running ∧ Ended U below o ∧ ∃ v L, o = .returned v ∧ (Fr n0 L ∧ n0 ≤ U.heap.size ∧ P v U.heap) ∧ FrameEnd s o U L rm.cells rm.slots
theorem own_enter {l : Launch} {Z : State} {n0 : Nat} {y : MethodName} {bs : ByteArray} {maxL : Nat} {ret : Option FieldType} {rm : Room} {ws : List Jvm.Cond} {av : Array Value} {h0 : Heap} {P : Option Value → Heap → Prop} (hpl : plainFor y = true) (Z0 : n0 ≤ h0.size) (L0 : Array Slot) (ef : ∀ m, entryFrame m av maxL = mkF m 0 L0 [])
    (body : ∀ (p : Program) (e : Env) (s : State) (m : MethodId) (below : List Frame) (meth : Method) (c : Code) (T : State) (A : State → Outcome → Prop), own_St p l e rm s m av below meth c Z n0 bs maxL y.cls T h0 0 0 → meth.sig.returnType = ret → meth.name = y.name → (∀ U o, own_G s below n0 rm P U o → A U o) → own_Wins p e below A T (mkF m 0 L0 [])) :
    own_Con l Z n0 y bs maxL ret rm ws av h0 P := by
  refine MetFree.of_bodySF hpl hisR ?_
  intro p e s m args below meth c s₁ Bd hml0 hP hK
  obtain ⟨rfl, hZ, hh⟩ := hP
  have hnm := (name_of_methodNamed Bd.named Bd.method).1
  have X0 : own_St p l e rm s m _ below meth c Z n0 bs maxL y.cls s₁ h0 0 0 := ⟨[], Stand.of_body Bd, by rw [← hh, Bd.state]; rfl, Fr.nil n0, Z0, Bd.exec, Bd.bytes, hml0, findClass_of_methodNamed Bd.named, hZ, BodyLoose.notSynchronized Bd⟩
  obtain ⟨U, o, h1, h2⟩ := body p e s m below meth c s₁ (own_G s below n0 rm P) X0 Bd.returns hnm (fun _ _ g => g)
  exact ⟨U, o, castTop (ef m) h1, h2⟩
theorem own_ret0 (X : own_St p l e R s m args below meth c Z n0 bs maxL own T h cells slots) (hret : meth.sig.returnType = none) {P : Option Value → Heap → Prop} (fin : ∀ U o, own_G s below n0 R P U o → A U o) (hc : cells ≤ R.cells) (hs : slots ≤ R.slots) (hP : P none h) (d : own_ix bs pc .return_ 1 pc') : own_Wins p e below A T (mkF m pc L []) := by
  obtain ⟨locs, Y, eT, N, hn, hx, hby, hml, hown, hZ, hlk⟩ := X
  obtain ⟨fs, hr, hrun, hended, hW, hsame⟩ := Y.leave (v := none) (fun _ => rfl) hlk
  have eF : (T.setFrames fs).heap = h := eT
  exact ⟨_, _, Y.returnOut hx hret (hb hby d.1) hr, fin _ _ ⟨hrun, hended, _, _, rfl, ⟨N, by rw [eF]; exact hn, by rw [eF]; exact hP⟩, ⟨_, rfl⟩, hW, hsame.mono hc hs⟩⟩
theorem own_retJ (X : own_St p l e R s m args below meth c Z n0 bs maxL own T h cells slots) {z : Int64} (hret : meth.sig.returnType = some .long) {P : Option Value → Heap → Prop} (fin : ∀ U o, own_G s below n0 R P U o → A U o) (hc : cells ≤ R.cells) (hs : slots ≤ R.slots) (hP : P (some (.long z)) h) (d : own_ix bs pc .lreturn 1 pc') : own_Wins p e below A T (mkF m pc L (.long z :: st)) := by
  obtain ⟨locs, Y, eT, N, hn, hx, hby, hml, hown, hZ, hlk⟩ := X
  obtain ⟨fs, hr, hrun, hended, hW, hsame⟩ := Y.leave (v := (some (.long z))) (fun q => by rw [hret] at q; cases q) hlk
  have eF : (T.setFrames fs).heap = h := eT
  exact ⟨_, _, retOut Y hx hret rfl (Or.inr (Or.inl ⟨rfl, rfl, z, rfl⟩)) (hb hby d.1) hr, fin _ _ ⟨hrun, hended, _, _, rfl, ⟨N, by rw [eF]; exact hn, by rw [eF]; exact hP⟩, ⟨_, rfl⟩, hW, hsame.mono hc hs⟩⟩
theorem own_retI (X : own_St p l e R s m args below meth c Z n0 bs maxL own T h cells slots) {z : Int32} (hret : meth.sig.returnType = some .int) {P : Option Value → Heap → Prop} (fin : ∀ U o, own_G s below n0 R P U o → A U o) (hc : cells ≤ R.cells) (hs : slots ≤ R.slots) (hP : P (some (.int z)) h) (d : own_ix bs pc .ireturn 1 pc') : own_Wins p e below A T (mkF m pc L (.int z :: st)) := by
  obtain ⟨locs, Y, eT, N, hn, hx, hby, hml, hown, hZ, hlk⟩ := X
  obtain ⟨fs, hr, hrun, hended, hW, hsame⟩ := Y.leave (v := (some (.int z))) (fun q => by rw [hret] at q; cases q) hlk
  have eF : (T.setFrames fs).heap = h := eT
  exact ⟨_, _, retOut Y hx hret rfl (Or.inl ⟨rfl, Or.inl rfl, z, rfl⟩) (hb hby d.1) hr, fin _ _ ⟨hrun, hended, _, _, rfl, ⟨N, by rw [eF]; exact hn, by rw [eF]; exact hP⟩, ⟨_, rfl⟩, hW, hsame.mono hc hs⟩⟩
theorem own_retZ (X : own_St p l e R s m args below meth c Z n0 bs maxL own T h cells slots) {z : Int32} (hret : meth.sig.returnType = some .boolean) (hz : narrow .boolean (.int z) = .int z) {P : Option Value → Heap → Prop} (fin : ∀ U o, own_G s below n0 R P U o → A U o) (hc : cells ≤ R.cells) (hs : slots ≤ R.slots) (hP : P (some (.int z)) h) (d : own_ix bs pc .ireturn 1 pc') : own_Wins p e below A T (mkF m pc L (.int z :: st)) := by
  obtain ⟨locs, Y, eT, N, hn, hx, hby, hml, hown, hZ, hlk⟩ := X
  obtain ⟨fs, hr, hrun, hended, hW, hsame⟩ := Y.leave (v := (some (.int z))) (fun q => by rw [hret] at q; cases q) hlk
  have eF : (T.setFrames fs).heap = h := eT
  exact ⟨_, _, retOut Y hx hret hz (Or.inl ⟨rfl, Or.inr (Or.inl rfl), z, rfl⟩) (hb hby d.1) hr, fin _ _ ⟨hrun, hended, _, _, rfl, ⟨N, by rw [eF]; exact hn, by rw [eF]; exact hP⟩, ⟨_, rfl⟩, hW, hsame.mono hc hs⟩⟩
theorem own_retB (X : own_St p l e R s m args below meth c Z n0 bs maxL own T h cells slots) {z : Int32} (hret : meth.sig.returnType = some .byte) (hz : narrow .byte (.int z) = .int z) {P : Option Value → Heap → Prop} (fin : ∀ U o, own_G s below n0 R P U o → A U o) (hc : cells ≤ R.cells) (hs : slots ≤ R.slots) (hP : P (some (.int z)) h) (d : own_ix bs pc .ireturn 1 pc') : own_Wins p e below A T (mkF m pc L (.int z :: st)) := by
  obtain ⟨locs, Y, eT, N, hn, hx, hby, hml, hown, hZ, hlk⟩ := X
  obtain ⟨fs, hr, hrun, hended, hW, hsame⟩ := Y.leave (v := (some (.int z))) (fun q => by rw [hret] at q; cases q) hlk
  have eF : (T.setFrames fs).heap = h := eT
  exact ⟨_, _, retOut Y hx hret hz (Or.inl ⟨rfl, Or.inr (Or.inr (Or.inl rfl)), z, rfl⟩) (hb hby d.1) hr, fin _ _ ⟨hrun, hended, _, _, rfl, ⟨N, by rw [eF]; exact hn, by rw [eF]; exact hP⟩, ⟨_, rfl⟩, hW, hsame.mono hc hs⟩⟩
theorem own_retA (X : own_St p l e R s m args below meth c Z n0 bs maxL own T h cells slots) {z : Addr} {t : FieldType} (hret : meth.sig.returnType = some t) (ht : t.isReference = true) (hn' : narrow t (.ref z) = .ref z) {P : Option Value → Heap → Prop} (fin : ∀ U o, own_G s below n0 R P U o → A U o) (hc : cells ≤ R.cells) (hs : slots ≤ R.slots) (hP : P (some (.ref z)) h) (d : own_ix bs pc .areturn 1 pc') : own_Wins p e below A T (mkF m pc L (.ref z :: st)) := by
  obtain ⟨locs, Y, eT, N, hn, hx, hby, hml, hown, hZ, hlk⟩ := X
  obtain ⟨fs, hr, hrun, hended, hW, hsame⟩ := Y.leave (v := (some (.ref z))) (fun q => by rw [hret] at q; cases q) hlk
  have eF : (T.setFrames fs).heap = h := eT
  exact ⟨_, _, retOut Y hx hret hn' (Or.inr (Or.inr (Or.inr (Or.inr ⟨rfl, ht, rfl⟩)))) (hb hby d.1) hr, fin _ _ ⟨hrun, hended, _, _, rfl, ⟨N, by rw [eF]; exact hn, by rw [eF]; exact hP⟩, ⟨_, rfl⟩, hW, hsame.mono hc hs⟩⟩
theorem own_callS (X : own_St p l e R s m args below meth c Z n0 bs maxL own T h cells slots) {y : MethodName} {bs' : ByteArray} {maxL' : Nat} {ret' : Option FieldType} {rm : Room} {P : Option Value → Heap → Prop} {i : Nat} (argsL rest : List Value) {ps : List FieldType} {r : Option FieldType} (Wt : Nat) (hstk : st = argsL.reverse ++ rest) (w1 : (Jvm.Cond.methodLink own i y).before a0 Z = true) (w2 : (Jvm.Cond.static y).before a0 Z = true) (w3 : (Jvm.Cond.initialized y.cls).before a0 Z = true) (w4 : (Jvm.Cond.code y bs' maxL' ret').before a0 Z = true) (hy : y.cls ≠ "java/lang/invoke/MethodHandle" ∧ y.cls ≠ "java/lang/invoke/VarHandle")
    (C : own_Con l Z n0 y bs' maxL' ret' rm [] argsL.toArray h P) (d : own_ix bs pc (.invokestatic i) 3 pc') (hlen : parseMethodDescriptor y.desc = some ⟨ps, r⟩) (hl2 : argsL.length = ps.length) (hsz : L.size = maxL) (hW : 2 * 0 + (rest.map fun v => v.category).sum ≤ Wt) (hf : rm.frames + 1 ≤ R.frames) (hl : Wt + (maxL' + 11) + rm.locals ≤ R.locals) (hc : cells + rm.cells ≤ R.cells) (hs : slots + rm.slots ≤ R.slots)
    (kk : ∀ T' h' v, own_St p l e R s m args below meth c Z n0 bs maxL own T' h' (cells + rm.cells) (slots + rm.slots) → P v h' → own_Wins p e below A T' (mkF m pc' L (v.toList ++ rest))) : own_Wins p e below A T (mkF m pc L st) := by
  obtain ⟨locs, Y, eT, N, hn, hx, hby, hml, hown, hZ, hlk⟩ := X
  obtain ⟨d, rfl⟩ := d
  obtain ⟨v, _, ⟨T1, L1, k1, n1⟩, -, X1, ⟨Lc, hQ, l1, y1, z1⟩, st1⟩ := Jvm.LawKit.callS Y hx (y := y) hown (mvT hZ w1) (mvT hZ w2) (mvT hZ w3) (mvT hZ w4) hy (backOf (W := Wt) (bytes := bs') (maxL := maxL') (rm := rm) (Q := fun v h' L => Fr n0 L ∧ n0 ≤ h'.size ∧ P v h') C hZ w4 w3 hf hl) (g := mkF m pc L st) rfl (by rw [hml]; exact hsz) (argsL := argsL) (rest := rest) (lenOf hlen hl2) hstk hW (hb hby d) (fun _ _ => ⟨rfl, eT, hc, hs⟩)
  dsimp only [Pt.U, Pt.locs, Pt.cells, Pt.slots] at X1 l1 y1 z1 st1 hQ
  subst l1 y1 z1
  obtain ⟨N1, n1, hP⟩ := hQ
  exact own_by st1 (kk T1 _ v ⟨_, X1, rfl, Fr.app N N1, n1, hx, hby, hml, hown, hZ, hlk⟩ hP)
theorem own_callI (X : own_St p l e R s m args below meth c Z n0 bs maxL own T h cells slots) {y : MethodName} {bs' : ByteArray} {maxL' : Nat} {rm : Room} {P : Option Value → Heap → Prop} {i : Nat} (argsL rest : List Value) {ps : List FieldType} {r : Option FieldType} (Wt : Nat) {a : Addr} (hstk : st = argsL.reverse ++ .ref a :: rest) (hy1 : y.name = "<init>") (w1 : (Jvm.Cond.methodLink own i y).before a0 Z = true) (w2 : (Jvm.Cond.instanceMethod y).before a0 Z = true) (w3 : (Jvm.Cond.initialized y.cls).before a0 Z = true) (w4 : (Jvm.Cond.code y bs' maxL' none).before a0 Z = true) (hy : y.cls ≠ "java/lang/invoke/MethodHandle" ∧ y.cls ≠ "java/lang/invoke/VarHandle")
    (C : own_Con l Z n0 y bs' maxL' none rm [] (.ref a :: argsL).toArray h P) (d : own_ix bs pc (.invokespecial i) 3 pc') (hlen : parseMethodDescriptor y.desc = some ⟨ps, r⟩) (hl2 : argsL.length = ps.length) (hsz : L.size = maxL) (hW : 2 * 0 + (rest.map fun v => v.category).sum ≤ Wt) (hf : rm.frames + 1 ≤ R.frames) (hl : Wt + (maxL' + 11) + rm.locals ≤ R.locals) (hc : cells + rm.cells ≤ R.cells) (hs : slots + rm.slots ≤ R.slots)
    (kk : ∀ T' h' v, own_St p l e R s m args below meth c Z n0 bs maxL own T' h' (cells + rm.cells) (slots + rm.slots) → P v h' → own_Wins p e below A T' (mkF m pc' L (v.toList ++ rest))) : own_Wins p e below A T (mkF m pc L st) := by
  obtain ⟨locs, Y, eT, N, hn, hx, hby, hml, hown, hZ, hlk⟩ := X
  obtain ⟨d, rfl⟩ := d
  obtain ⟨v, _, ⟨T1, L1, k1, n1⟩, -, X1, ⟨Lc, hQ, l1, y1, z1⟩, st1⟩ := Y.specialBack hx (y := y) hy1 hown (mvT hZ w1) (mvT hZ w2) (mvT hZ w4) hy (backOf (W := Wt) (bytes := bs') (maxL := maxL') (rm := rm) (Q := fun v h' L => Fr n0 L ∧ n0 ≤ h'.size ∧ P v h') C hZ w4 w3 hf hl) (g := mkF m pc L st) rfl (by rw [hml]; exact hsz) (Steps.refl _) (a := a) (argsL := argsL) (rest := rest) (lenOf hlen hl2) hstk hW (hb hby d) (fun _ _ => ⟨rfl, eT, hc, hs⟩)
  dsimp only [Pt.U, Pt.locs, Pt.cells, Pt.slots] at X1 l1 y1 z1 st1 hQ
  subst l1 y1 z1
  obtain ⟨N1, n1, hP⟩ := hQ
  exact own_by (fun _ q => st1.trans q) (kk T1 _ v ⟨_, X1, rfl, Fr.app N N1, n1, hx, hby, hml, hown, hZ, hlk⟩ hP)
theorem own_callV (X : own_St p l e R s m args below meth c Z n0 bs maxL own T h cells slots) {y : MethodName} {bs' : ByteArray} {maxL' : Nat} {ret' : Option FieldType} {rm : Room} {P : Option Value → Heap → Prop} {i : Nat} (argsL rest : List Value) {ps : List FieldType} {r : Option FieldType} (Wt : Nat) {a : Addr} (hstk : st = argsL.reverse ++ .ref a :: rest) (w1 : (Jvm.Cond.methodLink own i y).before a0 Z = true) (w2 : (Jvm.Cond.declares y).before a0 Z = true) (w5 : (Jvm.Cond.selects y.cls y y).before a0 Z = true) (w6 : (Jvm.Cond.instanceMethod y).before a0 Z = true) (w3 : (Jvm.Cond.initialized y.cls).before a0 Z = true) (w4 : (Jvm.Cond.code y bs' maxL' ret').before a0 Z = true) (hy : y.cls ≠ "java/lang/invoke/MethodHandle" ∧ y.cls ≠ "java/lang/invoke/VarHandle") (E : Exa Z h a y.cls)
    (C : own_Con l Z n0 y bs' maxL' ret' rm [] (.ref a :: argsL).toArray h P) (d : own_ix bs pc (.invokevirtual i) 3 pc') (hlen : parseMethodDescriptor y.desc = some ⟨ps, r⟩) (hl2 : argsL.length = ps.length) (hsz : L.size = maxL) (hW : 2 * 0 + (rest.map fun v => v.category).sum ≤ Wt) (hf : rm.frames + 1 ≤ R.frames) (hl : Wt + (maxL' + 11) + rm.locals ≤ R.locals) (hc : cells + rm.cells ≤ R.cells) (hs : slots + rm.slots ≤ R.slots)
    (kk : ∀ T' h' v, own_St p l e R s m args below meth c Z n0 bs maxL own T' h' (cells + rm.cells) (slots + rm.slots) → P v h' → own_Wins p e below A T' (mkF m pc' L (v.toList ++ rest))) : own_Wins p e below A T (mkF m pc L st) := by
  obtain ⟨locs, Y, eT, N, hn, hx, hby, hml, hown, hZ, hlk⟩ := X
  obtain ⟨d, rfl⟩ := d
  obtain ⟨cq, kq, qa, qb, qc⟩ := isOf hZ eT E
  obtain ⟨v, _, ⟨T1, L1, k1, n1⟩, -, X1, ⟨Lc, hQ, l1, y1, z1⟩, st1⟩ := Y.virtualBack hx (y := y) (z := y) hown (mvT hZ w1) (mvT hZ w2) (notFace_of_selects (args := #[]) (mvT hZ w5)) (mvT hZ w5) (mvT hZ w6) hy (backOf (W := Wt) (bytes := bs') (maxL := maxL') (rm := rm) (Q := fun v h' L => Fr n0 L ∧ n0 ≤ h'.size ∧ P v h') C hZ w4 w3 hf hl) qa qc (g := mkF m pc L st) rfl (by rw [hml]; exact hsz) (Steps.refl _) (argsL := argsL) (rest := rest) (lenOf hlen hl2) hstk hW (hb hby d) (fun _ _ => ⟨rfl, eT, hc, hs⟩)
  dsimp only [Pt.U, Pt.locs, Pt.cells, Pt.slots] at X1 l1 y1 z1 st1 hQ
  subst l1 y1 z1
  obtain ⟨N1, n1, hP⟩ := hQ
  exact own_by (fun _ q => st1.trans q) (kk T1 _ v ⟨_, X1, rfl, Fr.app N N1, n1, hx, hby, hml, hown, hZ, hlk⟩ hP)
theorem own_callP (X : own_St p l e R s m args below meth c Z n0 bs maxL own T h cells slots) {y : MethodName} {bs' : ByteArray} {maxL' : Nat} {ret' : Option FieldType} {rm : Room} {P : Option Value → Heap → Prop} {i : Nat} (argsL rest : List Value) {ps : List FieldType} {r : Option FieldType} (Wt : Nat) {a : Addr} {kk' : Nat} (hstk : st = argsL.reverse ++ .ref a :: rest) (w1 : (Jvm.Cond.methodLink own i y).before a0 Z = true) (w2 : (Jvm.Cond.privateMethod y).before a0 Z = true) (w6 : (Jvm.Cond.instanceMethod y).before a0 Z = true) (w3 : (Jvm.Cond.initialized y.cls).before a0 Z = true) (w4 : (Jvm.Cond.code y bs' maxL' ret').before a0 Z = true) (wi : (Jvm.Cond.instantiable y.cls kk').before a0 Z = true) (hy : y.cls ≠ "java/lang/invoke/MethodHandle" ∧ y.cls ≠ "java/lang/invoke/VarHandle") (E : Exa Z h a y.cls)
    (C : own_Con l Z n0 y bs' maxL' ret' rm [] (.ref a :: argsL).toArray h P) (d : own_ix bs pc (.invokevirtual i) 3 pc') (hlen : parseMethodDescriptor y.desc = some ⟨ps, r⟩) (hl2 : argsL.length = ps.length) (hsz : L.size = maxL) (hW : 2 * 0 + (rest.map fun v => v.category).sum ≤ Wt) (hf : rm.frames + 1 ≤ R.frames) (hl : Wt + (maxL' + 11) + rm.locals ≤ R.locals) (hc : cells + rm.cells ≤ R.cells) (hs : slots + rm.slots ≤ R.slots)
    (kk : ∀ T' h' v, own_St p l e R s m args below meth c Z n0 bs maxL own T' h' (cells + rm.cells) (slots + rm.slots) → P v h' → own_Wins p e below A T' (mkF m pc' L (v.toList ++ rest))) : own_Wins p e below A T (mkF m pc L st) := by
  obtain ⟨locs, Y, eT, N, hn, hx, hby, hml, hown, hZ, hlk⟩ := X
  obtain ⟨d, rfl⟩ := d
  obtain ⟨cq, q1, q2⟩ := E.cell
  have hpr : s.PrivateAt y := Cond.privateMethod_at (mvP hZ w2 (args := #[]))
  obtain ⟨cI, kI, e1, e2, -, e3, -⟩ := Cond.instantiable_spec (mv (args := #[]) hZ wi)
  have hsel : (Jvm.Cond.selects y.cls y y).before args s = true := Jvm.Stand.selects_self_of_private e1 e2 (by cases hq : kI.isInterface <;> simp_all) hpr (mvT hZ w6) hy
  obtain ⟨v, _, ⟨T1, L1, k1, n1⟩, -, X1, ⟨Lc, hQ, l1, y1, z1⟩, st1⟩ := Y.privateBack hx (y := y) hown (mvT hZ w1) (mvT hZ w6) hsel hpr (mvT hZ w4) hy (backOf (W := Wt) (bytes := bs') (maxL := maxL') (rm := rm) (Q := fun v h' L => Fr n0 L ∧ n0 ≤ h'.size ∧ P v h') C hZ w4 w3 hf hl) (g := mkF m pc L st) rfl (by rw [hml]; exact hsz) (Steps.refl _) (a := a) (by rw [eT]; exact q1) q2 (argsL := argsL) (rest := rest) (lenOf hlen hl2) hstk hW (hb hby d) (fun _ _ => ⟨rfl, eT, hc, hs⟩)
  dsimp only [Pt.U, Pt.locs, Pt.cells, Pt.slots] at X1 l1 y1 z1 st1 hQ
  subst l1 y1 z1
  obtain ⟨N1, n1, hP⟩ := hQ
  exact own_by (fun _ q => st1.trans q) (kk T1 _ v ⟨_, X1, rfl, Fr.app N N1, n1, hx, hby, hml, hown, hZ, hlk⟩ hP)
end OwnLayer
theorem own_Lushr_bv (x : Int64) (q : Int32) (k : Nat) (hk : q.toBitVec.toNat % 64 = k) : (own_Lushr x q).toBitVec = x.toBitVec >>> k := by
  have h5 := (sm64 q k hk).2
  show x.toBitVec >>> ((q &&& 0x3f).toInt64.toBitVec % 64) = _
  rw [BitVec.ushiftRight_eq', BitVec.toNat_umod, (sm64 q k hk).1, BitVec.toNat_ofNat]
  congr 1
  show k % 2 ^ 64 % 64 = k
  omega
theorem own_Lshl_bv (x : Int64) (q : Int32) (k : Nat) (hk : q.toBitVec.toNat % 64 = k) : (own_Lshl x q).toBitVec = x.toBitVec <<< k := by
  show x.toBitVec <<< ((q &&& 0x3f).toInt64.toBitVec.smod 64) = _
  rw [BitVec.shiftLeft_eq', (sm64 q k hk).1, smod64 k (sm64 q k hk).2]
theorem own_Iushr_bv (x q : Int32) (k : Nat) (hk : q.toBitVec.toNat % 32 = k) : (own_Iushr x q).toBitVec = x.toBitVec >>> k := by
  have h1 : (q &&& 31).toBitVec.toNat = k := by
    show (q.toBitVec &&& (31 : Int32).toBitVec).toNat = _
    rw [BitVec.toNat_and, show (31 : Int32).toBitVec.toNat = 2 ^ 5 - 1 from by decide, Nat.and_two_pow_sub_one_eq_mod]; exact hk
  show x.toBitVec >>> ((q &&& 31).toBitVec % 32) = _
  rw [BitVec.ushiftRight_eq', BitVec.toNat_umod, h1]
  congr 1
  show k % 32 = k
  omega

theorem own_idx_iff {j : Int32} {k : Nat} : own_idx j k ↔ j.toInt = (k : Int) := by
  have h0 : (0 : Int32).toInt = 0 := by decide
  have h1 : j.toNatClampNeg = j.toInt.toNat := rfl
  rw [own_idx, Int32.lt_iff_toInt_lt, h0, h1]
  omega
theorem own_idx_nat {k : Nat} (h : k < 2147483648) : own_idx (Int32.ofNat k) k := own_idx_iff.mpr (Int32.toInt_ofNat_of_lt h)
theorem own_idx_add {a b : Int32} {m n : Nat} (ha : own_idx a m) (hb : own_idx b n) (h : m + n < 2147483648) : own_idx (a + b) (m + n) := by
  rw [own_idx_iff] at *
  have h1 := c_iadd a b
  have h2 := rng32 (a + b)
  omega
theorem own_idx_sub {a b : Int32} {m n : Nat} (ha : own_idx a m) (hb : own_idx b n) (h : n ≤ m) : own_idx (a - b) (m - n) := by
  rw [own_idx_iff] at *
  have h1 := c_isub a b
  have h2 := rng32 (a - b)
  have h3 := rng32 a
  omega
theorem own_idx_lt {a b : Int32} {m n : Nat} (ha : own_idx a m) (hb : own_idx b n) : a < b ↔ m < n := by
  rw [own_idx_iff] at *
  rw [Int32.lt_iff_toInt_lt]
  omega
theorem own_idx_eq {a b : Int32} {m n : Nat} (ha : own_idx a m) (hb : own_idx b n) : a = b ↔ m = n := by
  rw [own_idx_iff] at *
  rw [← Int32.toInt_inj]
  omega
theorem own_idx_range {a : Int32} {m : Nat} (ha : own_idx a m) : m < 2147483648 := by
  rw [own_idx_iff] at ha
  have := rng32 a
  omega
theorem own_idx_val {a : Int32} {m : Nat} (ha : own_idx a m) : a = Int32.ofNat m := (own_idx_eq ha (own_idx_nat (own_idx_range ha))).mpr rfl
theorem own_succ (i : Nat) : Int32.ofNat i + 1 = Int32.ofNat (i + 1) := by
  rw [Int32.ofNat_add]; rfl
theorem own_mod_idx (z : Int32) (d : Int32) (n : Nat) (hd : own_idx d n) (hn : 0 < n) : ∃ k, k < n ∧ own_idx ((z &&& 2147483647) % d) k := by
  have h1 := c_mask z 2147483647 31 (by decide) (by decide)
  have hd' := own_idx_iff.mp hd
  have h2 := (c_irem (z &&& 2147483647) d n hd').1 (by rw [h1]; omega)
  refine ⟨((z &&& 2147483647).toInt % (n : Int)).toNat, ?_, ?_⟩
  · have := Int.emod_lt_of_pos (z &&& 2147483647).toInt (show (0 : Int) < n by omega)
    have := Int.emod_nonneg (z &&& 2147483647).toInt (show (n : Int) ≠ 0 by omega)
    omega
  · rw [own_idx_iff, h2]
    have := Int.emod_nonneg (z &&& 2147483647).toInt (show (n : Int) ≠ 0 by omega)
    omega

/-- a byte out of a long's bits, as an int in 0 .. 255 and as a long -/
theorem own_bb (x : Int64) : ((x.toInt32.toInt8.toInt32) &&& 255).toInt64.toBitVec = x.toBitVec &&& 255#64 := by
  apply BitVec.eq_of_getLsbD_eq
  intro i hi
  simp only [Int32.toBitVec_toInt64, Int32.toBitVec_and, Int8.toBitVec_toInt32, Int32.toBitVec_toInt8, Int64.toBitVec_toInt32]
  have h255 : (255 : Int32).toBitVec = 255#32 := by decide
  rw [h255]
  simp only [BitVec.getLsbD_signExtend, BitVec.getLsbD_and, BitVec.msb_eq_getLsbD_last, BitVec.getLsbD_ofNat]
  have hm : ∀ j : Nat, Nat.testBit 255 j = decide (j < 8) := fun j => by
    rw [show (255 : Nat) = 2 ^ 8 - 1 by decide, Nat.testBit_two_pow_sub_one]
  simp only [hm]
  by_cases h8 : i < 8
  · simp [h8, show i < 32 by omega, show i < 64 by omega]
  · by_cases h32 : i < 32
    · simp [h8, h32]
    · simp [h8, h32]
theorem own_b8 (x : Int32) : x.toInt8.toInt32.toInt8.toInt32 = x.toInt8.toInt32 := by
  rw [Int8.toInt8_toInt32]
def own_be (f : Nat → Int32) : Nat → Int64
  | 0 => 0
  | i + 1 => own_Lshl (own_be f i) 8 ||| (f i &&& 255).toInt64
theorem own_glue (w : BitVec 64) : (w >>> 8) <<< 8 ||| (w &&& 255#64) = w := by
  apply BitVec.eq_of_getLsbD_eq
  intro i hi
  simp only [BitVec.getLsbD_or, BitVec.getLsbD_shiftLeft, BitVec.getLsbD_ushiftRight, BitVec.getLsbD_and, BitVec.getLsbD_ofNat]
  have hm : Nat.testBit 255 i = decide (i < 8) := by
    rw [show (255 : Nat) = 2 ^ 8 - 1 by decide, Nat.testBit_two_pow_sub_one]
  rw [hm]
  by_cases h8 : i < 8
  · simp [h8, hi]
  · simp [h8, hi, show 8 + (i - 8) = i by omega]
/-- eight bytes, big-endian, give back the long out of which they were taken -/
theorem own_be_bv (f : Nat → Int32) (x : Int64) (hf : ∀ i, i < 8 → f i = (Int64.ofBitVec (x.toBitVec >>> (56 - 8 * i))).toInt32.toInt8.toInt32) : ∀ i, i ≤ 8 → (own_be f i).toBitVec = x.toBitVec >>> (64 - 8 * i) := by
  intro i
  induction i with
  | zero => intro _; rw [own_be, BitVec.ushiftRight_eq_zero (by omega)]; rfl
  | succ i ih =>
    intro hi
    rw [own_be, Int64.toBitVec_or, own_Lshl_bv _ 8 8 (by decide), ih (by omega), hf i (by omega), own_bb]
    have e1 : x.toBitVec >>> (64 - 8 * i) = (x.toBitVec >>> (56 - 8 * i)) >>> 8 := by
      rw [← BitVec.shiftRight_add]; congr 1; omega
    rw [e1, show 64 - 8 * (i + 1) = 56 - 8 * i by omega]
    exact own_glue _
theorem own_be_eq (f : Nat → Int32) (x : Int64) (hf : ∀ i, i < 8 → f i = (Int64.ofBitVec (x.toBitVec >>> (56 - 8 * i))).toInt32.toInt8.toInt32) : own_be f 8 = x := by
  apply Int64.toBitVec_inj.mp
  rw [own_be_bv f x hf 8 (by omega)]
  simp
theorem own_sh (x : Int64) (q : Int32) (k : Nat) (hk : q.toBitVec.toNat % 64 = k) : own_Lushr x q = Int64.ofBitVec (x.toBitVec >>> k) := by
  apply Int64.toBitVec_inj.mp
  rw [own_Lushr_bv x q k hk, Int64.toBitVec_ofBitVec]

theorem own_idx_bv {j : Int32} {k : Nat} (h : own_idx j k) : j.toBitVec.toNat = k := by
  have h1 := own_idx_iff.mp h
  have h2 := own_idx_range h
  have h3 : j.toInt = j.toBitVec.toInt := rfl
  rw [h3, BitVec.toInt_eq_toNat_cond] at h1
  split at h1 <;> omega
theorem own_idx_sh {j : Int32} {k : Nat} (h : own_idx j k) (hk : k < 64) : j.toBitVec.toNat % 64 = k := by rw [own_idx_bv h]; omega
theorem own_not (x : Int64) : (x ^^^ (-1 : Int64)).toBitVec = ~~~ x.toBitVec := by
  rw [Int64.toBitVec_xor, show (-1 : Int64).toBitVec = BitVec.allOnes 64 by decide, BitVec.xor_allOnes]
/-- one bit of a long, as a long -/
theorem own_bit1 (x : Int64) (j : Int32) (k : Nat) (h : own_idx j k) (hk : k < 64) : (own_Lushr x j) &&& (1 : Int64) = if x.toBitVec.getLsbD k then 1 else 0 := by
  apply Int64.toBitVec_inj.mp
  rw [Int64.toBitVec_and, own_Lushr_bv x j k (own_idx_sh h hk), show (1 : Int64).toBitVec = 1#64 by decide]
  have e : (if x.toBitVec.getLsbD k then (1 : Int64) else 0).toBitVec = if x.toBitVec.getLsbD k then 1#64 else 0#64 := by split <;> rfl
  rw [e]
  apply BitVec.eq_of_getLsbD_eq
  intro i hi
  rw [BitVec.getLsbD_and, BitVec.getLsbD_ushiftRight, BitVec.getLsbD_one]
  by_cases h0 : i = 0
  · subst h0; cases hx : x.toBitVec.getLsbD k <;> simp [hx]
  · cases hx : x.toBitVec.getLsbD k <;> simp [h0]
theorem own_div64 {j : Int32} {k : Nat} (h : own_idx j k) : own_idx (j / (64 : Int32)) (k / 64) ∧ own_idx (j % (64 : Int32)) (k % 64) := by
  have h1 := own_idx_iff.mp h
  have h2 := (c_idiv j 64 64 (by decide) (by decide)).1 (by omega)
  have h3 := (c_irem j 64 64 (by decide)).1 (by omega)
  exact ⟨own_idx_iff.mpr (by omega), own_idx_iff.mpr (by omega)⟩
theorem own_and_idx (z m : Int32) (b : Nat) (hb : b ≤ 31) (hm : m.toBitVec.toNat = 2 ^ b - 1) : ∃ k, k < 2 ^ b ∧ own_idx (z &&& m) k := by
  have h1 := c_mask z m b hb hm
  have h2 : (0 : Int) < ((2 ^ b : Nat) : Int) := by have := Nat.two_pow_pos b; omega
  have h3 := Int.emod_nonneg z.toInt (show ((2 ^ b : Nat) : Int) ≠ 0 by omega)
  have h4 := Int.emod_lt_of_pos z.toInt h2
  exact ⟨(z &&& m).toInt.toNat, by omega, own_idx_iff.mpr (by omega)⟩
theorem own_ushr_idx {j q : Int32} {k : Nat} (n : Nat) (h : own_idx j k) (hq : q.toBitVec.toNat % 32 = n) (hn : 0 < n) : own_idx (own_Iushr j q) (k / 2 ^ n) := by
  have h1 := own_idx_iff.mp h
  have h2 := own_idx_range h
  have h3 := c_iushr j q n hq hn
  rw [own_idx_iff]
  show ((j.toUInt32 >>> (q &&& 31).toUInt32).toInt32).toInt = _
  rw [h3, h1, show (k : Int) % 4294967296 = (k : Int) by omega]
  exact (Int.natCast_ediv _ _).symm
theorem own_mul64 {j : Int32} {k : Nat} (h : own_idx j k) (hk : 64 * k < 2147483648) : own_idx (j * (64 : Int32)) (64 * k) := by
  rw [own_idx_iff] at *
  have h1 := c_imul j 64
  have h2 := rng32 (j * 64)
  have h3 : (64 : Int32).toInt = 64 := by decide
  rw [h3, h] at h1
  omega
def own_gT (v : Nat) : Nat := (v >>> 1) ^^^ (if v.testBit 0 then 299076299051606071403356588563077529600 else 0)
def own_gI : Nat → Nat → Nat
  | 0, v => v
  | n + 1, v => own_gT (own_gI n v)
def own_gS (x y : Nat) : Nat → Nat
  | 0 => 0
  | n + 1 => own_gS x y n ^^^ (if x.testBit (127 - n) then own_gI n y else 0)
def own_gM (x y : Nat) : Nat := own_gS x y 128
/-- the same as the machine reckons it: the product so far, y times a power -/
def own_gL (x : Nat) : Nat → Nat → Nat → Nat
  | 0, acc, _ => acc
  | n + 1, acc, v => own_gL x n (acc ^^^ (if x.testBit n then v else 0)) (own_gT v)
theorem own_gL_eq (x y : Nat) : ∀ n, n ≤ 128 → own_gL x n (own_gS x y (128 - n)) (own_gI (128 - n) y) = own_gM x y := by
  intro n
  induction n with
  | zero => intro _; rfl
  | succ n ih =>
    intro hn
    have e : 128 - n = (128 - (n + 1)) + 1 := by omega
    have e2 : 127 - (128 - (n + 1)) = n := by omega
    have := ih (by omega)
    rw [e, own_gS, own_gI, e2] at this
    rw [own_gL]
    exact this
theorem own_x4 (a b c d : Nat) : (a ^^^ b) ^^^ (c ^^^ d) = (a ^^^ c) ^^^ (b ^^^ d) := by
  rw [Nat.xor_assoc, ← Nat.xor_assoc b c d, Nat.xor_comm b c, Nat.xor_assoc c b d, ← Nat.xor_assoc]
theorem own_gT_add (a b : Nat) : own_gT (a ^^^ b) = own_gT a ^^^ own_gT b := by
  simp only [own_gT, Nat.shiftRight_xor_distrib, Nat.testBit_xor]
  rw [own_x4]
  congr 1
  cases a.testBit 0 <;> cases b.testBit 0 <;> simp
theorem own_gT_0 : own_gT 0 = 0 := by decide
theorem own_gT_lt (a : Nat) (h : a < 2 ^ 128) : own_gT a < 2 ^ 128 := by
  refine Nat.xor_lt_two_pow ?_ ?_
  · rw [Nat.shiftRight_eq_div_pow]; omega
  · split <;> decide
theorem own_gI_lt (n a : Nat) (h : a < 2 ^ 128) : own_gI n a < 2 ^ 128 := by
  induction n with
  | zero => exact h
  | succ n ih => exact own_gT_lt _ ih
theorem own_gI_add (n a b : Nat) : own_gI n (a ^^^ b) = own_gI n a ^^^ own_gI n b := by
  induction n with
  | zero => rfl
  | succ n ih => rw [own_gI, ih, own_gT_add]; rfl
theorem own_gI_0 (n : Nat) : own_gI n 0 = 0 := by
  induction n with
  | zero => rfl
  | succ n ih => rw [own_gI, ih, own_gT_0]
theorem own_gI_T (n a : Nat) : own_gI n (own_gT a) = own_gT (own_gI n a) := by
  induction n with
  | zero => rfl
  | succ n ih => rw [own_gI, ih]; rfl
theorem own_gS_lt (x y n : Nat) (h : y < 2 ^ 128) : own_gS x y n < 2 ^ 128 := by
  induction n with
  | zero => exact (by decide : (0 : Nat) < 2 ^ 128)
  | succ n ih =>
    refine Nat.xor_lt_two_pow ih ?_
    split
    · exact own_gI_lt n y h
    · decide
/-- an additive map that bears with T goes through a product -/
theorem own_gS_map (f : Nat → Nat) (f0 : f 0 = 0) (fa : ∀ a b, f (a ^^^ b) = f a ^^^ f b) (x y : Nat) (g : Nat → Nat) (fT : ∀ n, f (own_gI n y) = g n) : ∀ n, f (own_gS x y n) = (n.fold (fun i _ r => r ^^^ (if x.testBit (127 - i) then g i else 0)) 0) := by
  intro n
  induction n with
  | zero => exact f0
  | succ n ih =>
    rw [own_gS, fa, ih, Nat.fold_succ]
    congr 1
    split
    · exact fT n
    · exact f0
theorem own_gS_fold (x y : Nat) : ∀ n, own_gS x y n = (n.fold (fun i _ r => r ^^^ (if x.testBit (127 - i) then own_gI i y else 0)) 0) := own_gS_map id rfl (fun _ _ => rfl) x y _ (fun _ => rfl)
theorem own_gS_addY (x a b n : Nat) : own_gS x (a ^^^ b) n = own_gS x a n ^^^ own_gS x b n := by
  induction n with
  | zero => simp [own_gS]
  | succ n ih =>
    simp only [own_gS, ih, own_gI_add]
    rw [own_x4]
    congr 1
    split <;> simp
theorem own_gS_addX (a b y n : Nat) : own_gS (a ^^^ b) y n = own_gS a y n ^^^ own_gS b y n := by
  induction n with
  | zero => simp [own_gS]
  | succ n ih =>
    simp only [own_gS, ih, Nat.testBit_xor]
    rw [own_x4]
    congr 1
    cases a.testBit (127 - n) <;> cases b.testBit (127 - n) <;> simp
theorem own_gS_0Y (x n : Nat) : own_gS x 0 n = 0 := by
  induction n with
  | zero => rfl
  | succ n ih => rw [own_gS, ih, own_gI_0]; simp
theorem own_gS_0X (y n : Nat) : own_gS 0 y n = 0 := by
  induction n with
  | zero => rfl
  | succ n ih => rw [own_gS, ih]; simp
theorem own_gS_T (x y n : Nat) : own_gS x (own_gT y) n = own_gT (own_gS x y n) := by
  induction n with
  | zero => exact own_gT_0.symm
  | succ n ih =>
    rw [own_gS, own_gS, ih, own_gT_add]
    congr 1
    split
    · exact own_gI_T n y
    · exact own_gT_0.symm
theorem own_gS_I (x y n k : Nat) : own_gS x (own_gI k y) n = own_gI k (own_gS x y n) := by
  induction k with
  | zero => rfl
  | succ k ih => rw [own_gI, own_gS_T, ih]; rfl
/-- two products over one third factor change places -/
theorem own_gM_swap (x y z : Nat) : own_gM x (own_gM y z) = own_gM y (own_gM x z) := by
  unfold own_gM
  rw [own_gS_map (fun w => own_gS x w 128) (own_gS_0Y x 128) (fun a b => own_gS_addY x a b 128) y z _ (fun n => own_gS_I x z 128 n), own_gS_fold y]
/-- the unit: the block whose first bit alone is set -/
def own_g1 : Nat := 170141183460469231731687303715884105728
theorem own_gI_1 : ∀ i, i < 128 → own_gI i own_g1 = 2 ^ (127 - i) := by
  have h : (List.range 128).all (fun i => own_gI i own_g1 == 2 ^ (127 - i)) = true := by decide +kernel
  intro i hi
  have := List.all_eq_true.mp h i (List.mem_range.mpr hi)
  exact eq_of_beq this
theorem own_gS_1 (y : Nat) : ∀ n, n ≤ 128 → ∀ j, (own_gS y own_g1 n).testBit j = (decide (128 - n ≤ j ∧ j < 128) && y.testBit j) := by
  intro n
  induction n with
  | zero => intro _ j; simp [own_gS]; omega
  | succ n ih =>
    intro hn j
    rw [own_gS, Nat.testBit_xor, ih (by omega), own_gI_1 n (by omega)]
    by_cases hj : j = 127 - n
    · subst hj
      cases y.testBit (127 - n) <;> simp [Nat.testBit_two_pow] <;> omega
    · have h1 : (if y.testBit (127 - n) = true then 2 ^ (127 - n) else 0).testBit j = false := by
        split
        · simp [Nat.testBit_two_pow]; omega
        · simp
      rw [h1, Bool.xor_false]
      congr 1
      rw [decide_eq_decide]
      omega
theorem own_gM_1 (y : Nat) (hy : y < 2 ^ 128) : own_gM y own_g1 = y := by
  apply Nat.eq_of_testBit_eq
  intro j
  rw [own_gM, own_gS_1 y 128 (by omega) j]
  by_cases hj : j < 128
  · simp [hj]
  · have : y.testBit j = false := Nat.testBit_lt_two_pow (Nat.lt_of_lt_of_le hy (Nat.pow_le_pow_right (by decide) (by omega)))
    simp [this]
theorem own_gM_lt (x y : Nat) (h : y < 2 ^ 128) : own_gM x y < 2 ^ 128 := own_gS_lt x y 128 h
theorem own_g1_lt : own_g1 < 2 ^ 128 := by decide
theorem own_gM_comm (x y : Nat) (hx : x < 2 ^ 128) (hy : y < 2 ^ 128) : own_gM x y = own_gM y x := by
  have h1 : own_gM x y = own_gM x (own_gM y own_g1) := by rw [own_gM_1 y hy]
  rw [h1, own_gM_swap, own_gM_1 x hx]
theorem own_gM_assoc (x y z : Nat) (hx : x < 2 ^ 128) (hy : y < 2 ^ 128) (hz : z < 2 ^ 128) : own_gM (own_gM x y) z = own_gM x (own_gM y z) := by
  rw [own_gM_comm (own_gM x y) z (own_gM_lt x y hy) hz, own_gM_swap, own_gM_comm z y hz hy]
theorem own_gM_addY (x a b : Nat) : own_gM x (a ^^^ b) = own_gM x a ^^^ own_gM x b := own_gS_addY x a b 128
theorem own_gM_addX (a b y : Nat) : own_gM (a ^^^ b) y = own_gM a y ^^^ own_gM b y := own_gS_addX a b y 128
/-- an additive map is known by what it makes of the unit's shifts -/
theorem own_g_lin (f g : Nat → Nat) (f0 : f 0 = 0) (g0 : g 0 = 0) (fa : ∀ a b, f (a ^^^ b) = f a ^^^ f b) (ga : ∀ a b, g (a ^^^ b) = g a ^^^ g b) (h : ∀ i, i < 128 → f (2 ^ i) = g (2 ^ i)) (y : Nat) (hy : y < 2 ^ 128) : f y = g y := by
  have key : ∀ n, n ≤ 128 → f (own_gS y own_g1 n) = g (own_gS y own_g1 n) := by
    intro n
    induction n with
    | zero => intro _; exact f0.trans g0.symm
    | succ n ih =>
      intro hn
      rw [own_gS, fa, ga, ih (by omega), own_gI_1 n (by omega)]
      congr 1
      split
      · exact h _ (by omega)
      · exact f0.trans g0.symm
  have := key 128 (by omega)
  have e : own_gS y own_g1 128 = y := own_gM_1 y hy
  rwa [e] at this
/-! squares -/
def own_gQ (x : Nat) : Nat := own_gM x x
def own_gF : Nat → Nat → Nat
  | 0, x => x
  | n + 1, x => own_gQ (own_gF n x)
theorem own_gQ_lt (x : Nat) (h : x < 2 ^ 128) : own_gQ x < 2 ^ 128 := own_gM_lt x x h
theorem own_gF_lt (n x : Nat) (h : x < 2 ^ 128) : own_gF n x < 2 ^ 128 := by
  induction n with
  | zero => exact h
  | succ n ih => exact own_gQ_lt _ ih
theorem own_xor_lt {a b : Nat} (ha : a < 2 ^ 128) (hb : b < 2 ^ 128) : a ^^^ b < 2 ^ 128 := Nat.xor_lt_two_pow ha hb
theorem own_gQ_add (a b : Nat) (ha : a < 2 ^ 128) (hb : b < 2 ^ 128) : own_gQ (a ^^^ b) = own_gQ a ^^^ own_gQ b := by
  simp only [own_gQ, own_gM_addY, own_gM_addX]
  rw [own_gM_comm b a hb ha, own_x4, Nat.xor_comm (own_gM a b), ← own_x4, Nat.xor_self]
  simp
theorem own_gQ_mul (a b : Nat) (ha : a < 2 ^ 128) (hb : b < 2 ^ 128) : own_gQ (own_gM a b) = own_gM (own_gQ a) (own_gQ b) := by
  have hab := own_gM_lt a b hb
  simp only [own_gQ]
  rw [own_gM_assoc a b _ ha hb hab, own_gM_swap b a b, ← own_gM_assoc a a _ ha ha (own_gM_lt b b hb)]
theorem own_gF_mul (n a b : Nat) (ha : a < 2 ^ 128) (hb : b < 2 ^ 128) : own_gF n (own_gM a b) = own_gM (own_gF n a) (own_gF n b) := by
  induction n with
  | zero => rfl
  | succ n ih => rw [own_gF, ih, own_gQ_mul _ _ (own_gF_lt n a ha) (own_gF_lt n b hb)]; rfl
theorem own_gF_add (n a b : Nat) (ha : a < 2 ^ 128) (hb : b < 2 ^ 128) : own_gF n (a ^^^ b) = own_gF n a ^^^ own_gF n b := by
  induction n with
  | zero => rfl
  | succ n ih => rw [own_gF, ih, own_gQ_add _ _ (own_gF_lt n a ha) (own_gF_lt n b hb)]; rfl
theorem own_gQ_0 : own_gQ 0 = 0 := own_gS_0X 0 128
theorem own_gF_0 (n : Nat) : own_gF n 0 = 0 := by
  induction n with
  | zero => rfl
  | succ n ih => rw [own_gF, ih, own_gQ_0]
/-- the product as the machine reckons it, for reckoning -/
theorem own_gM_L (x y : Nat) : own_gM x y = own_gL x 128 0 y := (own_gL_eq x y 128 (by omega)).symm
def own_gFL : Nat → Nat → Nat
  | 0, x => x
  | n + 1, x => own_gL (own_gFL n x) 128 0 (own_gFL n x)
theorem own_gFL_eq (n x : Nat) : own_gFL n x = own_gF n x := by
  induction n with
  | zero => rfl
  | succ n ih => rw [own_gFL, ih, ← own_gM_L]; rfl
/-- x (the block whose second bit alone is set), squared 128 times, is x -/
theorem own_gX : own_gF 128 85070591730234615865843651857942052864 = 85070591730234615865843651857942052864 := by
  rw [← own_gFL_eq]
  decide +kernel
theorem own_gX_T (y : Nat) : own_gM 85070591730234615865843651857942052864 y = own_gT y := by
  have key : ∀ n, 2 ≤ n → n ≤ 128 → own_gS 85070591730234615865843651857942052864 y n = own_gT y := by
    intro n h2
    induction n with
    | zero => omega
    | succ n ih =>
      intro hn
      by_cases h : n = 1
      · subst h
        simp [own_gS, own_gI, show Nat.testBit 85070591730234615865843651857942052864 127 = false by decide, show Nat.testBit 85070591730234615865843651857942052864 126 = true by decide]
      · rw [own_gS, ih (by omega) (by omega)]
        have : Nat.testBit 85070591730234615865843651857942052864 (127 - n) = false := by
          rw [show (85070591730234615865843651857942052864 : Nat) = 2 ^ 126 by decide, Nat.testBit_two_pow]; simp; omega
        rw [this]; simp
  exact key 128 (by omega) (by omega)
theorem own_gF_fix2 : ∀ i, i < 128 → own_gF 128 (own_gI i own_g1) = own_gI i own_g1 := by
  intro i
  induction i with
  | zero =>
    intro _
    have : ∀ n, own_gF n own_g1 = own_g1 := by
      intro n
      induction n with
      | zero => rfl
      | succ n ih => rw [own_gF, ih]; exact own_gM_1 own_g1 own_g1_lt
    exact this 128
  | succ i ih =>
    intro hi
    rw [own_gI, ← own_gX_T, own_gF_mul 128 _ _ (by decide) (own_gI_lt i _ own_g1_lt), ih (by omega), own_gX]
theorem own_gF_fix (y : Nat) (hy : y < 2 ^ 128) : own_gF 128 y = y := by
  have key : ∀ n, n ≤ 128 → own_gF 128 (own_gS y own_g1 n) = own_gS y own_g1 n := by
    intro n
    induction n with
    | zero => intro _; exact own_gF_0 128
    | succ n ih =>
      intro hn
      rw [own_gS, own_gF_add 128 _ _ (own_gS_lt y _ n own_g1_lt) (by split; exact own_gI_lt n _ own_g1_lt; decide), ih (by omega)]
      congr 1
      split
      · exact own_gF_fix2 n (by omega)
      · exact own_gF_0 128
  have e : own_gS y own_g1 128 = y := own_gM_1 y hy
  have := key 128 (by omega)
  rwa [e] at this
/-! what is its own square is zero or the unit: a left inverse of 'square plus itself', given by its values on the basis -/
def own_gTab : List Nat := [0, 6161591008139076202154902373133594561, 71430717218983613641036104277415506289, 87518597585245962833849474628053070758, 72921817864677867521778898634038080609, 163309321578052146879237778733101511783, 126814247099887467207929949960147586332, 133487668004820722767044853458355047125, 108887185710678174598840578861931466132, 72978216601350599296199603180564021825, 126976600203468727039316187211004055892, 49689517519420395515082114066310337331, 12764899024296983899235621676887115841, 59792954277794326371429463258526948146, 275464514806027128612938827324864, 33882886127255646541338116557250298163, 133385434108064708788808215410435911893, 153238470225796905537047657204766862374, 127777348636302309636952298273557535380, 58594334107495617071392172125656399538, 5725366257701666555538562805218717057, 159324042485362592547018579093184240551, 149021274876537960721224429182834492454, 94333773739946854309780815578084996199, 161752945482599484730126084874801441767, 115575792119390728221592460023876181333, 133436244703473040169882794575366898389, 34751610155981195849944733847405496627, 100972845268357601278728964017462078439, 44935323831972008745566419208193456946, 132003651752985294974180122299820886164, 45594221442569777339127844318073854322, 100983558286137050684044238585428660711, 140308235276559149970208740923126577813, 92325303522414418149753570460923091879, 26944628100264108509229864938392397555, 81071795988965022717357904530596407232, 58275656592719279154056000246173111091, 51613027339492204128265575524803459891, 142140898696765075202304690604976981845, 53639910565545342273528145980335791795, 4726979706490419237355323591502507968, 161542955870533464563010084267448332775, 65334779303751560239471195525024588352, 122557457634345817322758110469731963540, 79569572988994598121356082874814992321, 9537274821874957483351388617584152641, 109427184872331881977228478262674814292, 96504253903287235160744645914913229863, 35809052500294759256374056413191545715, 63089105448741488643398279942380763954, 84108490886122099842324906724524496768, 161537358671016203777973217828391545831, 49921000058860506912943830473554996979, 113870918609522322281985099445019275925, 45994406431766860863727072382817147250, 6116654749483988959971426010360459777, 88394181539591460295416373139500891046, 93226277353508642900164249188457535015, 123506241354959402090274531190302866772, 72992884249465865451566362034747193217, 123492369307601207700488716387690115284, 67288019353279926038130604499846823936, 96617416833907240315124182200439430055, 6161591008139076220601646446843146177, 87518597585245962796955986480633967526, 163309321578052146805450802438263305319, 133487668004820722619470900868678634197, 72978216601350599591347508359916847681, 49689517519420396105377924425015989043, 59792954277794325190837842541115644722, 33882886127255648902521357992072905011, 153238470225796900814681174335121648678, 58594334107495626516125137864946826930, 159324042485362573657552647614603385767, 94333773739946892088712678535246705767, 115575792119390803779456185938199600469, 34751610155981346965672185676052334899, 44935323831971706514111515550899780402, 45594221442570381802037651632661207410, 140308235276560358896028355552301283989, 26944628100266526360869094196741809907, 58275656592714443450777541729474286387, 142140898696755403795747773571579332437, 4726979706471076424241489524707209152, 65334779303712874613243527391433990720, 79569572989071969373811419141996187585, 109427184872177139472317805728312423764, 35809052500604244266195401481916326771, 84108490886741069861967596861974058880, 49921000057622566873658450198655872755, 45994406429290980785156311833018898802, 88394181544543220452557894239097387942, 123506241345055881775991488991109872980, 123492369287794167071922631989304127700, 96617416873521321572256350997211405223, 87518597506017800282691648887090017190, 133487668163277047647999576055766534869, 49689517202507746048320574050840187699, 33882886761080949016636058740424507699, 58594332839845026287895736368243621554, 94333771204645691632253875541840295015, 34751615226583747878589791662865156403, 45594211301365579976202439659035564402, 26944648382676130012539518143993095923, 142140858131936196492406925677076760405, 65334698174074460006561831602428846656, 109427022612900310258954414150302135636, 84108166368187411435240813705953482624, 45993757392183663931702745520977746290, 123504943270841248069084356367027567956, 96614820725092054158442085749046795175, 133492860460135582475628106552095754965, 33893271354798018671893119733082947891, 94354540392079830942767997527157175399, 45552672926497301355174195688401803634, 142223934881672753734463413618344281941, 109593176112373424743067390032837178708, 46326064391129892899928697286047832434, 95950206727199596221990182218906622887, 32564043359013102798989312672802603315, 42894216934927469609366581567841114482, 114910088095513088234682618273958557012, 85316382760920269238759725736663866279, 64161864867486123575827494532326627698, 127851678626037577171681551665634892711, 42781086895802961305837899807692839847, 22349210433241643211303706255459310228]
def own_gK (z : Nat) : Nat → Nat
  | 0 => 0
  | n + 1 => own_gK z n ^^^ (if z.testBit n then own_gTab.getD n 0 else 0)
theorem own_gK_add (a b n : Nat) : own_gK (a ^^^ b) n = own_gK a n ^^^ own_gK b n := by
  induction n with
  | zero => simp [own_gK]
  | succ n ih =>
    simp only [own_gK, ih, Nat.testBit_xor]
    rw [own_x4]
    congr 1
    cases a.testBit n <;> cases b.testBit n <;> simp
theorem own_gK_0 (n : Nat) : own_gK 0 n = 0 := by
  induction n with
  | zero => rfl
  | succ n ih => rw [own_gK, ih]; simp
theorem own_gK_basis : (List.range 128).all (fun j => own_gK (own_gL (2 ^ j) 128 0 (2 ^ j) ^^^ 2 ^ j) 128 == 2 ^ j ^^^ (if (2 ^ j).testBit 127 then own_g1 else 0)) = true := by decide +kernel
theorem own_gIdem (y : Nat) (hy : y < 2 ^ 128) (h : own_gQ y = y) : y = 0 ∨ y = own_g1 := by
  have key : ∀ n, n ≤ 128 → own_gK (own_gQ (own_gS y own_g1 n) ^^^ own_gS y own_g1 n) 128 = own_gS y own_g1 n ^^^ (if (own_gS y own_g1 n).testBit 127 then own_g1 else 0) := by
    intro n
    induction n with
    | zero => intro _; simp [own_gS, own_gQ_0, own_gK_0]
    | succ n ih =>
      intro hn
      have h1 := own_gS_lt y _ n own_g1_lt
      have h2 : (if y.testBit (127 - n) then own_gI n own_g1 else 0) < 2 ^ 128 := by split; exact own_gI_lt n _ own_g1_lt; decide
      have h3 : own_gK (own_gQ (if y.testBit (127 - n) then own_gI n own_g1 else 0) ^^^ (if y.testBit (127 - n) then own_gI n own_g1 else 0)) 128 = (if y.testBit (127 - n) then own_gI n own_g1 else 0) ^^^ (if (if y.testBit (127 - n) then own_gI n own_g1 else 0).testBit 127 then own_g1 else 0) := by
        split
        · rw [own_gI_1 n (by omega)]
          have := eq_of_beq (List.all_eq_true.mp own_gK_basis (127 - n) (List.mem_range.mpr (by omega)))
          rw [← own_gM_L] at this
          exact this
        · simp [own_gQ_0, own_gK_0]
      rw [own_gS, own_gQ_add _ _ h1 h2, own_x4, own_gK_add, ih (by omega), h3, own_x4]
      congr 1
      rw [Nat.testBit_xor]
      cases (own_gS y own_g1 n).testBit 127 <;> cases (if y.testBit (127 - n) then own_gI n own_g1 else 0).testBit 127 <;> simp
  have e : own_gS y own_g1 128 = y := own_gM_1 y hy
  have k := key 128 (by omega)
  rw [e, h, Nat.xor_self, own_gK_0] at k
  by_cases hb : y.testBit 127 = true
  · rw [if_pos hb] at k
    right
    have : y ^^^ own_g1 ^^^ own_g1 = 0 ^^^ own_g1 := by rw [← k]
    rw [Nat.xor_assoc, Nat.xor_self] at this
    simpa using this
  · rw [if_neg hb] at k
    left
    simpa using k.symm
/-! the inverse: the power 2^128 - 2 -/
def own_gP (x : Nat) : Nat → Nat
  | 0 => own_g1
  | k + 1 => own_gM (own_gQ (own_gP x k)) x
theorem own_gP_lt (x k : Nat) (hx : x < 2 ^ 128) : own_gP x k < 2 ^ 128 := by
  cases k with
  | zero => exact own_g1_lt
  | succ k => exact own_gM_lt _ _ hx
theorem own_gQ_1 : own_gQ own_g1 = own_g1 := own_gM_1 own_g1 own_g1_lt
theorem own_gP_1 (x : Nat) (hx : x < 2 ^ 128) : own_gP x 1 = x := by
  show own_gM (own_gQ own_g1) x = x
  rw [own_gQ_1, own_gM_comm _ _ own_g1_lt hx, own_gM_1 x hx]
theorem own_gP_join (x a b : Nat) (hx : x < 2 ^ 128) : own_gM (own_gF b (own_gP x a)) (own_gP x b) = own_gP x (a + b) := by
  induction b with
  | zero => exact own_gM_1 _ (own_gP_lt x a hx)
  | succ b ih =>
    show own_gM (own_gQ (own_gF b (own_gP x a))) (own_gM (own_gQ (own_gP x b)) x) = own_gM (own_gQ (own_gP x (a + b))) x
    have h1 := own_gF_lt b _ (own_gP_lt x a hx)
    rw [← own_gM_assoc _ _ _ (own_gQ_lt _ h1) (own_gQ_lt _ (own_gP_lt x b hx)) hx, ← own_gQ_mul _ _ h1 (own_gP_lt x b hx), ih]
theorem own_gP_x (x k : Nat) (hx : x < 2 ^ 128) : own_gM (own_gP x k) x = own_gF k x := by
  induction k with
  | zero => show own_gM own_g1 x = x; rw [own_gM_comm _ _ own_g1_lt hx, own_gM_1 x hx]
  | succ k ih =>
    show own_gM (own_gM (own_gQ (own_gP x k)) x) x = own_gQ (own_gF k x)
    rw [← ih, own_gQ_mul _ _ (own_gP_lt x k hx) hx, own_gM_assoc _ _ _ (own_gQ_lt _ (own_gP_lt x k hx)) hx hx]
    rfl
def own_gInv (x : Nat) : Nat := own_gQ (own_gP x 127)
theorem own_gInv_lt (x : Nat) (hx : x < 2 ^ 128) : own_gInv x < 2 ^ 128 := own_gQ_lt _ (own_gP_lt x 127 hx)
theorem own_gInv_mul (x : Nat) (hx : x < 2 ^ 128) (h0 : x ≠ 0) : own_gM (own_gInv x) x = own_g1 := by
  have e1 : own_gM (own_gInv x) x = own_gP x 128 := rfl
  have hlt := own_gP_lt x 128 hx
  have e2 : own_gM (own_gP x 128) x = x := by rw [own_gP_x x 128 hx, own_gF_fix x hx]
  have e3 : own_gQ (own_gP x 128) = own_gP x 128 := by
    show own_gM (own_gP x 128) (own_gP x 128) = own_gP x 128
    have h1 := own_gInv_lt x hx
    rw [← e1, own_gM_swap (own_gM (own_gInv x) x) (own_gInv x) x, e1, e2]
    exact e1
  rw [e1]
  rcases own_gIdem _ hlt e3 with h | h
  · exfalso
    rw [h, own_gM, own_gS_0X] at e2
    exact h0 e2.symm
  · exact h
theorem own_gQ_ne (x : Nat) (hx : x < 2 ^ 128) (h0 : x ≠ 0) : own_gQ x ≠ 0 := by
  intro h
  have h1 := own_gInv_mul x hx h0
  have h2 : own_gM (own_gInv x) (own_gQ x) = x := by
    show own_gM (own_gInv x) (own_gM x x) = x
    rw [← own_gM_assoc _ _ _ (own_gInv_lt x hx) hx hx, h1, own_gM_comm _ _ own_g1_lt hx, own_gM_1 x hx]
  rw [h, own_gM, own_gS_0Y] at h2
  exact h0 h2.symm
/-- dividing by the square, then multiplying twice -/
theorem own_gDiv (w x : Nat) (hw : w < 2 ^ 128) (hx : x < 2 ^ 128) (h0 : x ≠ 0) : own_gM (own_gM (own_gM w (own_gInv (own_gQ x))) x) x = w := by
  have hq := own_gQ_lt x hx
  have hi := own_gInv_lt _ hq
  rw [own_gM_assoc _ x x (own_gM_lt _ _ hi) hx hx, own_gM_assoc _ _ _ hw hi (own_gM_lt x x hx)]
  show own_gM w (own_gM (own_gInv (own_gQ x)) (own_gQ x)) = w
  rw [own_gInv_mul _ hq (own_gQ_ne x hx h0), own_gM_1 w hw]

/-- a block of two longs as a number -/
def own_pk (hi lo : Int64) : Nat := hi.toBitVec.toNat * 2 ^ 64 + lo.toBitVec.toNat
theorem own_pk_bit (hi lo : Int64) (j : Nat) : (own_pk hi lo).testBit j = if j < 64 then lo.toBitVec.getLsbD j else hi.toBitVec.getLsbD (j - 64) := by
  have h := lo.toBitVec.isLt
  rw [own_pk, Nat.mul_comm, Nat.testBit_two_pow_mul_add _ h]
  rfl
theorem own_pk_lt (hi lo : Int64) : own_pk hi lo < 2 ^ 128 := by
  have h1 := lo.toBitVec.isLt
  have h2 := hi.toBitVec.isLt
  unfold own_pk
  omega
theorem own_pk_inj {a b c d : Int64} (h : own_pk a b = own_pk c d) : a = c ∧ b = d := by
  have h1 := b.toBitVec.isLt
  have h2 := d.toBitVec.isLt
  unfold own_pk at h
  constructor
  · exact Int64.toBitVec_inj.mp (BitVec.eq_of_toNat_eq (by omega))
  · exact Int64.toBitVec_inj.mp (BitVec.eq_of_toNat_eq (by omega))
theorem own_pk_xor (a b c d : Int64) : own_pk (a ^^^ c) (b ^^^ d) = own_pk a b ^^^ own_pk c d := by
  apply Nat.eq_of_testBit_eq
  intro j
  rw [Nat.testBit_xor, own_pk_bit, own_pk_bit, own_pk_bit]
  split <;> simp [Int64.toBitVec_xor]
theorem own_pk_0 : own_pk 0 0 = 0 := by decide
/-- the mask of one bit: all ones, or zero -/
theorem own_take (x : Int64) (j : Int32) (k : Nat) (h : own_idx j k) (hk : k < 64) : -((own_Lushr x j) &&& (1 : Int64)) = if x.toBitVec.getLsbD k then -1 else 0 := by
  rw [own_bit1 x j k h hk]; split <;> rfl
theorem own_and_m (x : Int64) (b : Bool) : x &&& (if b then (-1 : Int64) else 0) = if b then x else 0 := by
  cases b
  · simp
  · apply Int64.toBitVec_inj.mp
    simp only [if_true, Int64.toBitVec_and]
    rw [show (-1 : Int64).toBitVec = BitVec.allOnes 64 by decide, BitVec.and_allOnes]
theorem own_add_step (ph pl vh vl bits : Int64) (j : Int32) (k : Nat) (h : own_idx j k) (hk : k < 64) :
    own_pk (ph ^^^ (vh &&& (-((own_Lushr bits j) &&& (1 : Int64))))) (pl ^^^ (vl &&& (-((own_Lushr bits j) &&& (1 : Int64))))) = own_pk ph pl ^^^ (if bits.toBitVec.toNat.testBit k then own_pk vh vl else 0) := by
  rw [own_take bits j k h hk, own_and_m, own_and_m, own_pk_xor]
  have e : bits.toBitVec.toNat.testBit k = bits.toBitVec.getLsbD k := rfl
  rw [e]
  cases bits.toBitVec.getLsbD k
  · simp [own_pk_0]
  · simp
theorem own_shift_step (vh vl : Int64) :
    own_pk ((own_Lushr vh 1) ^^^ ((-2233785415175766016 : Int64) &&& (-(vl &&& (1 : Int64))))) ((own_Lushr vl 1) ||| (own_Lshl vh 63)) = own_gT (own_pk vh vl) := by
  have e1 : -(vl &&& (1 : Int64)) = if vl.toBitVec.getLsbD 0 then -1 else 0 := by
    have := own_take vl 0 0 ⟨by decide, by decide⟩ (by decide)
    have e0 : own_Lushr vl 0 = vl := by
      apply Int64.toBitVec_inj.mp
      rw [own_Lushr_bv vl 0 0 (by decide)]; simp
    rwa [e0] at this
  rw [e1, own_and_m, own_gT]
  have eb : (own_pk vh vl).testBit 0 = vl.toBitVec.getLsbD 0 := by rw [own_pk_bit]; rfl
  rw [eb]
  apply Nat.eq_of_testBit_eq
  intro j
  rw [own_pk_bit, Nat.testBit_xor, Nat.testBit_shiftRight, own_pk_bit, Int64.toBitVec_or, Int64.toBitVec_xor, own_Lushr_bv vl 1 1 (by decide), own_Lushr_bv vh 1 1 (by decide), own_Lshl_bv vh 63 63 (by decide)]
  have hR : ∀ i, (if vl.toBitVec.getLsbD 0 = true then (299076299051606071403356588563077529600 : Nat) else 0).testBit i = if i < 64 then false else (if vl.toBitVec.getLsbD 0 = true then (-2233785415175766016 : Int64) else 0).toBitVec.getLsbD (i - 64) := by
    intro i
    have hp : (299076299051606071403356588563077529600 : Nat) = own_pk (-2233785415175766016) 0 := by decide
    cases vl.toBitVec.getLsbD 0
    · simp
    · simp only [if_true]; rw [hp, own_pk_bit]; split <;> simp
  rw [hR]
  by_cases h1 : j < 63
  · simp [h1, show j < 64 by omega, show 1 + j < 64 by omega, BitVec.getLsbD_shiftLeft, BitVec.getLsbD_ushiftRight]
  · by_cases h2 : j = 63
    · subst h2
      have : vl.toBitVec.getLsbD 64 = false := BitVec.getLsbD_of_ge _ _ (by omega)
      simp [BitVec.getLsbD_shiftLeft, BitVec.getLsbD_ushiftRight, this]
    · have e2 : 1 + j - 64 = 1 + (j - 64) := by omega
      simp [show ¬ j < 64 by omega, show ¬ 1 + j < 64 by omega, BitVec.getLsbD_ushiftRight, e2]
/-- the turns over one half of the first factor -/
def own_gW (b : Nat) : Nat → Nat × Nat → Nat × Nat
  | 0, s => s
  | n + 1, s => own_gW b n (s.1 ^^^ (if b.testBit n then s.2 else 0), own_gT s.2)
theorem own_gW_s (b n p q : Nat) : own_gW b (n + 1) (p, q) = own_gW b n (p ^^^ (if b.testBit n then q else 0), own_gT q) := rfl
theorem own_gW_lo (x : Nat) (hi lo : Int64) (hx : x = own_pk hi lo) : ∀ n acc v, n ≤ 64 → (own_gW lo.toBitVec.toNat n (acc, v)).1 = own_gL x n acc v := by
  intro n
  induction n with
  | zero => intros; rfl
  | succ n ih =>
    intro acc v hn
    rw [own_gW, own_gL, ih _ _ (by omega), hx, own_pk_bit, if_pos (show n < 64 by omega)]
    rfl
theorem own_gW_hi (x : Nat) (hi lo : Int64) (hx : x = own_pk hi lo) : ∀ n acc v, n ≤ 64 → own_gL x (64 + n) acc v = own_gL x 64 (own_gW hi.toBitVec.toNat n (acc, v)).1 (own_gW hi.toBitVec.toNat n (acc, v)).2 := by
  intro n
  induction n with
  | zero => intros; rfl
  | succ n ih =>
    intro acc v hn
    rw [show 64 + (n + 1) = (64 + n) + 1 by omega, own_gL, ih _ _ (by omega), hx, own_pk_bit, if_neg (show ¬ 64 + n < 64 by omega), show 64 + n - 64 = n by omega]
    rfl
theorem own_gW_mul (xh xl : Int64) (y : Nat) : (own_gW xl.toBitVec.toNat 64 (own_gW xh.toBitVec.toNat 64 (0, y))).1 = own_gM (own_pk xh xl) y := by
  rw [own_gM_L, show (128 : Nat) = 64 + 64 by decide, own_gW_hi _ xh xl rfl 64 0 y (by omega), ← own_gW_lo _ xh xl rfl 64 _ _ (by omega)]
/-- counting down -/
def own_dn (n : Nat) : Int32 := Int32.ofNat n + (-1 : Int32)
theorem own_dn_lt (n : Nat) (hn : n ≤ 64) : own_dn n < (0 : Int32) ↔ n = 0 := by
  have h1 := c_iadd (Int32.ofNat n) (-1)
  have h2 := rng32 (Int32.ofNat n + (-1))
  have h3 : (Int32.ofNat n).toInt = n := Int32.toInt_ofNat_of_lt (by omega)
  have h4 : (-1 : Int32).toInt = -1 := by decide
  rw [own_dn, Int32.lt_iff_toInt_lt, show (0 : Int32).toInt = 0 by decide]
  omega
theorem own_dn_idx (n : Nat) (hn : n < 64) : own_idx (own_dn (n + 1)) n := by
  have h1 := c_iadd (Int32.ofNat (n + 1)) (-1)
  have h2 := rng32 (Int32.ofNat (n + 1) + (-1))
  have h3 : (Int32.ofNat (n + 1)).toInt = (n + 1 : Nat) := Int32.toInt_ofNat_of_lt (by omega)
  have h4 : (-1 : Int32).toInt = -1 := by decide
  rw [own_dn, own_idx_iff]
  omega
theorem own_dn_succ (n : Nat) (hn : n < 64) : own_dn (n + 1) + (-1 : Int32) = own_dn n := by
  rw [own_dn, own_dn, ← own_succ n, Int32.add_assoc, Int32.add_assoc, ← Int32.add_assoc 1]
  rfl
def own_clean (a b : Slot) : Prop := (a = .unset ∧ b = .unset) ∨ ∃ w : Int64, a = .val (.long w) ∧ b = .second
/-- the i-th byte of a long, the highest first -/
def own_bt (x : Int64) (i : Nat) : Int32 := (Int64.ofBitVec (x.toBitVec >>> (56 - 8 * i))).toInt32.toInt8.toInt32
/-- a block's bytes -/
def own_b16 (hi lo : Int64) (j : Nat) : Value := if j < 8 then .int (own_bt hi j) else .int (own_bt lo (j - 8))
theorem own_bt8 (x : Int64) (q : Int32) (i : Nat) (hi : i < 8) (h : q.toBitVec.toNat % 64 = 56 - 8 * i) : (own_Lushr x q).toInt32.toInt8.toInt32.toInt8.toInt32 = own_bt x i := by
  rw [own_b8, own_sh x q _ h]; rfl
theorem own_bt7 (x : Int64) : x.toInt32.toInt8.toInt32.toInt8.toInt32 = own_bt x 7 := by
  rw [own_b8, own_bt]; simp
theorem own_b16_be (hi lo : Int64) : own_be (own_bt hi) 8 = hi ∧ own_be (own_bt lo) 8 = lo := ⟨own_be_eq _ hi (fun _ _ => rfl), own_be_eq _ lo (fun _ _ => rfl)⟩
/-- eight bytes put together by shifts -/
theorem own_get8 (x : Int64) : (((((((own_Lshl ((own_bt x 0 &&& 255).toInt64) 56) ||| (own_Lshl ((own_bt x 1 &&& 255).toInt64) 48)) ||| (own_Lshl ((own_bt x 2 &&& 255).toInt64) 40)) ||| (own_Lshl ((own_bt x 3 &&& 255).toInt64) 32)) ||| (own_Lshl ((own_bt x 4 &&& 255).toInt64) 24)) ||| (own_Lshl ((own_bt x 5 &&& 255).toInt64) 16)) ||| (own_Lshl ((own_bt x 6 &&& 255).toInt64) 8)) ||| (own_bt x 7 &&& 255).toInt64 = x := by
  have hb : ∀ i, ((own_bt x i &&& 255).toInt64).toBitVec = (x.toBitVec >>> (56 - 8 * i)) &&& 255#64 := fun i => own_bb _
  have step : ∀ s : Nat, (x.toBitVec >>> (s + 8)) <<< (s + 8) ||| ((x.toBitVec >>> s) &&& 255#64) <<< s = (x.toBitVec >>> s) <<< s := by
    intro s
    have g := own_glue (x.toBitVec >>> s)
    have := congrArg (fun z : BitVec 64 => z <<< s) g
    simp only [BitVec.shiftLeft_or_distrib] at this
    rw [← BitVec.shiftRight_add, ← BitVec.shiftLeft_add, Nat.add_comm 8 s] at this
    exact this
  apply Int64.toBitVec_inj.mp
  simp only [Int64.toBitVec_or, own_Lshl_bv _ 56 56 (by decide), own_Lshl_bv _ 48 48 (by decide), own_Lshl_bv _ 40 40 (by decide), own_Lshl_bv _ 32 32 (by decide), own_Lshl_bv _ 24 24 (by decide), own_Lshl_bv _ 16 16 (by decide), own_Lshl_bv _ 8 8 (by decide), hb]
  have s0 : ((x.toBitVec >>> (56 - 8 * 0)) &&& 255#64) <<< 56 = (x.toBitVec >>> 56) <<< 56 := by
    have := step 56
    rwa [show x.toBitVec >>> (56 + 8) = 0#64 from BitVec.eq_of_getLsbD_eq (fun i hi => by rw [BitVec.getLsbD_ushiftRight, BitVec.getLsbD_of_ge _ _ (by omega)]; simp), show (0#64 : BitVec 64) <<< (56 + 8) = 0#64 by decide, BitVec.zero_or] at this
  rw [s0, show 56 - 8 * 1 = 48 by decide, step 48, show 56 - 8 * 2 = 40 by decide, step 40, show 56 - 8 * 3 = 32 by decide, step 32, show 56 - 8 * 4 = 24 by decide, step 24, show 56 - 8 * 5 = 16 by decide, step 16, show 56 - 8 * 6 = 8 by decide, step 8]
  have := step 0
  simpa using this

def own_b16i (hi lo : Int64) (i j : Nat) : Value := if j < i then .int (own_bt hi j) else if 8 ≤ j ∧ j < i + 8 then .int (own_bt lo (j - 8)) else .int 0
theorem own_hsh (i : Nat) (h : i < 8) : ((56 : Int32) - ((8 : Int32) * (Int32.ofNat i))).toBitVec.toNat % 64 = 56 - 8 * i :=
  (by decide +kernel : ∀ i : Fin 8, ((56 : Int32) - ((8 : Int32) * (Int32.ofNat i.val))).toBitVec.toNat % 64 = 56 - 8 * i.val) ⟨i, h⟩
theorem own_z16d (j : Nat) : (List.replicate 16 (Value.int 0)).getD j (.int 0) = .int 0 := by
  rw [List.getD_eq_getElem?_getD]
  rcases h : (List.replicate 16 (Value.int 0))[j]? with _ | v
  · rfl
  · exact List.eq_of_mem_replicate (List.mem_of_getElem? h)
theorem own_b16i_0 (hi lo : Int64) (j : Nat) (hj : j < 16) : ([(.int (0 : Int32)), (.int (0 : Int32)), (.int (0 : Int32)), (.int (0 : Int32)), (.int (0 : Int32)), (.int (0 : Int32)), (.int (0 : Int32)), (.int (0 : Int32)), (.int (0 : Int32)), (.int (0 : Int32)), (.int (0 : Int32)), (.int (0 : Int32)), (.int (0 : Int32)), (.int (0 : Int32)), (.int (0 : Int32)), (.int (0 : Int32))] : List Value).getD j (.int 0) = own_b16i hi lo 0 j := by
  rw [own_b16i, if_neg (by omega), if_neg (by omega)]
  exact own_z16d j
theorem own_b16i_8 (hi lo : Int64) (j : Nat) (hj : j < 16) : own_b16i hi lo 8 j = own_b16 hi lo j := by
  simp only [own_b16i, own_b16]
  by_cases h : j < 8
  · rw [if_pos h, if_pos h]
  · rw [if_neg h, if_pos (by omega), if_neg h]
theorem own_b16i_up (hi lo : Int64) (i j : Nat) (hi8 : i < 8) (hj : j < 16) : own_up (own_up (own_b16i hi lo i) i (.int (own_bt hi i))) (i + 8) (.int (own_bt lo i)) j = own_b16i hi lo (i + 1) j := by
  simp only [own_up, own_b16i]
  by_cases h1 : j = i + 8
  · rw [if_pos h1, if_neg (by omega), if_pos (by omega), show j - 8 = i by omega]
  · rw [if_neg h1]
    by_cases h2 : j = i
    · rw [if_pos h2, if_pos (by omega), h2]
    · rw [if_neg h2]
      by_cases h3 : j < i
      · rw [if_pos h3, if_pos (by omega)]
      · rw [if_neg h3, if_neg (show ¬ j < i + 1 by omega)]
        by_cases h4 : 8 ≤ j ∧ j < i + 8
        · rw [if_pos h4, if_pos (by omega)]
        · rw [if_neg h4, if_neg (by omega)]

/-- a block with one half written -/
def own_p8 (g : Nat → Value) (k : Nat) (x : Int64) (j : Nat) : Value := if k ≤ j ∧ j < k + 8 then .int (own_bt x (j - k)) else g j
theorem own_p16 (g : Nat → Value) (hi lo : Int64) (j : Nat) (hj : j < 16) : own_p8 (own_p8 g 0 hi) 8 lo j = own_b16 hi lo j := by
  simp only [own_p8, own_b16]
  by_cases h : j < 8
  · rw [if_neg (by omega), if_pos (by omega), if_pos h]; rfl
  · rw [if_pos (by omega), if_neg h]
theorem own_nz {z : Int32} (h : z = 0 ∨ z = 1) : narrow .boolean (.int z) = .int z := by rcases h with rfl | rfl <;> rfl
theorem own_fz {z : Int32} (h : z = 0 ∨ z = 1) : fits .boolean (.int z) = true := by rcases h with rfl | rfl <;> rfl
theorem own_xx (a m : Nat) : (a ^^^ m) ^^^ m = a := by rw [Nat.xor_assoc, Nat.xor_self, Nat.xor_zero]
theorem own_gM_0 (y : Nat) : own_gM 0 y = 0 := own_gS_0X y 128

theorem own_put8 (g : Nat → Value) (k : Nat) (q : Int64) (j : Nat) : (own_up (own_up (own_up (own_up (own_up (own_up (own_up (own_up g k (.int (own_bt q 0))) (k + 1) (.int (own_bt q 1))) (k + 2) (.int (own_bt q 2))) (k + 3) (.int (own_bt q 3))) (k + 4) (.int (own_bt q 4))) (k + 5) (.int (own_bt q 5))) (k + 6) (.int (own_bt q 6))) (k + 7) (.int (own_bt q 7))) j = own_p8 g k q j := by
  simp only [own_up, own_p8]
  by_cases h7 : j = k + 7
  · rw [if_pos h7, if_pos (by omega), show j - k = 7 by omega]
  · skip
    by_cases h6 : j = k + 6
    · rw [if_neg h7, if_pos h6, if_pos (by omega), show j - k = 6 by omega]
    · skip
      by_cases h5 : j = k + 5
      · rw [if_neg h7, if_neg h6, if_pos h5, if_pos (by omega), show j - k = 5 by omega]
      · skip
        by_cases h4 : j = k + 4
        · rw [if_neg h7, if_neg h6, if_neg h5, if_pos h4, if_pos (by omega), show j - k = 4 by omega]
        · skip
          by_cases h3 : j = k + 3
          · rw [if_neg h7, if_neg h6, if_neg h5, if_neg h4, if_pos h3, if_pos (by omega), show j - k = 3 by omega]
          · skip
            by_cases h2 : j = k + 2
            · rw [if_neg h7, if_neg h6, if_neg h5, if_neg h4, if_neg h3, if_pos h2, if_pos (by omega), show j - k = 2 by omega]
            · skip
              by_cases h1 : j = k + 1
              · rw [if_neg h7, if_neg h6, if_neg h5, if_neg h4, if_neg h3, if_neg h2, if_pos h1, if_pos (by omega), show j - k = 1 by omega]
              · skip
                by_cases h0 : j = k + 0
                · rw [if_neg h7, if_neg h6, if_neg h5, if_neg h4, if_neg h3, if_neg h2, if_neg h1, if_pos (by omega), if_pos (by omega), show j - k = 0 by omega]
                · skip
                  rw [if_neg h7, if_neg h6, if_neg h5, if_neg h4, if_neg h3, if_neg h2, if_neg h1, if_neg (by omega), if_neg (by omega)]

theorem own_blocks (ln : Int64) : (((ln + (16 : Int64)) - (1 : Int64)) / (16 : Int64)).toInt < 2 ^ 60 := by
  have h := rng64 ((ln + 16) - 1)
  have h1 := c_ldiv ((ln + 16) - 1) 16 16 (by decide) (by decide)
  by_cases h0 : 0 ≤ ((ln + (16 : Int64)) - (1 : Int64)).toInt
  · rw [h1.1 h0]; omega
  · rw [h1.2 (by omega)]; omega
def own_ns_Gh : List (String × String) := [("subkeyHigh", "J"), ("subkeyLow", "J"), ("ivLengthTerm", "[J"), ("ended", "Z"), ("length", "J"), ("sumHigh", "J"), ("sumLow", "J"), ("termLength", "J"), ("lengthTerm", "[J"), ("power", "[J")]
theorem own_laid_Gh {Z : State} {a0 : Array Value} (hw : ∀ d ∈ tables_1, d.before a0 Z = true) : own_Laid Z a0 "com/example/libcachet/libcachet/Ghash" own_ns_Gh := by
  refine ⟨?_, by decide +kernel⟩
  intro q hq
  simp only [own_ns_Gh, List.mem_cons, List.not_mem_nil, or_false] at hq
  rcases hq with rfl | rfl | rfl | rfl | rfl | rfl | rfl | rfl | rfl | rfl
  · exact ⟨Or.inr (hw _ (List.mem_of_getElem? (i := 19) rfl)), .long, by decide +kernel⟩
  · exact ⟨Or.inr (hw _ (List.mem_of_getElem? (i := 21) rfl)), .long, by decide +kernel⟩
  · exact ⟨Or.inr (hw _ (List.mem_of_getElem? (i := 29) rfl)), (.array .long), by decide +kernel⟩
  · exact ⟨Or.inl (hw _ (List.mem_of_getElem? (i := 36) rfl)), .boolean, by decide +kernel⟩
  · exact ⟨Or.inl (hw _ (List.mem_of_getElem? (i := 43) rfl)), .long, by decide +kernel⟩
  · exact ⟨Or.inl (hw _ (List.mem_of_getElem? (i := 46) rfl)), .long, by decide +kernel⟩
  · exact ⟨Or.inl (hw _ (List.mem_of_getElem? (i := 48) rfl)), .long, by decide +kernel⟩
  · exact ⟨Or.inl (hw _ (List.mem_of_getElem? (i := 56) rfl)), .long, by decide +kernel⟩
  · exact ⟨Or.inl (hw _ (List.mem_of_getElem? (i := 58) rfl)), (.array .long), by decide +kernel⟩
  · exact ⟨Or.inl (hw _ (List.mem_of_getElem? (i := 66) rfl)), (.array .long), by decide +kernel⟩
theorem own_d_prog_70_method_9_code_0 : own_lk prog_70_method_9_code 0 0 1 := ⟨0, by decide +kernel, by decide, rfl⟩
theorem own_d_prog_70_method_9_code_1 : own_sl prog_70_method_9_code 1 2 2 := Or.inl ⟨2, by decide +kernel, rfl, rfl⟩
theorem own_d_prog_70_method_9_code_2 : own_ik prog_70_method_9_code 2 0 3 := ⟨0, Or.inl ⟨by decide +kernel, by decide, rfl⟩⟩
theorem own_d_prog_70_method_9_code_3 : own_si prog_70_method_9_code 3 4 5 := Or.inr ⟨by decide +kernel, rfl⟩
theorem own_d_prog_70_method_9_code_5 : own_il prog_70_method_9_code 5 4 7 := Or.inr ⟨by decide +kernel, rfl⟩
theorem own_d_prog_70_method_9_code_7 : own_ik prog_70_method_9_code 7 8 9 := ⟨8, Or.inr (Or.inl ⟨by decide +kernel, by decide, rfl⟩)⟩
theorem own_d_prog_70_method_9_code_9 : own_icm prog_70_method_9_code 9 .ge 12 35 := ⟨26, by decide +kernel, rfl, by decide, by decide⟩
theorem own_d_prog_70_method_9_code_35 : own_ll prog_70_method_9_code 35 2 36 := Or.inl ⟨2, by decide +kernel, rfl, rfl⟩
theorem own_d_prog_70_method_9_code_36 : own_ix prog_70_method_9_code 36 .lreturn 1 37 := ⟨by decide +kernel, rfl⟩
theorem own_d_prog_70_method_9_code_12 : own_ll prog_70_method_9_code 12 2 13 := Or.inl ⟨2, by decide +kernel, rfl, rfl⟩
theorem own_d_prog_70_method_9_code_13 : own_ik prog_70_method_9_code 13 8 15 := ⟨8, Or.inr (Or.inl ⟨by decide +kernel, by decide, rfl⟩)⟩
theorem own_d_prog_70_method_9_code_15 : own_ix prog_70_method_9_code 15 .lshl 1 16 := ⟨by decide +kernel, rfl⟩
theorem own_d_prog_70_method_9_code_16 : own_al prog_70_method_9_code 16 0 17 := Or.inl ⟨0, by decide +kernel, rfl, rfl⟩
theorem own_d_prog_70_method_9_code_17 : own_il prog_70_method_9_code 17 1 18 := Or.inl ⟨1, by decide +kernel, rfl, rfl⟩
theorem own_d_prog_70_method_9_code_18 : own_il prog_70_method_9_code 18 4 20 := Or.inr ⟨by decide +kernel, rfl⟩
theorem own_d_prog_70_method_9_code_20 : own_ix prog_70_method_9_code 20 .iadd 1 21 := ⟨by decide +kernel, rfl⟩
theorem own_d_prog_70_method_9_code_21 : own_ix prog_70_method_9_code 21 .baload 1 22 := ⟨by decide +kernel, rfl⟩
theorem own_d_prog_70_method_9_code_22 : own_ik prog_70_method_9_code 22 255 25 := ⟨255, Or.inr (Or.inr ⟨by decide +kernel, by decide, rfl⟩)⟩
theorem own_d_prog_70_method_9_code_25 : own_ix prog_70_method_9_code 25 .iand 1 26 := ⟨by decide +kernel, rfl⟩
theorem own_d_prog_70_method_9_code_26 : own_ix prog_70_method_9_code 26 .i2l 1 27 := ⟨by decide +kernel, rfl⟩
theorem own_d_prog_70_method_9_code_27 : own_ix prog_70_method_9_code 27 .lor 1 28 := ⟨by decide +kernel, rfl⟩
theorem own_d_prog_70_method_9_code_28 : own_sl prog_70_method_9_code 28 2 29 := Or.inl ⟨2, by decide +kernel, rfl, rfl⟩
theorem own_d_prog_70_method_9_code_29 : own_ii prog_70_method_9_code 29 4 1 32 := ⟨1, by decide +kernel, by decide, rfl⟩
theorem own_d_prog_70_method_9_code_32 : own_gt prog_70_method_9_code 32 5 := ⟨(-27), by decide +kernel, by decide, by decide⟩
theorem own_pn_com_example_libcachet_libcachet_Ghash : plainName "com/example/libcachet/libcachet/Ghash" = true := by first | (simp [plainName, overriddenIn]; done) | decide +kernel
theorem own_d_prog_70_method_8_code_39 : own_il prog_70_method_8_code 39 19 41 := Or.inr ⟨by decide +kernel, rfl⟩
theorem own_d_prog_70_method_8_code_41 : own_ifc prog_70_method_8_code 41 .lt 44 112 := ⟨71, by decide +kernel, rfl, by decide, by decide⟩
theorem own_d_prog_70_method_8_code_44 : own_ll prog_70_method_8_code 44 17 46 := Or.inr ⟨by decide +kernel, rfl⟩
theorem own_d_prog_70_method_8_code_46 : own_il prog_70_method_8_code 46 19 48 := Or.inr ⟨by decide +kernel, rfl⟩
theorem own_d_prog_70_method_8_code_48 : own_ix prog_70_method_8_code 48 .lushr 1 49 := ⟨by decide +kernel, rfl⟩
theorem own_d_prog_70_method_8_code_49 : own_lk prog_70_method_8_code 49 1 50 := ⟨1, by decide +kernel, by decide, rfl⟩
theorem own_d_prog_70_method_8_code_50 : own_ix prog_70_method_8_code 50 .land 1 51 := ⟨by decide +kernel, rfl⟩
theorem own_d_prog_70_method_8_code_51 : own_ix prog_70_method_8_code 51 .lneg 1 52 := ⟨by decide +kernel, rfl⟩
theorem own_d_prog_70_method_8_code_52 : own_sl prog_70_method_8_code 52 20 54 := Or.inr ⟨by decide +kernel, rfl⟩
theorem own_d_prog_70_method_8_code_54 : own_ll prog_70_method_8_code 54 8 56 := Or.inr ⟨by decide +kernel, rfl⟩
theorem own_d_prog_70_method_8_code_56 : own_ll prog_70_method_8_code 56 12 58 := Or.inr ⟨by decide +kernel, rfl⟩
theorem own_d_prog_70_method_8_code_58 : own_ll prog_70_method_8_code 58 20 60 := Or.inr ⟨by decide +kernel, rfl⟩
theorem own_d_prog_70_method_8_code_60 : own_ix prog_70_method_8_code 60 .land 1 61 := ⟨by decide +kernel, rfl⟩
theorem own_d_prog_70_method_8_code_61 : own_ix prog_70_method_8_code 61 .lxor 1 62 := ⟨by decide +kernel, rfl⟩
theorem own_d_prog_70_method_8_code_62 : own_sl prog_70_method_8_code 62 8 64 := Or.inr ⟨by decide +kernel, rfl⟩
theorem own_d_prog_70_method_8_code_64 : own_ll prog_70_method_8_code 64 10 66 := Or.inr ⟨by decide +kernel, rfl⟩
theorem own_d_prog_70_method_8_code_66 : own_ll prog_70_method_8_code 66 14 68 := Or.inr ⟨by decide +kernel, rfl⟩
theorem own_d_prog_70_method_8_code_68 : own_ll prog_70_method_8_code 68 20 70 := Or.inr ⟨by decide +kernel, rfl⟩
theorem own_d_prog_70_method_8_code_70 : own_ix prog_70_method_8_code 70 .land 1 71 := ⟨by decide +kernel, rfl⟩
theorem own_d_prog_70_method_8_code_71 : own_ix prog_70_method_8_code 71 .lxor 1 72 := ⟨by decide +kernel, rfl⟩
theorem own_d_prog_70_method_8_code_72 : own_sl prog_70_method_8_code 72 10 74 := Or.inr ⟨by decide +kernel, rfl⟩
theorem own_d_prog_70_method_8_code_74 : own_ll prog_70_method_8_code 74 14 76 := Or.inr ⟨by decide +kernel, rfl⟩
theorem own_d_prog_70_method_8_code_76 : own_lk prog_70_method_8_code 76 1 77 := ⟨1, by decide +kernel, by decide, rfl⟩
theorem own_d_prog_70_method_8_code_77 : own_ix prog_70_method_8_code 77 .land 1 78 := ⟨by decide +kernel, rfl⟩
theorem own_d_prog_70_method_8_code_78 : own_ix prog_70_method_8_code 78 .lneg 1 79 := ⟨by decide +kernel, rfl⟩
theorem own_d_prog_70_method_8_code_79 : own_sl prog_70_method_8_code 79 22 81 := Or.inr ⟨by decide +kernel, rfl⟩
theorem own_d_prog_70_method_8_code_81 : own_ll prog_70_method_8_code 81 14 83 := Or.inr ⟨by decide +kernel, rfl⟩
theorem own_d_prog_70_method_8_code_83 : own_ik prog_70_method_8_code 83 1 84 := ⟨1, Or.inl ⟨by decide +kernel, by decide, rfl⟩⟩
theorem own_d_prog_70_method_8_code_84 : own_ix prog_70_method_8_code 84 .lushr 1 85 := ⟨by decide +kernel, rfl⟩
theorem own_d_prog_70_method_8_code_85 : own_ll prog_70_method_8_code 85 12 87 := Or.inr ⟨by decide +kernel, rfl⟩
theorem own_d_prog_70_method_8_code_87 : own_ik prog_70_method_8_code 87 63 89 := ⟨63, Or.inr (Or.inl ⟨by decide +kernel, by decide, rfl⟩)⟩
theorem own_d_prog_70_method_8_code_89 : own_ix prog_70_method_8_code 89 .lshl 1 90 := ⟨by decide +kernel, rfl⟩
theorem own_d_prog_70_method_8_code_90 : own_ix prog_70_method_8_code 90 .lor 1 91 := ⟨by decide +kernel, rfl⟩
theorem own_d_prog_70_method_8_code_91 : own_sl prog_70_method_8_code 91 14 93 := Or.inr ⟨by decide +kernel, rfl⟩
theorem own_d_prog_70_method_8_code_93 : own_ll prog_70_method_8_code 93 12 95 := Or.inr ⟨by decide +kernel, rfl⟩
theorem own_d_prog_70_method_8_code_95 : own_ik prog_70_method_8_code 95 1 96 := ⟨1, Or.inl ⟨by decide +kernel, by decide, rfl⟩⟩
theorem own_d_prog_70_method_8_code_96 : own_ix prog_70_method_8_code 96 .lushr 1 97 := ⟨by decide +kernel, rfl⟩
theorem own_d_prog_70_method_8_code_97 : own_ix prog_70_method_8_code 97 (.ldc2_w 81) 3 100 := ⟨by decide +kernel, rfl⟩
theorem own_d_prog_70_method_8_code_100 : own_ll prog_70_method_8_code 100 22 102 := Or.inr ⟨by decide +kernel, rfl⟩
theorem own_d_prog_70_method_8_code_102 : own_ix prog_70_method_8_code 102 .land 1 103 := ⟨by decide +kernel, rfl⟩
theorem own_d_prog_70_method_8_code_103 : own_ix prog_70_method_8_code 103 .lxor 1 104 := ⟨by decide +kernel, rfl⟩
theorem own_d_prog_70_method_8_code_104 : own_sl prog_70_method_8_code 104 12 106 := Or.inr ⟨by decide +kernel, rfl⟩
theorem own_d_prog_70_method_8_code_106 : own_ii prog_70_method_8_code 106 19 (-1) 109 := ⟨(-1), by decide +kernel, by decide, rfl⟩
theorem own_d_prog_70_method_8_code_109 : own_gt prog_70_method_8_code 109 39 := ⟨(-70), by decide +kernel, by decide, by decide⟩
theorem own_d_prog_70_method_8_code_0 : own_lk prog_70_method_8_code 0 0 1 := ⟨0, by decide +kernel, by decide, rfl⟩
theorem own_d_prog_70_method_8_code_1 : own_sl prog_70_method_8_code 1 8 3 := Or.inr ⟨by decide +kernel, rfl⟩
theorem own_d_prog_70_method_8_code_3 : own_lk prog_70_method_8_code 3 0 4 := ⟨0, by decide +kernel, by decide, rfl⟩
theorem own_d_prog_70_method_8_code_4 : own_sl prog_70_method_8_code 4 10 6 := Or.inr ⟨by decide +kernel, rfl⟩
theorem own_d_prog_70_method_8_code_6 : own_ll prog_70_method_8_code 6 4 8 := Or.inr ⟨by decide +kernel, rfl⟩
theorem own_d_prog_70_method_8_code_8 : own_sl prog_70_method_8_code 8 12 10 := Or.inr ⟨by decide +kernel, rfl⟩
theorem own_d_prog_70_method_8_code_10 : own_ll prog_70_method_8_code 10 6 12 := Or.inr ⟨by decide +kernel, rfl⟩
theorem own_d_prog_70_method_8_code_12 : own_sl prog_70_method_8_code 12 14 14 := Or.inr ⟨by decide +kernel, rfl⟩
theorem own_d_prog_70_method_8_code_14 : own_ik prog_70_method_8_code 14 0 15 := ⟨0, Or.inl ⟨by decide +kernel, by decide, rfl⟩⟩
theorem own_d_prog_70_method_8_code_15 : own_si prog_70_method_8_code 15 16 17 := Or.inr ⟨by decide +kernel, rfl⟩
theorem own_d_prog_70_method_8_code_17 : own_il prog_70_method_8_code 17 16 19 := Or.inr ⟨by decide +kernel, rfl⟩
theorem own_d_prog_70_method_8_code_19 : own_ik prog_70_method_8_code 19 2 20 := ⟨2, Or.inl ⟨by decide +kernel, by decide, rfl⟩⟩
theorem own_d_prog_70_method_8_code_20 : own_icm prog_70_method_8_code 20 .ge 23 118 := ⟨98, by decide +kernel, rfl, by decide, by decide⟩
theorem own_d_prog_70_method_8_code_23 : own_il prog_70_method_8_code 23 16 25 := Or.inr ⟨by decide +kernel, rfl⟩
theorem own_d_prog_70_method_8_code_25 : own_ifc prog_70_method_8_code 25 .ne 28 32 := ⟨7, by decide +kernel, rfl, by decide, by decide⟩
theorem own_d_prog_70_method_8_code_28 : own_ll prog_70_method_8_code 28 0 29 := Or.inl ⟨0, by decide +kernel, rfl, rfl⟩
theorem own_d_prog_70_method_8_code_29 : own_gt prog_70_method_8_code 29 33 := ⟨4, by decide +kernel, by decide, by decide⟩
theorem own_d_prog_70_method_8_code_33 : own_sl prog_70_method_8_code 33 17 35 := Or.inr ⟨by decide +kernel, rfl⟩
theorem own_d_prog_70_method_8_code_35 : own_ik prog_70_method_8_code 35 63 37 := ⟨63, Or.inr (Or.inl ⟨by decide +kernel, by decide, rfl⟩)⟩
theorem own_d_prog_70_method_8_code_37 : own_si prog_70_method_8_code 37 19 39 := Or.inr ⟨by decide +kernel, rfl⟩
theorem own_d_prog_70_method_8_code_112 : own_ii prog_70_method_8_code 112 16 1 115 := ⟨1, by decide +kernel, by decide, rfl⟩
theorem own_d_prog_70_method_8_code_115 : own_gt prog_70_method_8_code 115 17 := ⟨(-98), by decide +kernel, by decide, by decide⟩
theorem own_d_prog_70_method_8_code_32 : own_ll prog_70_method_8_code 32 2 33 := Or.inl ⟨2, by decide +kernel, rfl, rfl⟩
theorem own_d_prog_70_method_8_code_118 : own_ik prog_70_method_8_code 118 2 119 := ⟨2, Or.inl ⟨by decide +kernel, by decide, rfl⟩⟩
theorem own_d_prog_70_method_8_code_119 : own_ix prog_70_method_8_code 119 (.newarray .long) 2 121 := ⟨by decide +kernel, rfl⟩
theorem own_d_prog_70_method_8_code_121 : own_ix prog_70_method_8_code 121 .dup 1 122 := ⟨by decide +kernel, rfl⟩
theorem own_d_prog_70_method_8_code_122 : own_ik prog_70_method_8_code 122 0 123 := ⟨0, Or.inl ⟨by decide +kernel, by decide, rfl⟩⟩
theorem own_d_prog_70_method_8_code_123 : own_ll prog_70_method_8_code 123 8 125 := Or.inr ⟨by decide +kernel, rfl⟩
theorem own_d_prog_70_method_8_code_125 : own_ix prog_70_method_8_code 125 .lastore 1 126 := ⟨by decide +kernel, rfl⟩
theorem own_d_prog_70_method_8_code_126 : own_ix prog_70_method_8_code 126 .dup 1 127 := ⟨by decide +kernel, rfl⟩
theorem own_d_prog_70_method_8_code_127 : own_ik prog_70_method_8_code 127 1 128 := ⟨1, Or.inl ⟨by decide +kernel, by decide, rfl⟩⟩
theorem own_d_prog_70_method_8_code_128 : own_ll prog_70_method_8_code 128 10 130 := Or.inr ⟨by decide +kernel, rfl⟩
theorem own_d_prog_70_method_8_code_130 : own_ix prog_70_method_8_code 130 .lastore 1 131 := ⟨by decide +kernel, rfl⟩
theorem own_d_prog_70_method_8_code_131 : own_ix prog_70_method_8_code 131 .areturn 1 132 := ⟨by decide +kernel, rfl⟩
theorem own_d_prog_70_method_10_code_0 : own_ik prog_70_method_10_code 0 16 2 := ⟨16, Or.inr (Or.inl ⟨by decide +kernel, by decide, rfl⟩)⟩
theorem own_d_prog_70_method_10_code_2 : own_ix prog_70_method_10_code 2 (.newarray .byte) 2 4 := ⟨by decide +kernel, rfl⟩
theorem own_d_prog_70_method_10_code_4 : own_sa prog_70_method_10_code 4 4 6 := Or.inr ⟨by decide +kernel, rfl⟩
theorem own_d_prog_70_method_10_code_6 : own_ik prog_70_method_10_code 6 0 7 := ⟨0, Or.inl ⟨by decide +kernel, by decide, rfl⟩⟩
theorem own_d_prog_70_method_10_code_7 : own_si prog_70_method_10_code 7 5 9 := Or.inr ⟨by decide +kernel, rfl⟩
theorem own_d_prog_70_method_10_code_9 : own_il prog_70_method_10_code 9 5 11 := Or.inr ⟨by decide +kernel, rfl⟩
theorem own_d_prog_70_method_10_code_11 : own_ik prog_70_method_10_code 11 8 13 := ⟨8, Or.inr (Or.inl ⟨by decide +kernel, by decide, rfl⟩)⟩
theorem own_d_prog_70_method_10_code_13 : own_icm prog_70_method_10_code 13 .ge 16 59 := ⟨46, by decide +kernel, rfl, by decide, by decide⟩
theorem own_d_prog_70_method_10_code_59 : own_al prog_70_method_10_code 59 4 61 := Or.inr ⟨by decide +kernel, rfl⟩
theorem own_d_prog_70_method_10_code_61 : own_ix prog_70_method_10_code 61 .areturn 1 62 := ⟨by decide +kernel, rfl⟩
theorem own_d_prog_70_method_10_code_16 : own_al prog_70_method_10_code 16 4 18 := Or.inr ⟨by decide +kernel, rfl⟩
theorem own_d_prog_70_method_10_code_18 : own_il prog_70_method_10_code 18 5 20 := Or.inr ⟨by decide +kernel, rfl⟩
theorem own_d_prog_70_method_10_code_20 : own_ll prog_70_method_10_code 20 0 21 := Or.inl ⟨0, by decide +kernel, rfl, rfl⟩
theorem own_d_prog_70_method_10_code_21 : own_ik prog_70_method_10_code 21 56 23 := ⟨56, Or.inr (Or.inl ⟨by decide +kernel, by decide, rfl⟩)⟩
theorem own_d_prog_70_method_10_code_23 : own_ik prog_70_method_10_code 23 8 25 := ⟨8, Or.inr (Or.inl ⟨by decide +kernel, by decide, rfl⟩)⟩
theorem own_d_prog_70_method_10_code_25 : own_il prog_70_method_10_code 25 5 27 := Or.inr ⟨by decide +kernel, rfl⟩
theorem own_d_prog_70_method_10_code_27 : own_ix prog_70_method_10_code 27 .imul 1 28 := ⟨by decide +kernel, rfl⟩
theorem own_d_prog_70_method_10_code_28 : own_ix prog_70_method_10_code 28 .isub 1 29 := ⟨by decide +kernel, rfl⟩
theorem own_d_prog_70_method_10_code_29 : own_ix prog_70_method_10_code 29 .lushr 1 30 := ⟨by decide +kernel, rfl⟩
theorem own_d_prog_70_method_10_code_30 : own_ix prog_70_method_10_code 30 .l2i 1 31 := ⟨by decide +kernel, rfl⟩
theorem own_d_prog_70_method_10_code_31 : own_ix prog_70_method_10_code 31 .i2b 1 32 := ⟨by decide +kernel, rfl⟩
theorem own_d_prog_70_method_10_code_32 : own_ix prog_70_method_10_code 32 .bastore 1 33 := ⟨by decide +kernel, rfl⟩
theorem own_d_prog_70_method_10_code_33 : own_al prog_70_method_10_code 33 4 35 := Or.inr ⟨by decide +kernel, rfl⟩
theorem own_d_prog_70_method_10_code_35 : own_il prog_70_method_10_code 35 5 37 := Or.inr ⟨by decide +kernel, rfl⟩
theorem own_d_prog_70_method_10_code_37 : own_ik prog_70_method_10_code 37 8 39 := ⟨8, Or.inr (Or.inl ⟨by decide +kernel, by decide, rfl⟩)⟩
theorem own_d_prog_70_method_10_code_39 : own_ix prog_70_method_10_code 39 .iadd 1 40 := ⟨by decide +kernel, rfl⟩
theorem own_d_prog_70_method_10_code_40 : own_ll prog_70_method_10_code 40 2 41 := Or.inl ⟨2, by decide +kernel, rfl, rfl⟩
theorem own_d_prog_70_method_10_code_41 : own_ik prog_70_method_10_code 41 56 43 := ⟨56, Or.inr (Or.inl ⟨by decide +kernel, by decide, rfl⟩)⟩
theorem own_d_prog_70_method_10_code_43 : own_ik prog_70_method_10_code 43 8 45 := ⟨8, Or.inr (Or.inl ⟨by decide +kernel, by decide, rfl⟩)⟩
theorem own_d_prog_70_method_10_code_45 : own_il prog_70_method_10_code 45 5 47 := Or.inr ⟨by decide +kernel, rfl⟩
theorem own_d_prog_70_method_10_code_47 : own_ix prog_70_method_10_code 47 .imul 1 48 := ⟨by decide +kernel, rfl⟩
theorem own_d_prog_70_method_10_code_48 : own_ix prog_70_method_10_code 48 .isub 1 49 := ⟨by decide +kernel, rfl⟩
theorem own_d_prog_70_method_10_code_49 : own_ix prog_70_method_10_code 49 .lushr 1 50 := ⟨by decide +kernel, rfl⟩
theorem own_d_prog_70_method_10_code_50 : own_ix prog_70_method_10_code 50 .l2i 1 51 := ⟨by decide +kernel, rfl⟩
theorem own_d_prog_70_method_10_code_51 : own_ix prog_70_method_10_code 51 .i2b 1 52 := ⟨by decide +kernel, rfl⟩
theorem own_d_prog_70_method_10_code_52 : own_ix prog_70_method_10_code 52 .bastore 1 53 := ⟨by decide +kernel, rfl⟩
theorem own_d_prog_70_method_10_code_53 : own_ii prog_70_method_10_code 53 5 1 56 := ⟨1, by decide +kernel, by decide, rfl⟩
theorem own_d_prog_70_method_10_code_56 : own_gt prog_70_method_10_code 56 9 := ⟨(-47), by decide +kernel, by decide, by decide⟩
theorem own_d_method_4_code_0 : own_al method_4_code 0 0 1 := Or.inl ⟨0, by decide +kernel, rfl, rfl⟩
theorem own_d_method_4_code_1 : own_il method_4_code 1 1 2 := Or.inl ⟨1, by decide +kernel, rfl, rfl⟩
theorem own_d_method_4_code_2 : own_ix method_4_code 2 .baload 1 3 := ⟨by decide +kernel, rfl⟩
theorem own_d_method_4_code_3 : own_ik method_4_code 3 255 6 := ⟨255, Or.inr (Or.inr ⟨by decide +kernel, by decide, rfl⟩)⟩
theorem own_d_method_4_code_6 : own_ix method_4_code 6 .iand 1 7 := ⟨by decide +kernel, rfl⟩
theorem own_d_method_4_code_7 : own_ix method_4_code 7 .i2l 1 8 := ⟨by decide +kernel, rfl⟩
theorem own_d_method_4_code_8 : own_ik method_4_code 8 56 10 := ⟨56, Or.inr (Or.inl ⟨by decide +kernel, by decide, rfl⟩)⟩
theorem own_d_method_4_code_10 : own_ix method_4_code 10 .lshl 1 11 := ⟨by decide +kernel, rfl⟩
theorem own_d_method_4_code_11 : own_al method_4_code 11 0 12 := Or.inl ⟨0, by decide +kernel, rfl, rfl⟩
theorem own_d_method_4_code_12 : own_il method_4_code 12 1 13 := Or.inl ⟨1, by decide +kernel, rfl, rfl⟩
theorem own_d_method_4_code_13 : own_ik method_4_code 13 1 14 := ⟨1, Or.inl ⟨by decide +kernel, by decide, rfl⟩⟩
theorem own_d_method_4_code_14 : own_ix method_4_code 14 .iadd 1 15 := ⟨by decide +kernel, rfl⟩
theorem own_d_method_4_code_15 : own_ix method_4_code 15 .baload 1 16 := ⟨by decide +kernel, rfl⟩
theorem own_d_method_4_code_16 : own_ik method_4_code 16 255 19 := ⟨255, Or.inr (Or.inr ⟨by decide +kernel, by decide, rfl⟩)⟩
theorem own_d_method_4_code_19 : own_ix method_4_code 19 .iand 1 20 := ⟨by decide +kernel, rfl⟩
theorem own_d_method_4_code_20 : own_ix method_4_code 20 .i2l 1 21 := ⟨by decide +kernel, rfl⟩
theorem own_d_method_4_code_21 : own_ik method_4_code 21 48 23 := ⟨48, Or.inr (Or.inl ⟨by decide +kernel, by decide, rfl⟩)⟩
theorem own_d_method_4_code_23 : own_ix method_4_code 23 .lshl 1 24 := ⟨by decide +kernel, rfl⟩
theorem own_d_method_4_code_24 : own_ix method_4_code 24 .lor 1 25 := ⟨by decide +kernel, rfl⟩
theorem own_d_method_4_code_25 : own_al method_4_code 25 0 26 := Or.inl ⟨0, by decide +kernel, rfl, rfl⟩
theorem own_d_method_4_code_26 : own_il method_4_code 26 1 27 := Or.inl ⟨1, by decide +kernel, rfl, rfl⟩
theorem own_d_method_4_code_27 : own_ik method_4_code 27 2 28 := ⟨2, Or.inl ⟨by decide +kernel, by decide, rfl⟩⟩
theorem own_d_method_4_code_28 : own_ix method_4_code 28 .iadd 1 29 := ⟨by decide +kernel, rfl⟩
theorem own_d_method_4_code_29 : own_ix method_4_code 29 .baload 1 30 := ⟨by decide +kernel, rfl⟩
theorem own_d_method_4_code_30 : own_ik method_4_code 30 255 33 := ⟨255, Or.inr (Or.inr ⟨by decide +kernel, by decide, rfl⟩)⟩
theorem own_d_method_4_code_33 : own_ix method_4_code 33 .iand 1 34 := ⟨by decide +kernel, rfl⟩
theorem own_d_method_4_code_34 : own_ix method_4_code 34 .i2l 1 35 := ⟨by decide +kernel, rfl⟩
theorem own_d_method_4_code_35 : own_ik method_4_code 35 40 37 := ⟨40, Or.inr (Or.inl ⟨by decide +kernel, by decide, rfl⟩)⟩
theorem own_d_method_4_code_37 : own_ix method_4_code 37 .lshl 1 38 := ⟨by decide +kernel, rfl⟩
theorem own_d_method_4_code_38 : own_ix method_4_code 38 .lor 1 39 := ⟨by decide +kernel, rfl⟩
theorem own_d_method_4_code_39 : own_al method_4_code 39 0 40 := Or.inl ⟨0, by decide +kernel, rfl, rfl⟩
theorem own_d_method_4_code_40 : own_il method_4_code 40 1 41 := Or.inl ⟨1, by decide +kernel, rfl, rfl⟩
theorem own_d_method_4_code_41 : own_ik method_4_code 41 3 42 := ⟨3, Or.inl ⟨by decide +kernel, by decide, rfl⟩⟩
theorem own_d_method_4_code_42 : own_ix method_4_code 42 .iadd 1 43 := ⟨by decide +kernel, rfl⟩
theorem own_d_method_4_code_43 : own_ix method_4_code 43 .baload 1 44 := ⟨by decide +kernel, rfl⟩
theorem own_d_method_4_code_44 : own_ik method_4_code 44 255 47 := ⟨255, Or.inr (Or.inr ⟨by decide +kernel, by decide, rfl⟩)⟩
theorem own_d_method_4_code_47 : own_ix method_4_code 47 .iand 1 48 := ⟨by decide +kernel, rfl⟩
theorem own_d_method_4_code_48 : own_ix method_4_code 48 .i2l 1 49 := ⟨by decide +kernel, rfl⟩
theorem own_d_method_4_code_49 : own_ik method_4_code 49 32 51 := ⟨32, Or.inr (Or.inl ⟨by decide +kernel, by decide, rfl⟩)⟩
theorem own_d_method_4_code_51 : own_ix method_4_code 51 .lshl 1 52 := ⟨by decide +kernel, rfl⟩
theorem own_d_method_4_code_52 : own_ix method_4_code 52 .lor 1 53 := ⟨by decide +kernel, rfl⟩
theorem own_d_method_4_code_53 : own_al method_4_code 53 0 54 := Or.inl ⟨0, by decide +kernel, rfl, rfl⟩
theorem own_d_method_4_code_54 : own_il method_4_code 54 1 55 := Or.inl ⟨1, by decide +kernel, rfl, rfl⟩
theorem own_d_method_4_code_55 : own_ik method_4_code 55 4 56 := ⟨4, Or.inl ⟨by decide +kernel, by decide, rfl⟩⟩
theorem own_d_method_4_code_56 : own_ix method_4_code 56 .iadd 1 57 := ⟨by decide +kernel, rfl⟩
theorem own_d_method_4_code_57 : own_ix method_4_code 57 .baload 1 58 := ⟨by decide +kernel, rfl⟩
theorem own_d_method_4_code_58 : own_ik method_4_code 58 255 61 := ⟨255, Or.inr (Or.inr ⟨by decide +kernel, by decide, rfl⟩)⟩
theorem own_d_method_4_code_61 : own_ix method_4_code 61 .iand 1 62 := ⟨by decide +kernel, rfl⟩
theorem own_d_method_4_code_62 : own_ix method_4_code 62 .i2l 1 63 := ⟨by decide +kernel, rfl⟩
theorem own_d_method_4_code_63 : own_ik method_4_code 63 24 65 := ⟨24, Or.inr (Or.inl ⟨by decide +kernel, by decide, rfl⟩)⟩
theorem own_d_method_4_code_65 : own_ix method_4_code 65 .lshl 1 66 := ⟨by decide +kernel, rfl⟩
theorem own_d_method_4_code_66 : own_ix method_4_code 66 .lor 1 67 := ⟨by decide +kernel, rfl⟩
theorem own_d_method_4_code_67 : own_al method_4_code 67 0 68 := Or.inl ⟨0, by decide +kernel, rfl, rfl⟩
theorem own_d_method_4_code_68 : own_il method_4_code 68 1 69 := Or.inl ⟨1, by decide +kernel, rfl, rfl⟩
theorem own_d_method_4_code_69 : own_ik method_4_code 69 5 70 := ⟨5, Or.inl ⟨by decide +kernel, by decide, rfl⟩⟩
theorem own_d_method_4_code_70 : own_ix method_4_code 70 .iadd 1 71 := ⟨by decide +kernel, rfl⟩
theorem own_d_method_4_code_71 : own_ix method_4_code 71 .baload 1 72 := ⟨by decide +kernel, rfl⟩
theorem own_d_method_4_code_72 : own_ik method_4_code 72 255 75 := ⟨255, Or.inr (Or.inr ⟨by decide +kernel, by decide, rfl⟩)⟩
theorem own_d_method_4_code_75 : own_ix method_4_code 75 .iand 1 76 := ⟨by decide +kernel, rfl⟩
theorem own_d_method_4_code_76 : own_ix method_4_code 76 .i2l 1 77 := ⟨by decide +kernel, rfl⟩
theorem own_d_method_4_code_77 : own_ik method_4_code 77 16 79 := ⟨16, Or.inr (Or.inl ⟨by decide +kernel, by decide, rfl⟩)⟩
theorem own_d_method_4_code_79 : own_ix method_4_code 79 .lshl 1 80 := ⟨by decide +kernel, rfl⟩
theorem own_d_method_4_code_80 : own_ix method_4_code 80 .lor 1 81 := ⟨by decide +kernel, rfl⟩
theorem own_d_method_4_code_81 : own_al method_4_code 81 0 82 := Or.inl ⟨0, by decide +kernel, rfl, rfl⟩
theorem own_d_method_4_code_82 : own_il method_4_code 82 1 83 := Or.inl ⟨1, by decide +kernel, rfl, rfl⟩
theorem own_d_method_4_code_83 : own_ik method_4_code 83 6 85 := ⟨6, Or.inr (Or.inl ⟨by decide +kernel, by decide, rfl⟩)⟩
theorem own_d_method_4_code_85 : own_ix method_4_code 85 .iadd 1 86 := ⟨by decide +kernel, rfl⟩
theorem own_d_method_4_code_86 : own_ix method_4_code 86 .baload 1 87 := ⟨by decide +kernel, rfl⟩
theorem own_d_method_4_code_87 : own_ik method_4_code 87 255 90 := ⟨255, Or.inr (Or.inr ⟨by decide +kernel, by decide, rfl⟩)⟩
theorem own_d_method_4_code_90 : own_ix method_4_code 90 .iand 1 91 := ⟨by decide +kernel, rfl⟩
theorem own_d_method_4_code_91 : own_ix method_4_code 91 .i2l 1 92 := ⟨by decide +kernel, rfl⟩
theorem own_d_method_4_code_92 : own_ik method_4_code 92 8 94 := ⟨8, Or.inr (Or.inl ⟨by decide +kernel, by decide, rfl⟩)⟩
theorem own_d_method_4_code_94 : own_ix method_4_code 94 .lshl 1 95 := ⟨by decide +kernel, rfl⟩
theorem own_d_method_4_code_95 : own_ix method_4_code 95 .lor 1 96 := ⟨by decide +kernel, rfl⟩
theorem own_d_method_4_code_96 : own_al method_4_code 96 0 97 := Or.inl ⟨0, by decide +kernel, rfl, rfl⟩
theorem own_d_method_4_code_97 : own_il method_4_code 97 1 98 := Or.inl ⟨1, by decide +kernel, rfl, rfl⟩
theorem own_d_method_4_code_98 : own_ik method_4_code 98 7 100 := ⟨7, Or.inr (Or.inl ⟨by decide +kernel, by decide, rfl⟩)⟩
theorem own_d_method_4_code_100 : own_ix method_4_code 100 .iadd 1 101 := ⟨by decide +kernel, rfl⟩
theorem own_d_method_4_code_101 : own_ix method_4_code 101 .baload 1 102 := ⟨by decide +kernel, rfl⟩
theorem own_d_method_4_code_102 : own_ik method_4_code 102 255 105 := ⟨255, Or.inr (Or.inr ⟨by decide +kernel, by decide, rfl⟩)⟩
theorem own_d_method_4_code_105 : own_ix method_4_code 105 .iand 1 106 := ⟨by decide +kernel, rfl⟩
theorem own_d_method_4_code_106 : own_ix method_4_code 106 .i2l 1 107 := ⟨by decide +kernel, rfl⟩
theorem own_d_method_4_code_107 : own_ix method_4_code 107 .lor 1 108 := ⟨by decide +kernel, rfl⟩
theorem own_d_method_4_code_108 : own_ix method_4_code 108 .lreturn 1 109 := ⟨by decide +kernel, rfl⟩
theorem own_pn_com_example_libcachet_libcachet_GhashFinishPinLaw : plainName "com/example/libcachet/libcachet/GhashFinishPinLaw" = true := by first | (simp [plainName, overriddenIn]; done) | decide +kernel
theorem own_d_prog_70_method_1_code_0 : own_al prog_70_method_1_code 0 0 1 := Or.inl ⟨0, by decide +kernel, rfl, rfl⟩
theorem own_d_prog_70_method_1_code_1 : own_ix prog_70_method_1_code 1 (.invokespecial 1) 3 4 := ⟨by decide +kernel, rfl⟩
theorem own_d_prog_70_method_1_code_4 : own_al prog_70_method_1_code 4 0 5 := Or.inl ⟨0, by decide +kernel, rfl, rfl⟩
theorem own_d_prog_70_method_1_code_5 : own_al prog_70_method_1_code 5 1 6 := Or.inl ⟨1, by decide +kernel, rfl, rfl⟩
theorem own_d_prog_70_method_1_code_6 : own_ik prog_70_method_1_code 6 0 7 := ⟨0, Or.inl ⟨by decide +kernel, by decide, rfl⟩⟩
theorem own_pd___BI_J : parseMethodDescriptor "([BI)J" = some ⟨[(.array .byte), .int], some .long⟩ := by decide +kernel
theorem own_d_prog_70_method_1_code_7 : own_ix prog_70_method_1_code 7 (.invokestatic 7) 3 10 := ⟨by decide +kernel, rfl⟩
theorem own_d_prog_70_method_1_code_10 : own_ix prog_70_method_1_code 10 (.putfield 13) 3 13 := ⟨by decide +kernel, rfl⟩
theorem own_d_prog_70_method_1_code_13 : own_al prog_70_method_1_code 13 0 14 := Or.inl ⟨0, by decide +kernel, rfl, rfl⟩
theorem own_d_prog_70_method_1_code_14 : own_al prog_70_method_1_code 14 1 15 := Or.inl ⟨1, by decide +kernel, rfl, rfl⟩
theorem own_d_prog_70_method_1_code_15 : own_ik prog_70_method_1_code 15 8 17 := ⟨8, Or.inr (Or.inl ⟨by decide +kernel, by decide, rfl⟩)⟩
theorem own_d_prog_70_method_1_code_17 : own_ix prog_70_method_1_code 17 (.invokestatic 7) 3 20 := ⟨by decide +kernel, rfl⟩
theorem own_d_prog_70_method_1_code_20 : own_ix prog_70_method_1_code 20 (.putfield 17) 3 23 := ⟨by decide +kernel, rfl⟩
theorem own_d_prog_70_method_1_code_23 : own_al prog_70_method_1_code 23 0 24 := Or.inl ⟨0, by decide +kernel, rfl, rfl⟩
theorem own_d_prog_70_method_1_code_24 : own_lk prog_70_method_1_code 24 0 25 := ⟨0, by decide +kernel, by decide, rfl⟩
theorem own_d_prog_70_method_1_code_25 : own_ix prog_70_method_1_code 25 (.ldc2_w 20) 3 28 := ⟨by decide +kernel, rfl⟩
theorem own_d_prog_70_method_1_code_28 : own_al prog_70_method_1_code 28 0 29 := Or.inl ⟨0, by decide +kernel, rfl, rfl⟩
theorem own_d_prog_70_method_1_code_29 : own_ix prog_70_method_1_code 29 (.getfield 13) 3 32 := ⟨by decide +kernel, rfl⟩
theorem own_d_prog_70_method_1_code_32 : own_al prog_70_method_1_code 32 0 33 := Or.inl ⟨0, by decide +kernel, rfl, rfl⟩
theorem own_d_prog_70_method_1_code_33 : own_ix prog_70_method_1_code 33 (.getfield 17) 3 36 := ⟨by decide +kernel, rfl⟩
theorem own_pd__JJJJ__J : parseMethodDescriptor "(JJJJ)[J" = some ⟨[.long, .long, .long, .long], some (.array .long)⟩ := by decide +kernel
theorem own_d_prog_70_method_1_code_36 : own_ix prog_70_method_1_code 36 (.invokestatic 22) 3 39 := ⟨by decide +kernel, rfl⟩
theorem own_d_prog_70_method_1_code_39 : own_ix prog_70_method_1_code 39 (.putfield 26) 3 42 := ⟨by decide +kernel, rfl⟩
theorem own_d_prog_70_method_1_code_42 : own_ix prog_70_method_1_code 42 .return_ 1 43 := ⟨by decide +kernel, rfl⟩
theorem own_d_method_3_code_0 : own_al method_3_code 0 0 1 := Or.inl ⟨0, by decide +kernel, rfl, rfl⟩
theorem own_d_method_3_code_1 : own_il method_3_code 1 1 2 := Or.inl ⟨1, by decide +kernel, rfl, rfl⟩
theorem own_d_method_3_code_2 : own_ll method_3_code 2 2 3 := Or.inl ⟨2, by decide +kernel, rfl, rfl⟩
theorem own_d_method_3_code_3 : own_ik method_3_code 3 56 5 := ⟨56, Or.inr (Or.inl ⟨by decide +kernel, by decide, rfl⟩)⟩
theorem own_d_method_3_code_5 : own_ix method_3_code 5 .lushr 1 6 := ⟨by decide +kernel, rfl⟩
theorem own_d_method_3_code_6 : own_ix method_3_code 6 .l2i 1 7 := ⟨by decide +kernel, rfl⟩
theorem own_d_method_3_code_7 : own_ix method_3_code 7 .i2b 1 8 := ⟨by decide +kernel, rfl⟩
theorem own_d_method_3_code_8 : own_ix method_3_code 8 .bastore 1 9 := ⟨by decide +kernel, rfl⟩
theorem own_d_method_3_code_9 : own_al method_3_code 9 0 10 := Or.inl ⟨0, by decide +kernel, rfl, rfl⟩
theorem own_d_method_3_code_10 : own_il method_3_code 10 1 11 := Or.inl ⟨1, by decide +kernel, rfl, rfl⟩
theorem own_d_method_3_code_11 : own_ik method_3_code 11 1 12 := ⟨1, Or.inl ⟨by decide +kernel, by decide, rfl⟩⟩
theorem own_d_method_3_code_12 : own_ix method_3_code 12 .iadd 1 13 := ⟨by decide +kernel, rfl⟩
theorem own_d_method_3_code_13 : own_ll method_3_code 13 2 14 := Or.inl ⟨2, by decide +kernel, rfl, rfl⟩
theorem own_d_method_3_code_14 : own_ik method_3_code 14 48 16 := ⟨48, Or.inr (Or.inl ⟨by decide +kernel, by decide, rfl⟩)⟩
theorem own_d_method_3_code_16 : own_ix method_3_code 16 .lushr 1 17 := ⟨by decide +kernel, rfl⟩
theorem own_d_method_3_code_17 : own_ix method_3_code 17 .l2i 1 18 := ⟨by decide +kernel, rfl⟩
theorem own_d_method_3_code_18 : own_ix method_3_code 18 .i2b 1 19 := ⟨by decide +kernel, rfl⟩
theorem own_d_method_3_code_19 : own_ix method_3_code 19 .bastore 1 20 := ⟨by decide +kernel, rfl⟩
theorem own_d_method_3_code_20 : own_al method_3_code 20 0 21 := Or.inl ⟨0, by decide +kernel, rfl, rfl⟩
theorem own_d_method_3_code_21 : own_il method_3_code 21 1 22 := Or.inl ⟨1, by decide +kernel, rfl, rfl⟩
theorem own_d_method_3_code_22 : own_ik method_3_code 22 2 23 := ⟨2, Or.inl ⟨by decide +kernel, by decide, rfl⟩⟩
theorem own_d_method_3_code_23 : own_ix method_3_code 23 .iadd 1 24 := ⟨by decide +kernel, rfl⟩
theorem own_d_method_3_code_24 : own_ll method_3_code 24 2 25 := Or.inl ⟨2, by decide +kernel, rfl, rfl⟩
theorem own_d_method_3_code_25 : own_ik method_3_code 25 40 27 := ⟨40, Or.inr (Or.inl ⟨by decide +kernel, by decide, rfl⟩)⟩
theorem own_d_method_3_code_27 : own_ix method_3_code 27 .lushr 1 28 := ⟨by decide +kernel, rfl⟩
theorem own_d_method_3_code_28 : own_ix method_3_code 28 .l2i 1 29 := ⟨by decide +kernel, rfl⟩
theorem own_d_method_3_code_29 : own_ix method_3_code 29 .i2b 1 30 := ⟨by decide +kernel, rfl⟩
theorem own_d_method_3_code_30 : own_ix method_3_code 30 .bastore 1 31 := ⟨by decide +kernel, rfl⟩
theorem own_d_method_3_code_31 : own_al method_3_code 31 0 32 := Or.inl ⟨0, by decide +kernel, rfl, rfl⟩
theorem own_d_method_3_code_32 : own_il method_3_code 32 1 33 := Or.inl ⟨1, by decide +kernel, rfl, rfl⟩
theorem own_d_method_3_code_33 : own_ik method_3_code 33 3 34 := ⟨3, Or.inl ⟨by decide +kernel, by decide, rfl⟩⟩
theorem own_d_method_3_code_34 : own_ix method_3_code 34 .iadd 1 35 := ⟨by decide +kernel, rfl⟩
theorem own_d_method_3_code_35 : own_ll method_3_code 35 2 36 := Or.inl ⟨2, by decide +kernel, rfl, rfl⟩
theorem own_d_method_3_code_36 : own_ik method_3_code 36 32 38 := ⟨32, Or.inr (Or.inl ⟨by decide +kernel, by decide, rfl⟩)⟩
theorem own_d_method_3_code_38 : own_ix method_3_code 38 .lushr 1 39 := ⟨by decide +kernel, rfl⟩
theorem own_d_method_3_code_39 : own_ix method_3_code 39 .l2i 1 40 := ⟨by decide +kernel, rfl⟩
theorem own_d_method_3_code_40 : own_ix method_3_code 40 .i2b 1 41 := ⟨by decide +kernel, rfl⟩
theorem own_d_method_3_code_41 : own_ix method_3_code 41 .bastore 1 42 := ⟨by decide +kernel, rfl⟩
theorem own_d_method_3_code_42 : own_al method_3_code 42 0 43 := Or.inl ⟨0, by decide +kernel, rfl, rfl⟩
theorem own_d_method_3_code_43 : own_il method_3_code 43 1 44 := Or.inl ⟨1, by decide +kernel, rfl, rfl⟩
theorem own_d_method_3_code_44 : own_ik method_3_code 44 4 45 := ⟨4, Or.inl ⟨by decide +kernel, by decide, rfl⟩⟩
theorem own_d_method_3_code_45 : own_ix method_3_code 45 .iadd 1 46 := ⟨by decide +kernel, rfl⟩
theorem own_d_method_3_code_46 : own_ll method_3_code 46 2 47 := Or.inl ⟨2, by decide +kernel, rfl, rfl⟩
theorem own_d_method_3_code_47 : own_ik method_3_code 47 24 49 := ⟨24, Or.inr (Or.inl ⟨by decide +kernel, by decide, rfl⟩)⟩
theorem own_d_method_3_code_49 : own_ix method_3_code 49 .lushr 1 50 := ⟨by decide +kernel, rfl⟩
theorem own_d_method_3_code_50 : own_ix method_3_code 50 .l2i 1 51 := ⟨by decide +kernel, rfl⟩
theorem own_d_method_3_code_51 : own_ix method_3_code 51 .i2b 1 52 := ⟨by decide +kernel, rfl⟩
theorem own_d_method_3_code_52 : own_ix method_3_code 52 .bastore 1 53 := ⟨by decide +kernel, rfl⟩
theorem own_d_method_3_code_53 : own_al method_3_code 53 0 54 := Or.inl ⟨0, by decide +kernel, rfl, rfl⟩
theorem own_d_method_3_code_54 : own_il method_3_code 54 1 55 := Or.inl ⟨1, by decide +kernel, rfl, rfl⟩
theorem own_d_method_3_code_55 : own_ik method_3_code 55 5 56 := ⟨5, Or.inl ⟨by decide +kernel, by decide, rfl⟩⟩
theorem own_d_method_3_code_56 : own_ix method_3_code 56 .iadd 1 57 := ⟨by decide +kernel, rfl⟩
theorem own_d_method_3_code_57 : own_ll method_3_code 57 2 58 := Or.inl ⟨2, by decide +kernel, rfl, rfl⟩
theorem own_d_method_3_code_58 : own_ik method_3_code 58 16 60 := ⟨16, Or.inr (Or.inl ⟨by decide +kernel, by decide, rfl⟩)⟩
theorem own_d_method_3_code_60 : own_ix method_3_code 60 .lushr 1 61 := ⟨by decide +kernel, rfl⟩
theorem own_d_method_3_code_61 : own_ix method_3_code 61 .l2i 1 62 := ⟨by decide +kernel, rfl⟩
theorem own_d_method_3_code_62 : own_ix method_3_code 62 .i2b 1 63 := ⟨by decide +kernel, rfl⟩
theorem own_d_method_3_code_63 : own_ix method_3_code 63 .bastore 1 64 := ⟨by decide +kernel, rfl⟩
theorem own_d_method_3_code_64 : own_al method_3_code 64 0 65 := Or.inl ⟨0, by decide +kernel, rfl, rfl⟩
theorem own_d_method_3_code_65 : own_il method_3_code 65 1 66 := Or.inl ⟨1, by decide +kernel, rfl, rfl⟩
theorem own_d_method_3_code_66 : own_ik method_3_code 66 6 68 := ⟨6, Or.inr (Or.inl ⟨by decide +kernel, by decide, rfl⟩)⟩
theorem own_d_method_3_code_68 : own_ix method_3_code 68 .iadd 1 69 := ⟨by decide +kernel, rfl⟩
theorem own_d_method_3_code_69 : own_ll method_3_code 69 2 70 := Or.inl ⟨2, by decide +kernel, rfl, rfl⟩
theorem own_d_method_3_code_70 : own_ik method_3_code 70 8 72 := ⟨8, Or.inr (Or.inl ⟨by decide +kernel, by decide, rfl⟩)⟩
theorem own_d_method_3_code_72 : own_ix method_3_code 72 .lushr 1 73 := ⟨by decide +kernel, rfl⟩
theorem own_d_method_3_code_73 : own_ix method_3_code 73 .l2i 1 74 := ⟨by decide +kernel, rfl⟩
theorem own_d_method_3_code_74 : own_ix method_3_code 74 .i2b 1 75 := ⟨by decide +kernel, rfl⟩
theorem own_d_method_3_code_75 : own_ix method_3_code 75 .bastore 1 76 := ⟨by decide +kernel, rfl⟩
theorem own_d_method_3_code_76 : own_al method_3_code 76 0 77 := Or.inl ⟨0, by decide +kernel, rfl, rfl⟩
theorem own_d_method_3_code_77 : own_il method_3_code 77 1 78 := Or.inl ⟨1, by decide +kernel, rfl, rfl⟩
theorem own_d_method_3_code_78 : own_ik method_3_code 78 7 80 := ⟨7, Or.inr (Or.inl ⟨by decide +kernel, by decide, rfl⟩)⟩
theorem own_d_method_3_code_80 : own_ix method_3_code 80 .iadd 1 81 := ⟨by decide +kernel, rfl⟩
theorem own_d_method_3_code_81 : own_ll method_3_code 81 2 82 := Or.inl ⟨2, by decide +kernel, rfl, rfl⟩
theorem own_d_method_3_code_82 : own_ix method_3_code 82 .l2i 1 83 := ⟨by decide +kernel, rfl⟩
theorem own_d_method_3_code_83 : own_ix method_3_code 83 .i2b 1 84 := ⟨by decide +kernel, rfl⟩
theorem own_d_method_3_code_84 : own_ix method_3_code 84 .bastore 1 85 := ⟨by decide +kernel, rfl⟩
theorem own_d_method_3_code_85 : own_ix method_3_code 85 .return_ 1 86 := ⟨by decide +kernel, rfl⟩
theorem own_d_prog_70_method_6_code_0 : own_ik prog_70_method_6_code 0 2 1 := ⟨2, Or.inl ⟨by decide +kernel, by decide, rfl⟩⟩
theorem own_d_prog_70_method_6_code_1 : own_ix prog_70_method_6_code 1 (.newarray .long) 2 3 := ⟨by decide +kernel, rfl⟩
theorem own_d_prog_70_method_6_code_3 : own_ix prog_70_method_6_code 3 .dup 1 4 := ⟨by decide +kernel, rfl⟩
theorem own_d_prog_70_method_6_code_4 : own_ik prog_70_method_6_code 4 0 5 := ⟨0, Or.inl ⟨by decide +kernel, by decide, rfl⟩⟩
theorem own_d_prog_70_method_6_code_5 : own_ix prog_70_method_6_code 5 (.ldc2_w 79) 3 8 := ⟨by decide +kernel, rfl⟩
theorem own_d_prog_70_method_6_code_8 : own_ix prog_70_method_6_code 8 .lastore 1 9 := ⟨by decide +kernel, rfl⟩
theorem own_d_prog_70_method_6_code_9 : own_ix prog_70_method_6_code 9 .dup 1 10 := ⟨by decide +kernel, rfl⟩
theorem own_d_prog_70_method_6_code_10 : own_ik prog_70_method_6_code 10 1 11 := ⟨1, Or.inl ⟨by decide +kernel, by decide, rfl⟩⟩
theorem own_d_prog_70_method_6_code_11 : own_lk prog_70_method_6_code 11 0 12 := ⟨0, by decide +kernel, by decide, rfl⟩
theorem own_d_prog_70_method_6_code_12 : own_ix prog_70_method_6_code 12 .lastore 1 13 := ⟨by decide +kernel, rfl⟩
theorem own_d_prog_70_method_6_code_13 : own_sa prog_70_method_6_code 13 3 14 := Or.inl ⟨3, by decide +kernel, rfl, rfl⟩
theorem own_d_prog_70_method_6_code_14 : own_ik prog_70_method_6_code 14 2 15 := ⟨2, Or.inl ⟨by decide +kernel, by decide, rfl⟩⟩
theorem own_d_prog_70_method_6_code_15 : own_ix prog_70_method_6_code 15 (.newarray .long) 2 17 := ⟨by decide +kernel, rfl⟩
theorem own_d_prog_70_method_6_code_17 : own_ix prog_70_method_6_code 17 .dup 1 18 := ⟨by decide +kernel, rfl⟩
theorem own_d_prog_70_method_6_code_18 : own_ik prog_70_method_6_code 18 0 19 := ⟨0, Or.inl ⟨by decide +kernel, by decide, rfl⟩⟩
theorem own_d_prog_70_method_6_code_19 : own_al prog_70_method_6_code 19 0 20 := Or.inl ⟨0, by decide +kernel, rfl, rfl⟩
theorem own_d_prog_70_method_6_code_20 : own_ix prog_70_method_6_code 20 (.getfield 13) 3 23 := ⟨by decide +kernel, rfl⟩
theorem own_d_prog_70_method_6_code_23 : own_ix prog_70_method_6_code 23 .lastore 1 24 := ⟨by decide +kernel, rfl⟩
theorem own_d_prog_70_method_6_code_24 : own_ix prog_70_method_6_code 24 .dup 1 25 := ⟨by decide +kernel, rfl⟩
theorem own_d_prog_70_method_6_code_25 : own_ik prog_70_method_6_code 25 1 26 := ⟨1, Or.inl ⟨by decide +kernel, by decide, rfl⟩⟩
theorem own_d_prog_70_method_6_code_26 : own_al prog_70_method_6_code 26 0 27 := Or.inl ⟨0, by decide +kernel, rfl, rfl⟩
theorem own_d_prog_70_method_6_code_27 : own_ix prog_70_method_6_code 27 (.getfield 17) 3 30 := ⟨by decide +kernel, rfl⟩
theorem own_d_prog_70_method_6_code_30 : own_ix prog_70_method_6_code 30 .lastore 1 31 := ⟨by decide +kernel, rfl⟩
theorem own_d_prog_70_method_6_code_31 : own_sa prog_70_method_6_code 31 4 33 := Or.inr ⟨by decide +kernel, rfl⟩
theorem own_d_prog_70_method_6_code_33 : own_ll prog_70_method_6_code 33 1 34 := Or.inl ⟨1, by decide +kernel, rfl, rfl⟩
theorem own_d_prog_70_method_6_code_34 : own_sl prog_70_method_6_code 34 5 36 := Or.inr ⟨by decide +kernel, rfl⟩
theorem own_d_prog_70_method_6_code_36 : own_ll prog_70_method_6_code 36 5 38 := Or.inr ⟨by decide +kernel, rfl⟩
theorem own_d_prog_70_method_6_code_38 : own_lk prog_70_method_6_code 38 0 39 := ⟨0, by decide +kernel, by decide, rfl⟩
theorem own_d_prog_70_method_6_code_39 : own_ix prog_70_method_6_code 39 .lcmp 1 40 := ⟨by decide +kernel, rfl⟩
theorem own_d_prog_70_method_6_code_40 : own_ifc prog_70_method_6_code 40 .le 43 100 := ⟨60, by decide +kernel, rfl, by decide, by decide⟩
theorem own_d_prog_70_method_6_code_100 : own_al prog_70_method_6_code 100 3 101 := Or.inl ⟨3, by decide +kernel, rfl, rfl⟩
theorem own_d_prog_70_method_6_code_101 : own_ix prog_70_method_6_code 101 .areturn 1 102 := ⟨by decide +kernel, rfl⟩
theorem own_d_prog_70_method_6_code_43 : own_ll prog_70_method_6_code 43 5 45 := Or.inr ⟨by decide +kernel, rfl⟩
theorem own_d_prog_70_method_6_code_45 : own_lk prog_70_method_6_code 45 1 46 := ⟨1, by decide +kernel, by decide, rfl⟩
theorem own_d_prog_70_method_6_code_46 : own_ix prog_70_method_6_code 46 .land 1 47 := ⟨by decide +kernel, rfl⟩
theorem own_d_prog_70_method_6_code_47 : own_lk prog_70_method_6_code 47 0 48 := ⟨0, by decide +kernel, by decide, rfl⟩
theorem own_d_prog_70_method_6_code_48 : own_ix prog_70_method_6_code 48 .lcmp 1 49 := ⟨by decide +kernel, rfl⟩
theorem own_d_prog_70_method_6_code_49 : own_ifc prog_70_method_6_code 49 .eq 52 70 := ⟨21, by decide +kernel, rfl, by decide, by decide⟩
theorem own_d_prog_70_method_6_code_70 : own_al prog_70_method_6_code 70 4 72 := Or.inr ⟨by decide +kernel, rfl⟩
theorem own_d_prog_70_method_6_code_72 : own_ik prog_70_method_6_code 72 0 73 := ⟨0, Or.inl ⟨by decide +kernel, by decide, rfl⟩⟩
theorem own_d_prog_70_method_6_code_73 : own_ix prog_70_method_6_code 73 .laload 1 74 := ⟨by decide +kernel, rfl⟩
theorem own_d_prog_70_method_6_code_74 : own_al prog_70_method_6_code 74 4 76 := Or.inr ⟨by decide +kernel, rfl⟩
theorem own_d_prog_70_method_6_code_76 : own_ik prog_70_method_6_code 76 1 77 := ⟨1, Or.inl ⟨by decide +kernel, by decide, rfl⟩⟩
theorem own_d_prog_70_method_6_code_77 : own_ix prog_70_method_6_code 77 .laload 1 78 := ⟨by decide +kernel, rfl⟩
theorem own_d_prog_70_method_6_code_78 : own_al prog_70_method_6_code 78 4 80 := Or.inr ⟨by decide +kernel, rfl⟩
theorem own_d_prog_70_method_6_code_80 : own_ik prog_70_method_6_code 80 0 81 := ⟨0, Or.inl ⟨by decide +kernel, by decide, rfl⟩⟩
theorem own_d_prog_70_method_6_code_81 : own_ix prog_70_method_6_code 81 .laload 1 82 := ⟨by decide +kernel, rfl⟩
theorem own_d_prog_70_method_6_code_82 : own_al prog_70_method_6_code 82 4 84 := Or.inr ⟨by decide +kernel, rfl⟩
theorem own_d_prog_70_method_6_code_84 : own_ik prog_70_method_6_code 84 1 85 := ⟨1, Or.inl ⟨by decide +kernel, by decide, rfl⟩⟩
theorem own_d_prog_70_method_6_code_85 : own_ix prog_70_method_6_code 85 .laload 1 86 := ⟨by decide +kernel, rfl⟩
theorem own_d_prog_70_method_6_code_86 : own_ix prog_70_method_6_code 86 (.invokestatic 22) 3 89 := ⟨by decide +kernel, rfl⟩
theorem own_d_prog_70_method_6_code_89 : own_sa prog_70_method_6_code 89 4 91 := Or.inr ⟨by decide +kernel, rfl⟩
theorem own_d_prog_70_method_6_code_91 : own_ll prog_70_method_6_code 91 5 93 := Or.inr ⟨by decide +kernel, rfl⟩
theorem own_d_prog_70_method_6_code_93 : own_ik prog_70_method_6_code 93 1 94 := ⟨1, Or.inl ⟨by decide +kernel, by decide, rfl⟩⟩
theorem own_d_prog_70_method_6_code_94 : own_ix prog_70_method_6_code 94 .lushr 1 95 := ⟨by decide +kernel, rfl⟩
theorem own_d_prog_70_method_6_code_95 : own_sl prog_70_method_6_code 95 5 97 := Or.inr ⟨by decide +kernel, rfl⟩
theorem own_d_prog_70_method_6_code_97 : own_gt prog_70_method_6_code 97 36 := ⟨(-61), by decide +kernel, by decide, by decide⟩
theorem own_d_prog_70_method_6_code_52 : own_al prog_70_method_6_code 52 3 53 := Or.inl ⟨3, by decide +kernel, rfl, rfl⟩
theorem own_d_prog_70_method_6_code_53 : own_ik prog_70_method_6_code 53 0 54 := ⟨0, Or.inl ⟨by decide +kernel, by decide, rfl⟩⟩
theorem own_d_prog_70_method_6_code_54 : own_ix prog_70_method_6_code 54 .laload 1 55 := ⟨by decide +kernel, rfl⟩
theorem own_d_prog_70_method_6_code_55 : own_al prog_70_method_6_code 55 3 56 := Or.inl ⟨3, by decide +kernel, rfl, rfl⟩
theorem own_d_prog_70_method_6_code_56 : own_ik prog_70_method_6_code 56 1 57 := ⟨1, Or.inl ⟨by decide +kernel, by decide, rfl⟩⟩
theorem own_d_prog_70_method_6_code_57 : own_ix prog_70_method_6_code 57 .laload 1 58 := ⟨by decide +kernel, rfl⟩
theorem own_d_prog_70_method_6_code_58 : own_al prog_70_method_6_code 58 4 60 := Or.inr ⟨by decide +kernel, rfl⟩
theorem own_d_prog_70_method_6_code_60 : own_ik prog_70_method_6_code 60 0 61 := ⟨0, Or.inl ⟨by decide +kernel, by decide, rfl⟩⟩
theorem own_d_prog_70_method_6_code_61 : own_ix prog_70_method_6_code 61 .laload 1 62 := ⟨by decide +kernel, rfl⟩
theorem own_d_prog_70_method_6_code_62 : own_al prog_70_method_6_code 62 4 64 := Or.inr ⟨by decide +kernel, rfl⟩
theorem own_d_prog_70_method_6_code_64 : own_ik prog_70_method_6_code 64 1 65 := ⟨1, Or.inl ⟨by decide +kernel, by decide, rfl⟩⟩
theorem own_d_prog_70_method_6_code_65 : own_ix prog_70_method_6_code 65 .laload 1 66 := ⟨by decide +kernel, rfl⟩
theorem own_d_prog_70_method_6_code_66 : own_ix prog_70_method_6_code 66 (.invokestatic 22) 3 69 := ⟨by decide +kernel, rfl⟩
theorem own_d_prog_70_method_6_code_69 : own_sa prog_70_method_6_code 69 3 70 := Or.inl ⟨3, by decide +kernel, rfl, rfl⟩
theorem own_d_prog_70_method_2_code_0 : own_al prog_70_method_2_code 0 0 1 := Or.inl ⟨0, by decide +kernel, rfl, rfl⟩
theorem own_d_prog_70_method_2_code_1 : own_ix prog_70_method_2_code 1 (.getfield 30) 3 4 := ⟨by decide +kernel, rfl⟩
theorem own_d_prog_70_method_2_code_4 : own_ifc prog_70_method_2_code 4 .eq 7 17 := ⟨13, by decide +kernel, rfl, by decide, by decide⟩
theorem own_d_prog_70_method_2_code_17 : own_ll prog_70_method_2_code 17 2 18 := Or.inl ⟨2, by decide +kernel, rfl, rfl⟩
theorem own_d_prog_70_method_2_code_18 : own_lk prog_70_method_2_code 18 0 19 := ⟨0, by decide +kernel, by decide, rfl⟩
theorem own_d_prog_70_method_2_code_19 : own_ix prog_70_method_2_code 19 .lcmp 1 20 := ⟨by decide +kernel, rfl⟩
theorem own_d_prog_70_method_2_code_20 : own_ifc prog_70_method_2_code 20 .le 23 174 := ⟨154, by decide +kernel, rfl, by decide, by decide⟩
theorem own_d_prog_70_method_2_code_174 : own_ix prog_70_method_2_code 174 .return_ 1 175 := ⟨by decide +kernel, rfl⟩
theorem own_d_prog_70_method_2_code_23 : own_ll prog_70_method_2_code 23 2 24 := Or.inl ⟨2, by decide +kernel, rfl, rfl⟩
theorem own_d_prog_70_method_2_code_24 : own_al prog_70_method_2_code 24 0 25 := Or.inl ⟨0, by decide +kernel, rfl, rfl⟩
theorem own_d_prog_70_method_2_code_25 : own_ix prog_70_method_2_code 25 (.getfield 41) 3 28 := ⟨by decide +kernel, rfl⟩
theorem own_d_prog_70_method_2_code_28 : own_ix prog_70_method_2_code 28 .lcmp 1 29 := ⟨by decide +kernel, rfl⟩
theorem own_d_prog_70_method_2_code_29 : own_ifc prog_70_method_2_code 29 .eq 32 77 := ⟨48, by decide +kernel, rfl, by decide, by decide⟩
theorem own_d_prog_70_method_2_code_32 : own_al prog_70_method_2_code 32 0 33 := Or.inl ⟨0, by decide +kernel, rfl, rfl⟩
theorem own_d_prog_70_method_2_code_33 : own_lk prog_70_method_2_code 33 0 34 := ⟨0, by decide +kernel, by decide, rfl⟩
theorem own_d_prog_70_method_2_code_34 : own_ll prog_70_method_2_code 34 2 35 := Or.inl ⟨2, by decide +kernel, rfl, rfl⟩
theorem own_d_prog_70_method_2_code_35 : own_ix prog_70_method_2_code 35 (.ldc2_w 44) 3 38 := ⟨by decide +kernel, rfl⟩
theorem own_d_prog_70_method_2_code_38 : own_ix prog_70_method_2_code 38 .lmul 1 39 := ⟨by decide +kernel, rfl⟩
theorem own_d_prog_70_method_2_code_39 : own_al prog_70_method_2_code 39 0 40 := Or.inl ⟨0, by decide +kernel, rfl, rfl⟩
theorem own_d_prog_70_method_2_code_40 : own_ix prog_70_method_2_code 40 (.getfield 13) 3 43 := ⟨by decide +kernel, rfl⟩
theorem own_d_prog_70_method_2_code_43 : own_al prog_70_method_2_code 43 0 44 := Or.inl ⟨0, by decide +kernel, rfl, rfl⟩
theorem own_d_prog_70_method_2_code_44 : own_ix prog_70_method_2_code 44 (.getfield 17) 3 47 := ⟨by decide +kernel, rfl⟩
theorem own_d_prog_70_method_2_code_47 : own_ix prog_70_method_2_code 47 (.invokestatic 22) 3 50 := ⟨by decide +kernel, rfl⟩
theorem own_d_prog_70_method_2_code_50 : own_ix prog_70_method_2_code 50 (.putfield 46) 3 53 := ⟨by decide +kernel, rfl⟩
theorem own_d_prog_70_method_2_code_53 : own_al prog_70_method_2_code 53 0 54 := Or.inl ⟨0, by decide +kernel, rfl, rfl⟩
theorem own_d_prog_70_method_2_code_54 : own_al prog_70_method_2_code 54 0 55 := Or.inl ⟨0, by decide +kernel, rfl, rfl⟩
theorem own_d_prog_70_method_2_code_55 : own_ll prog_70_method_2_code 55 2 56 := Or.inl ⟨2, by decide +kernel, rfl, rfl⟩
theorem own_d_prog_70_method_2_code_56 : own_ix prog_70_method_2_code 56 (.ldc2_w 49) 3 59 := ⟨by decide +kernel, rfl⟩
theorem own_d_prog_70_method_2_code_59 : own_ix prog_70_method_2_code 59 .ladd 1 60 := ⟨by decide +kernel, rfl⟩
theorem own_d_prog_70_method_2_code_60 : own_lk prog_70_method_2_code 60 1 61 := ⟨1, by decide +kernel, by decide, rfl⟩
theorem own_d_prog_70_method_2_code_61 : own_ix prog_70_method_2_code 61 .lsub 1 62 := ⟨by decide +kernel, rfl⟩
theorem own_d_prog_70_method_2_code_62 : own_ix prog_70_method_2_code 62 (.ldc2_w 49) 3 65 := ⟨by decide +kernel, rfl⟩
theorem own_d_prog_70_method_2_code_65 : own_ix prog_70_method_2_code 65 .ldiv 1 66 := ⟨by decide +kernel, rfl⟩
theorem own_pd__J__J : parseMethodDescriptor "(J)[J" = some ⟨[.long], some (.array .long)⟩ := by decide +kernel
theorem own_d_prog_70_method_2_code_66 : own_ix prog_70_method_2_code 66 (.invokevirtual 51) 3 69 := ⟨by decide +kernel, rfl⟩
theorem own_d_prog_70_method_2_code_69 : own_ix prog_70_method_2_code 69 (.putfield 55) 3 72 := ⟨by decide +kernel, rfl⟩
theorem own_d_prog_70_method_2_code_72 : own_al prog_70_method_2_code 72 0 73 := Or.inl ⟨0, by decide +kernel, rfl, rfl⟩
theorem own_d_prog_70_method_2_code_73 : own_ll prog_70_method_2_code 73 2 74 := Or.inl ⟨2, by decide +kernel, rfl, rfl⟩
theorem own_d_prog_70_method_2_code_74 : own_ix prog_70_method_2_code 74 (.putfield 41) 3 77 := ⟨by decide +kernel, rfl⟩
theorem own_d_prog_70_method_2_code_77 : own_al prog_70_method_2_code 77 0 78 := Or.inl ⟨0, by decide +kernel, rfl, rfl⟩
theorem own_d_prog_70_method_2_code_78 : own_ix prog_70_method_2_code 78 (.getfield 57) 3 81 := ⟨by decide +kernel, rfl⟩
theorem own_d_prog_70_method_2_code_81 : own_al prog_70_method_2_code 81 0 82 := Or.inl ⟨0, by decide +kernel, rfl, rfl⟩
theorem own_d_prog_70_method_2_code_82 : own_ix prog_70_method_2_code 82 (.getfield 60) 3 85 := ⟨by decide +kernel, rfl⟩
theorem own_d_prog_70_method_2_code_85 : own_al prog_70_method_2_code 85 0 86 := Or.inl ⟨0, by decide +kernel, rfl, rfl⟩
theorem own_d_prog_70_method_2_code_86 : own_ix prog_70_method_2_code 86 (.getfield 55) 3 89 := ⟨by decide +kernel, rfl⟩
theorem own_d_prog_70_method_2_code_89 : own_ik prog_70_method_2_code 89 0 90 := ⟨0, Or.inl ⟨by decide +kernel, by decide, rfl⟩⟩
theorem own_d_prog_70_method_2_code_90 : own_ix prog_70_method_2_code 90 .laload 1 91 := ⟨by decide +kernel, rfl⟩
theorem own_d_prog_70_method_2_code_91 : own_al prog_70_method_2_code 91 0 92 := Or.inl ⟨0, by decide +kernel, rfl, rfl⟩
theorem own_d_prog_70_method_2_code_92 : own_ix prog_70_method_2_code 92 (.getfield 55) 3 95 := ⟨by decide +kernel, rfl⟩
theorem own_d_prog_70_method_2_code_95 : own_ik prog_70_method_2_code 95 1 96 := ⟨1, Or.inl ⟨by decide +kernel, by decide, rfl⟩⟩
theorem own_d_prog_70_method_2_code_96 : own_ix prog_70_method_2_code 96 .laload 1 97 := ⟨by decide +kernel, rfl⟩
theorem own_d_prog_70_method_2_code_97 : own_ix prog_70_method_2_code 97 (.invokestatic 22) 3 100 := ⟨by decide +kernel, rfl⟩
theorem own_d_prog_70_method_2_code_100 : own_sa prog_70_method_2_code 100 4 102 := Or.inr ⟨by decide +kernel, rfl⟩
theorem own_d_prog_70_method_2_code_102 : own_al prog_70_method_2_code 102 0 103 := Or.inl ⟨0, by decide +kernel, rfl, rfl⟩
theorem own_d_prog_70_method_2_code_103 : own_al prog_70_method_2_code 103 4 105 := Or.inr ⟨by decide +kernel, rfl⟩
theorem own_d_prog_70_method_2_code_105 : own_ik prog_70_method_2_code 105 0 106 := ⟨0, Or.inl ⟨by decide +kernel, by decide, rfl⟩⟩
theorem own_d_prog_70_method_2_code_106 : own_ix prog_70_method_2_code 106 .laload 1 107 := ⟨by decide +kernel, rfl⟩
theorem own_d_prog_70_method_2_code_107 : own_al prog_70_method_2_code 107 1 108 := Or.inl ⟨1, by decide +kernel, rfl, rfl⟩
theorem own_d_prog_70_method_2_code_108 : own_ik prog_70_method_2_code 108 0 109 := ⟨0, Or.inl ⟨by decide +kernel, by decide, rfl⟩⟩
theorem own_d_prog_70_method_2_code_109 : own_ix prog_70_method_2_code 109 (.invokestatic 7) 3 112 := ⟨by decide +kernel, rfl⟩
theorem own_d_prog_70_method_2_code_112 : own_ix prog_70_method_2_code 112 .lxor 1 113 := ⟨by decide +kernel, rfl⟩
theorem own_d_prog_70_method_2_code_113 : own_al prog_70_method_2_code 113 0 114 := Or.inl ⟨0, by decide +kernel, rfl, rfl⟩
theorem own_d_prog_70_method_2_code_114 : own_ix prog_70_method_2_code 114 (.getfield 46) 3 117 := ⟨by decide +kernel, rfl⟩
theorem own_d_prog_70_method_2_code_117 : own_ik prog_70_method_2_code 117 0 118 := ⟨0, Or.inl ⟨by decide +kernel, by decide, rfl⟩⟩
theorem own_d_prog_70_method_2_code_118 : own_ix prog_70_method_2_code 118 .laload 1 119 := ⟨by decide +kernel, rfl⟩
theorem own_d_prog_70_method_2_code_119 : own_ix prog_70_method_2_code 119 .lxor 1 120 := ⟨by decide +kernel, rfl⟩
theorem own_d_prog_70_method_2_code_120 : own_ix prog_70_method_2_code 120 (.putfield 57) 3 123 := ⟨by decide +kernel, rfl⟩
theorem own_d_prog_70_method_2_code_123 : own_al prog_70_method_2_code 123 0 124 := Or.inl ⟨0, by decide +kernel, rfl, rfl⟩
theorem own_d_prog_70_method_2_code_124 : own_al prog_70_method_2_code 124 4 126 := Or.inr ⟨by decide +kernel, rfl⟩
theorem own_d_prog_70_method_2_code_126 : own_ik prog_70_method_2_code 126 1 127 := ⟨1, Or.inl ⟨by decide +kernel, by decide, rfl⟩⟩
theorem own_d_prog_70_method_2_code_127 : own_ix prog_70_method_2_code 127 .laload 1 128 := ⟨by decide +kernel, rfl⟩
theorem own_d_prog_70_method_2_code_128 : own_al prog_70_method_2_code 128 1 129 := Or.inl ⟨1, by decide +kernel, rfl, rfl⟩
theorem own_d_prog_70_method_2_code_129 : own_ik prog_70_method_2_code 129 8 131 := ⟨8, Or.inr (Or.inl ⟨by decide +kernel, by decide, rfl⟩)⟩
theorem own_d_prog_70_method_2_code_131 : own_ix prog_70_method_2_code 131 (.invokestatic 7) 3 134 := ⟨by decide +kernel, rfl⟩
theorem own_d_prog_70_method_2_code_134 : own_ix prog_70_method_2_code 134 .lxor 1 135 := ⟨by decide +kernel, rfl⟩
theorem own_d_prog_70_method_2_code_135 : own_al prog_70_method_2_code 135 0 136 := Or.inl ⟨0, by decide +kernel, rfl, rfl⟩
theorem own_d_prog_70_method_2_code_136 : own_ix prog_70_method_2_code 136 (.getfield 46) 3 139 := ⟨by decide +kernel, rfl⟩
theorem own_d_prog_70_method_2_code_139 : own_ik prog_70_method_2_code 139 1 140 := ⟨1, Or.inl ⟨by decide +kernel, by decide, rfl⟩⟩
theorem own_d_prog_70_method_2_code_140 : own_ix prog_70_method_2_code 140 .laload 1 141 := ⟨by decide +kernel, rfl⟩
theorem own_d_prog_70_method_2_code_141 : own_ix prog_70_method_2_code 141 .lxor 1 142 := ⟨by decide +kernel, rfl⟩
theorem own_d_prog_70_method_2_code_142 : own_ix prog_70_method_2_code 142 (.putfield 60) 3 145 := ⟨by decide +kernel, rfl⟩
theorem own_d_prog_70_method_2_code_145 : own_al prog_70_method_2_code 145 0 146 := Or.inl ⟨0, by decide +kernel, rfl, rfl⟩
theorem own_d_prog_70_method_2_code_146 : own_ix prog_70_method_2_code 146 .dup 1 147 := ⟨by decide +kernel, rfl⟩
theorem own_d_prog_70_method_2_code_147 : own_ix prog_70_method_2_code 147 (.getfield 63) 3 150 := ⟨by decide +kernel, rfl⟩
theorem own_d_prog_70_method_2_code_150 : own_ll prog_70_method_2_code 150 2 151 := Or.inl ⟨2, by decide +kernel, rfl, rfl⟩
theorem own_d_prog_70_method_2_code_151 : own_ix prog_70_method_2_code 151 .ladd 1 152 := ⟨by decide +kernel, rfl⟩
theorem own_d_prog_70_method_2_code_152 : own_ix prog_70_method_2_code 152 (.putfield 63) 3 155 := ⟨by decide +kernel, rfl⟩
theorem own_d_prog_70_method_2_code_155 : own_al prog_70_method_2_code 155 0 156 := Or.inl ⟨0, by decide +kernel, rfl, rfl⟩
theorem own_d_prog_70_method_2_code_156 : own_ll prog_70_method_2_code 156 2 157 := Or.inl ⟨2, by decide +kernel, rfl, rfl⟩
theorem own_d_prog_70_method_2_code_157 : own_ix prog_70_method_2_code 157 (.ldc2_w 49) 3 160 := ⟨by decide +kernel, rfl⟩
theorem own_d_prog_70_method_2_code_160 : own_ix prog_70_method_2_code 160 .lrem 1 161 := ⟨by decide +kernel, rfl⟩
theorem own_d_prog_70_method_2_code_161 : own_lk prog_70_method_2_code 161 0 162 := ⟨0, by decide +kernel, by decide, rfl⟩
theorem own_d_prog_70_method_2_code_162 : own_ix prog_70_method_2_code 162 .lcmp 1 163 := ⟨by decide +kernel, rfl⟩
theorem own_d_prog_70_method_2_code_163 : own_ifc prog_70_method_2_code 163 .eq 166 170 := ⟨7, by decide +kernel, rfl, by decide, by decide⟩
theorem own_d_prog_70_method_2_code_170 : own_ik prog_70_method_2_code 170 0 171 := ⟨0, Or.inl ⟨by decide +kernel, by decide, rfl⟩⟩
theorem own_d_prog_70_method_2_code_166 : own_ik prog_70_method_2_code 166 1 167 := ⟨1, Or.inl ⟨by decide +kernel, by decide, rfl⟩⟩
theorem own_d_prog_70_method_2_code_167 : own_gt prog_70_method_2_code 167 171 := ⟨4, by decide +kernel, by decide, by decide⟩
theorem own_d_prog_70_method_2_code_171 : own_ix prog_70_method_2_code 171 (.putfield 30) 3 174 := ⟨by decide +kernel, rfl⟩
theorem own_d_prog_70_method_4_code_0 : own_lk prog_70_method_4_code 0 0 1 := ⟨0, by decide +kernel, by decide, rfl⟩
theorem own_d_prog_70_method_4_code_1 : own_al prog_70_method_4_code 1 0 2 := Or.inl ⟨0, by decide +kernel, rfl, rfl⟩
theorem own_d_prog_70_method_4_code_2 : own_ix prog_70_method_4_code 2 (.getfield 63) 3 5 := ⟨by decide +kernel, rfl⟩
theorem own_d_prog_70_method_4_code_5 : own_ix prog_70_method_4_code 5 (.ldc2_w 44) 3 8 := ⟨by decide +kernel, rfl⟩
theorem own_d_prog_70_method_4_code_8 : own_ix prog_70_method_4_code 8 .lmul 1 9 := ⟨by decide +kernel, rfl⟩
theorem own_d_prog_70_method_4_code_9 : own_al prog_70_method_4_code 9 0 10 := Or.inl ⟨0, by decide +kernel, rfl, rfl⟩
theorem own_d_prog_70_method_4_code_10 : own_ix prog_70_method_4_code 10 (.getfield 13) 3 13 := ⟨by decide +kernel, rfl⟩
theorem own_d_prog_70_method_4_code_13 : own_al prog_70_method_4_code 13 0 14 := Or.inl ⟨0, by decide +kernel, rfl, rfl⟩
theorem own_d_prog_70_method_4_code_14 : own_ix prog_70_method_4_code 14 (.getfield 17) 3 17 := ⟨by decide +kernel, rfl⟩
theorem own_d_prog_70_method_4_code_17 : own_ix prog_70_method_4_code 17 (.invokestatic 22) 3 20 := ⟨by decide +kernel, rfl⟩
theorem own_d_prog_70_method_4_code_20 : own_sa prog_70_method_4_code 20 1 21 := Or.inl ⟨1, by decide +kernel, rfl, rfl⟩
theorem own_d_prog_70_method_4_code_21 : own_al prog_70_method_4_code 21 0 22 := Or.inl ⟨0, by decide +kernel, rfl, rfl⟩
theorem own_d_prog_70_method_4_code_22 : own_ix prog_70_method_4_code 22 (.getfield 57) 3 25 := ⟨by decide +kernel, rfl⟩
theorem own_d_prog_70_method_4_code_25 : own_al prog_70_method_4_code 25 1 26 := Or.inl ⟨1, by decide +kernel, rfl, rfl⟩
theorem own_d_prog_70_method_4_code_26 : own_ik prog_70_method_4_code 26 0 27 := ⟨0, Or.inl ⟨by decide +kernel, by decide, rfl⟩⟩
theorem own_d_prog_70_method_4_code_27 : own_ix prog_70_method_4_code 27 .laload 1 28 := ⟨by decide +kernel, rfl⟩
theorem own_d_prog_70_method_4_code_28 : own_ix prog_70_method_4_code 28 .lxor 1 29 := ⟨by decide +kernel, rfl⟩
theorem own_d_prog_70_method_4_code_29 : own_al prog_70_method_4_code 29 0 30 := Or.inl ⟨0, by decide +kernel, rfl, rfl⟩
theorem own_d_prog_70_method_4_code_30 : own_ix prog_70_method_4_code 30 (.getfield 60) 3 33 := ⟨by decide +kernel, rfl⟩
theorem own_d_prog_70_method_4_code_33 : own_al prog_70_method_4_code 33 1 34 := Or.inl ⟨1, by decide +kernel, rfl, rfl⟩
theorem own_d_prog_70_method_4_code_34 : own_ik prog_70_method_4_code 34 1 35 := ⟨1, Or.inl ⟨by decide +kernel, by decide, rfl⟩⟩
theorem own_d_prog_70_method_4_code_35 : own_ix prog_70_method_4_code 35 .laload 1 36 := ⟨by decide +kernel, rfl⟩
theorem own_d_prog_70_method_4_code_36 : own_ix prog_70_method_4_code 36 .lxor 1 37 := ⟨by decide +kernel, rfl⟩
theorem own_pd__JJ__B : parseMethodDescriptor "(JJ)[B" = some ⟨[.long, .long], some (.array .byte)⟩ := by decide +kernel
theorem own_d_prog_70_method_4_code_37 : own_ix prog_70_method_4_code 37 (.invokestatic 66) 3 40 := ⟨by decide +kernel, rfl⟩
theorem own_d_prog_70_method_4_code_40 : own_ix prog_70_method_4_code 40 .areturn 1 41 := ⟨by decide +kernel, rfl⟩
theorem own_d_code_0 : own_il code 0 10 2 := Or.inr ⟨by decide +kernel, rfl⟩
theorem own_d_code_2 : own_ik code 2 1 3 := ⟨1, Or.inl ⟨by decide +kernel, by decide, rfl⟩⟩
theorem own_d_code_3 : own_ix code 3 .iand 1 4 := ⟨by decide +kernel, rfl⟩
theorem own_d_code_4 : own_ifc code 4 .eq 7 16 := ⟨12, by decide +kernel, rfl, by decide, by decide⟩
theorem own_d_code_16 : own_ll code 16 8 18 := Or.inr ⟨by decide +kernel, rfl⟩
theorem own_d_code_18 : own_ix code 18 (.ldc2_w 11) 3 21 := ⟨by decide +kernel, rfl⟩
theorem own_d_code_21 : own_ix code 21 .land 1 22 := ⟨by decide +kernel, rfl⟩
theorem own_d_code_7 : own_ll code 7 8 9 := Or.inr ⟨by decide +kernel, rfl⟩
theorem own_d_code_9 : own_ix code 9 (.ldc2_w 7) 3 12 := ⟨by decide +kernel, rfl⟩
theorem own_d_code_12 : own_ix code 12 .land 1 13 := ⟨by decide +kernel, rfl⟩
theorem own_d_code_13 : own_gt code 13 22 := ⟨9, by decide +kernel, by decide, by decide⟩
theorem own_d_code_22 : own_sl code 22 11 24 := Or.inr ⟨by decide +kernel, rfl⟩
theorem own_d_code_24 : own_ik code 24 16 26 := ⟨16, Or.inr (Or.inl ⟨by decide +kernel, by decide, rfl⟩)⟩
theorem own_d_code_26 : own_ix code 26 (.newarray .byte) 2 28 := ⟨by decide +kernel, rfl⟩
theorem own_d_code_28 : own_sa code 28 13 30 := Or.inr ⟨by decide +kernel, rfl⟩
theorem own_d_code_30 : own_al code 30 13 32 := Or.inr ⟨by decide +kernel, rfl⟩
theorem own_d_code_32 : own_ik code 32 0 33 := ⟨0, Or.inl ⟨by decide +kernel, by decide, rfl⟩⟩
theorem own_d_code_33 : own_ll code 33 0 34 := Or.inl ⟨0, by decide +kernel, rfl, rfl⟩
theorem own_pd___BIJ_V : parseMethodDescriptor "([BIJ)V" = some ⟨[(.array .byte), .int, .long], none⟩ := by decide +kernel
theorem own_d_code_34 : own_ix code 34 (.invokestatic 13) 3 37 := ⟨by decide +kernel, rfl⟩
theorem own_d_code_37 : own_al code 37 13 39 := Or.inr ⟨by decide +kernel, rfl⟩
theorem own_d_code_39 : own_ik code 39 8 41 := ⟨8, Or.inr (Or.inl ⟨by decide +kernel, by decide, rfl⟩)⟩
theorem own_d_code_41 : own_ll code 41 2 42 := Or.inl ⟨2, by decide +kernel, rfl, rfl⟩
theorem own_d_code_42 : own_ix code 42 (.invokestatic 13) 3 45 := ⟨by decide +kernel, rfl⟩
theorem own_d_code_45 : own_ik code 45 16 47 := ⟨16, Or.inr (Or.inl ⟨by decide +kernel, by decide, rfl⟩)⟩
theorem own_d_code_47 : own_ix code 47 (.newarray .byte) 2 49 := ⟨by decide +kernel, rfl⟩
theorem own_d_code_49 : own_sa code 49 14 51 := Or.inr ⟨by decide +kernel, rfl⟩
theorem own_d_code_51 : own_al code 51 14 53 := Or.inr ⟨by decide +kernel, rfl⟩
theorem own_d_code_53 : own_ik code 53 0 54 := ⟨0, Or.inl ⟨by decide +kernel, by decide, rfl⟩⟩
theorem own_d_code_54 : own_ll code 54 4 56 := Or.inr ⟨by decide +kernel, rfl⟩
theorem own_d_code_56 : own_ix code 56 (.invokestatic 13) 3 59 := ⟨by decide +kernel, rfl⟩
theorem own_d_code_59 : own_al code 59 14 61 := Or.inr ⟨by decide +kernel, rfl⟩
theorem own_d_code_61 : own_ik code 61 8 63 := ⟨8, Or.inr (Or.inl ⟨by decide +kernel, by decide, rfl⟩)⟩
theorem own_d_code_63 : own_ll code 63 6 65 := Or.inr ⟨by decide +kernel, rfl⟩
theorem own_d_code_65 : own_ix code 65 (.invokestatic 13) 3 68 := ⟨by decide +kernel, rfl⟩
theorem own_d_code_68 : own_ix code 68 (.new 19) 3 71 := ⟨by decide +kernel, rfl⟩
theorem own_d_code_71 : own_ix code 71 .dup 1 72 := ⟨by decide +kernel, rfl⟩
theorem own_d_code_72 : own_al code 72 13 74 := Or.inr ⟨by decide +kernel, rfl⟩
theorem own_pd___B_V : parseMethodDescriptor "([B)V" = some ⟨[(.array .byte)], none⟩ := by decide +kernel
theorem own_d_code_74 : own_ix code 74 (.invokespecial 21) 3 77 := ⟨by decide +kernel, rfl⟩
theorem own_d_code_77 : own_sa code 77 15 79 := Or.inr ⟨by decide +kernel, rfl⟩
theorem own_d_code_79 : own_al code 79 15 81 := Or.inr ⟨by decide +kernel, rfl⟩
theorem own_d_code_81 : own_al code 81 14 83 := Or.inr ⟨by decide +kernel, rfl⟩
theorem own_d_code_83 : own_ll code 83 11 85 := Or.inr ⟨by decide +kernel, rfl⟩
theorem own_pd___BJ_V : parseMethodDescriptor "([BJ)V" = some ⟨[(.array .byte), .long], none⟩ := by decide +kernel
theorem own_d_code_85 : own_ix code 85 (.invokevirtual 24) 3 88 := ⟨by decide +kernel, rfl⟩
theorem own_d_code_88 : own_al code 88 15 90 := Or.inr ⟨by decide +kernel, rfl⟩
theorem own_pd____B : parseMethodDescriptor "()[B" = some ⟨[], some (.array .byte)⟩ := by decide +kernel
theorem own_d_code_90 : own_ix code 90 (.invokevirtual 28) 3 93 := ⟨by decide +kernel, rfl⟩
theorem own_d_code_93 : own_sa code 93 16 95 := Or.inr ⟨by decide +kernel, rfl⟩
theorem own_d_code_95 : own_al code 95 16 97 := Or.inr ⟨by decide +kernel, rfl⟩
theorem own_d_code_97 : own_inl code 97 100 108 := ⟨11, by decide +kernel, rfl, by decide, by decide⟩
theorem own_d_code_100 : own_al code 100 16 102 := Or.inr ⟨by decide +kernel, rfl⟩
theorem own_d_code_102 : own_ix code 102 .arraylength 1 103 := ⟨by decide +kernel, rfl⟩
theorem own_d_code_103 : own_ik code 103 16 105 := ⟨16, Or.inr (Or.inl ⟨by decide +kernel, by decide, rfl⟩)⟩
theorem own_d_code_105 : own_icm code 105 .eq 108 110 := ⟨5, by decide +kernel, rfl, by decide, by decide⟩
theorem own_d_code_110 : own_ll code 110 11 112 := Or.inr ⟨by decide +kernel, rfl⟩
theorem own_d_code_112 : own_lk code 112 0 113 := ⟨0, by decide +kernel, by decide, rfl⟩
theorem own_d_code_113 : own_ix code 113 .lcmp 1 114 := ⟨by decide +kernel, rfl⟩
theorem own_d_code_114 : own_ifc code 114 .le 117 122 := ⟨8, by decide +kernel, rfl, by decide, by decide⟩
theorem own_d_code_117 : own_ll code 117 4 119 := Or.inr ⟨by decide +kernel, rfl⟩
theorem own_d_code_119 : own_gt code 119 123 := ⟨4, by decide +kernel, by decide, by decide⟩
theorem own_d_code_123 : own_sl code 123 17 125 := Or.inr ⟨by decide +kernel, rfl⟩
theorem own_d_code_125 : own_ll code 125 11 127 := Or.inr ⟨by decide +kernel, rfl⟩
theorem own_d_code_127 : own_lk code 127 0 128 := ⟨0, by decide +kernel, by decide, rfl⟩
theorem own_d_code_128 : own_ix code 128 .lcmp 1 129 := ⟨by decide +kernel, rfl⟩
theorem own_d_code_129 : own_ifc code 129 .le 132 137 := ⟨8, by decide +kernel, rfl, by decide, by decide⟩
theorem own_d_code_132 : own_ll code 132 6 134 := Or.inr ⟨by decide +kernel, rfl⟩
theorem own_d_code_134 : own_gt code 134 138 := ⟨4, by decide +kernel, by decide, by decide⟩
theorem own_d_code_138 : own_sl code 138 19 140 := Or.inr ⟨by decide +kernel, rfl⟩
theorem own_d_code_140 : own_al code 140 16 142 := Or.inr ⟨by decide +kernel, rfl⟩
theorem own_d_code_142 : own_ik code 142 0 143 := ⟨0, Or.inl ⟨by decide +kernel, by decide, rfl⟩⟩
theorem own_d_code_143 : own_ix code 143 (.invokestatic 32) 3 146 := ⟨by decide +kernel, rfl⟩
theorem own_d_code_146 : own_ll code 146 17 148 := Or.inr ⟨by decide +kernel, rfl⟩
theorem own_d_code_148 : own_ix code 148 .lcmp 1 149 := ⟨by decide +kernel, rfl⟩
theorem own_d_code_149 : own_ifc code 149 .ne 152 169 := ⟨20, by decide +kernel, rfl, by decide, by decide⟩
theorem own_d_code_152 : own_al code 152 16 154 := Or.inr ⟨by decide +kernel, rfl⟩
theorem own_d_code_154 : own_ik code 154 8 156 := ⟨8, Or.inr (Or.inl ⟨by decide +kernel, by decide, rfl⟩)⟩
theorem own_d_code_156 : own_ix code 156 (.invokestatic 32) 3 159 := ⟨by decide +kernel, rfl⟩
theorem own_d_code_159 : own_ll code 159 19 161 := Or.inr ⟨by decide +kernel, rfl⟩
theorem own_d_code_161 : own_ix code 161 .lcmp 1 162 := ⟨by decide +kernel, rfl⟩
theorem own_d_code_162 : own_ifc code 162 .ne 165 169 := ⟨7, by decide +kernel, rfl, by decide, by decide⟩
theorem own_d_code_165 : own_ik code 165 1 166 := ⟨1, Or.inl ⟨by decide +kernel, by decide, rfl⟩⟩
theorem own_d_code_166 : own_gt code 166 170 := ⟨4, by decide +kernel, by decide, by decide⟩
theorem own_d_code_170 : own_ix code 170 .ireturn 1 171 := ⟨by decide +kernel, rfl⟩
theorem own_d_code_122 : own_lk code 122 0 123 := ⟨0, by decide +kernel, by decide, rfl⟩
theorem own_d_code_137 : own_lk code 137 0 138 := ⟨0, by decide +kernel, by decide, rfl⟩
set_option maxRecDepth 65536 in
set_option maxHeartbeats 40000000 in
theorem own_long8 (l : Launch) (Z : State) (a0 : Array Value) (hw : ∀ d ∈ tables_1, d.before a0 Z = true) (a : Addr) (j : Int32) (k N : Nat) (f : Nat → Int32) (g : Nat → Value) (h0 : Heap) (n0 : Nat) (Z0 : n0 ≤ h0.size) (V : own_AF Z h0 a .byte N g) (hj : own_idx j k) (hk : k + 8 ≤ N) (hN : N < 2147483648) (hf : ∀ i, i < 8 → g (k + i) = .int (f i)) :
    own_Con l Z n0 (⟨"com/example/libcachet/libcachet/Ghash", "long8", "([BI)J"⟩ : MethodName) prog_70_method_9_code 5 (some .long) ({ frames := 0, cells := 0, slots := 0, locals := 0 } : Room) [] #[(.ref a), (.int j)] h0 (fun v h' => v = some (.long (own_be f 8)) ∧ h' = h0) := by
  refine own_enter (plainFor_of_name own_pn_com_example_libcachet_libcachet_Ghash) Z0 #[.val (.ref a), .val (.int j), .unset, .unset, .unset] (fun m => by first | (simp [entryFrame, mkF, argsToLocals, Value.category]; done) | rfl) ?_
  intro p e s m below meth c T A X0 hret hnm fin
  refine own_lpush X0 own_d_prog_70_method_9_code_0 ?_
  refine own_lstore X0 #[.val (.ref a), .val (.int j), .val (.long (0 : Int64)), .second, .unset] own_d_prog_70_method_9_code_1 rfl ?_
  refine own_ipush X0 own_d_prog_70_method_9_code_2 ?_
  refine own_istore X0 #[.val (.ref a), .val (.int j), .val (.long (0 : Int64)), .second, .val (.int (0 : Int32))] own_d_prog_70_method_9_code_3 rfl ?_
  suffices LOOP : ∀ (n i : Nat), i + n = 8 → own_Wins p e below A T (mkF m 5 #[.val (.ref a), .val (.int j), .val (.long (own_be f i)), .second, .val (.int (Int32.ofNat i))] []) by
    exact LOOP 8 0 rfl
  intro n
  induction n with
  | zero =>
    intro i hi
    have hi8 : own_idx (Int32.ofNat i) i := own_idx_nat (by omega)
    refine own_iload X0 own_d_prog_70_method_9_code_5 rfl ?_
    refine own_ipush X0 own_d_prog_70_method_9_code_7 ?_
    refine own_icYes X0 own_d_prog_70_method_9_code_9 (flt (mt (own_idx_lt hi8 (n := 8) ⟨by decide, by decide⟩).mp (by omega))).2.1 ?_
    refine own_lload X0 own_d_prog_70_method_9_code_35 rfl ?_
    exact own_retJ X0 hret fin (by decide) (by decide) ⟨by rw [show i = 8 by omega], rfl⟩ own_d_prog_70_method_9_code_36
  | succ n ih =>
    intro i hi
    have hi8 : own_idx (Int32.ofNat i) i := own_idx_nat (by omega)
    refine own_iload X0 own_d_prog_70_method_9_code_5 rfl ?_
    refine own_ipush X0 own_d_prog_70_method_9_code_7 ?_
    refine own_icNo X0 own_d_prog_70_method_9_code_9 (tlt ((own_idx_lt hi8 (n := 8) ⟨by decide, by decide⟩).mpr (by omega))).2.1 ?_
    refine own_lload X0 own_d_prog_70_method_9_code_12 rfl ?_
    refine own_ipush X0 own_d_prog_70_method_9_code_13 ?_
    refine own_lshl X0 own_d_prog_70_method_9_code_15 ?_
    refine own_aload X0 own_d_prog_70_method_9_code_16 rfl ?_
    refine own_iload X0 own_d_prog_70_method_9_code_17 rfl ?_
    refine own_iload X0 own_d_prog_70_method_9_code_18 rfl ?_
    refine own_iadd X0 own_d_prog_70_method_9_code_20 ?_
    refine own_baloadF X0 V (i := (k + i)) (own_idx_add hj hi8 (by omega)) (by omega) (hf i (by omega)) own_d_prog_70_method_9_code_21 ?_
    refine own_ipush X0 own_d_prog_70_method_9_code_22 ?_
    refine own_iand X0 own_d_prog_70_method_9_code_25 ?_
    refine own_i2l X0 own_d_prog_70_method_9_code_26 ?_
    refine own_lor X0 own_d_prog_70_method_9_code_27 ?_
    refine own_lstore X0 #[.val (.ref a), .val (.int j), .val (.long ((own_Lshl (own_be f i) (8 : Int32)) ||| ((((f i) &&& (255 : Int32))).toInt64))), .second, .val (.int (Int32.ofNat i))] own_d_prog_70_method_9_code_28 rfl ?_
    refine own_iinc X0 #[.val (.ref a), .val (.int j), .val (.long ((own_Lshl (own_be f i) (8 : Int32)) ||| ((((f i) &&& (255 : Int32))).toInt64))), .second, .val (.int ((Int32.ofNat i) + (1 : Int32)))] own_d_prog_70_method_9_code_29 rfl rfl ?_
    refine own_goto X0 own_d_prog_70_method_9_code_32 ?_
    rw [own_succ]
    exact ih (i + 1) (by omega)
set_option maxRecDepth 65536 in
set_option maxHeartbeats 40000000 in
theorem own_st20 {z0 z1 z2 z3 z4 z5 z6 z7 z8 z9 z10 z11 z12 z13 z14 z15 z16 z17 z18 z19 z20 z21 z22 z23 : Slot} {v : Int64} (h : own_clean z20 z21) : storeLocals #[z0, z1, z2, z3, z4, z5, z6, z7, z8, z9, z10, z11, z12, z13, z14, z15, z16, z17, z18, z19, z20, z21, z22, z23] 20 (.long v) = some #[z0, z1, z2, z3, z4, z5, z6, z7, z8, z9, z10, z11, z12, z13, z14, z15, z16, z17, z18, z19, .val (.long v), .second, z22, z23] := by
  rcases h with ⟨rfl, rfl⟩ | ⟨w, rfl, rfl⟩ <;> rfl
set_option maxRecDepth 65536 in
set_option maxHeartbeats 40000000 in
theorem own_st22 {z0 z1 z2 z3 z4 z5 z6 z7 z8 z9 z10 z11 z12 z13 z14 z15 z16 z17 z18 z19 z20 z21 z22 z23 : Slot} {v : Int64} (h : own_clean z22 z23) : storeLocals #[z0, z1, z2, z3, z4, z5, z6, z7, z8, z9, z10, z11, z12, z13, z14, z15, z16, z17, z18, z19, z20, z21, z22, z23] 22 (.long v) = some #[z0, z1, z2, z3, z4, z5, z6, z7, z8, z9, z10, z11, z12, z13, z14, z15, z16, z17, z18, z19, z20, z21, .val (.long v), .second] := by
  rcases h with ⟨rfl, rfl⟩ | ⟨w, rfl, rfl⟩ <;> rfl
set_option maxRecDepth 65536 in
set_option maxHeartbeats 40000000 in
theorem own_mulLoop {p : Program} {l : Launch} {e : Env} {R : Room} {s : State} {m : MethodId} {args : Array Value} {below : List Frame} {meth : Method} {c : Code} {Z : State} {a0 : Array Value} {n0 : Nat} {T : State} {h : Heap} {cells slots : Nat} {A : State → Outcome → Prop} (hw : ∀ d ∈ tables_1, d.before a0 Z = true) (X0 : own_St p l e R s m args below meth c Z n0 prog_70_method_8_code 24 "com/example/libcachet/libcachet/Ghash" T h cells slots) (xh xl yh yl bits : Int64) (hf : Int32) :
    ∀ (n : Nat) (ph pl vh vl : Int64) (s20 s21 s22 s23 : Slot), n ≤ 64 → own_clean s20 s21 → own_clean s22 s23 → (∀ (ph' pl' vh' vl' : Int64) (s20' s21' s22' s23' : Slot), own_clean s20' s21' → own_clean s22' s23' → (own_pk ph' pl', own_pk vh' vl') = own_gW bits.toBitVec.toNat n (own_pk ph pl, own_pk vh vl) → own_Wins p e below A T (mkF m 112 #[.val (.long xh), .second, .val (.long xl), .second, .val (.long yh), .second, .val (.long yl), .second, .val (.long ph'), .second, .val (.long pl'), .second, .val (.long vh'), .second, .val (.long vl'), .second, .val (.int hf), .val (.long bits), .second, .val (.int (own_dn 0)), s20', s21', s22', s23'] [])) → own_Wins p e below A T (mkF m 39 #[.val (.long xh), .second, .val (.long xl), .second, .val (.long yh), .second, .val (.long yl), .second, .val (.long ph), .second, .val (.long pl), .second, .val (.long vh), .second, .val (.long vl), .second, .val (.int hf), .val (.long bits), .second, .val (.int (own_dn n)), s20, s21, s22, s23] []) := by
  intro n
  induction n with
  | zero =>
    intro ph pl vh vl s20 s21 s22 s23 hn c1 c2 K
    refine own_iload X0 own_d_prog_70_method_8_code_39 rfl ?_
    refine own_ifYes X0 own_d_prog_70_method_8_code_41 ((if0 _ _).trans (tlt ((own_dn_lt 0 (by omega)).mpr rfl)).1) ?_
    exact K ph pl vh vl s20 s21 s22 s23 c1 c2 rfl
  | succ n ih =>
    intro ph pl vh vl s20 s21 s22 s23 hn c1 c2 K
    have hi8 := own_dn_idx n (by omega)
    refine own_iload X0 own_d_prog_70_method_8_code_39 rfl ?_
    refine own_ifNo X0 own_d_prog_70_method_8_code_41 ((if0 _ _).trans (flt (mt (own_dn_lt (n + 1) hn).mp (by omega))).1) ?_
    refine own_lload X0 own_d_prog_70_method_8_code_44 rfl ?_
    refine own_iload X0 own_d_prog_70_method_8_code_46 rfl ?_
    refine own_lushr X0 own_d_prog_70_method_8_code_48 ?_
    refine own_lpush X0 own_d_prog_70_method_8_code_49 ?_
    refine own_land X0 own_d_prog_70_method_8_code_50 ?_
    refine own_lneg X0 own_d_prog_70_method_8_code_51 ?_
    generalize htk : (-((own_Lushr bits (own_dn (n + 1))) &&& (1 : Int64))) = tk
    refine own_lstore X0 #[.val (.long xh), .second, .val (.long xl), .second, .val (.long yh), .second, .val (.long yl), .second, .val (.long ph), .second, .val (.long pl), .second, .val (.long vh), .second, .val (.long vl), .second, .val (.int hf), .val (.long bits), .second, .val (.int (own_dn (n + 1))), .val (.long tk), .second, s22, s23] own_d_prog_70_method_8_code_52 (own_st20 c1) ?_
    refine own_lload X0 own_d_prog_70_method_8_code_54 rfl ?_
    refine own_lload X0 own_d_prog_70_method_8_code_56 rfl ?_
    refine own_lload X0 own_d_prog_70_method_8_code_58 rfl ?_
    refine own_land X0 own_d_prog_70_method_8_code_60 ?_
    refine own_lxor X0 own_d_prog_70_method_8_code_61 ?_
    generalize hp1 : (ph ^^^ (vh &&& tk)) = p1
    refine own_lstore X0 #[.val (.long xh), .second, .val (.long xl), .second, .val (.long yh), .second, .val (.long yl), .second, .val (.long p1), .second, .val (.long pl), .second, .val (.long vh), .second, .val (.long vl), .second, .val (.int hf), .val (.long bits), .second, .val (.int (own_dn (n + 1))), .val (.long tk), .second, s22, s23] own_d_prog_70_method_8_code_62 rfl ?_
    refine own_lload X0 own_d_prog_70_method_8_code_64 rfl ?_
    refine own_lload X0 own_d_prog_70_method_8_code_66 rfl ?_
    refine own_lload X0 own_d_prog_70_method_8_code_68 rfl ?_
    refine own_land X0 own_d_prog_70_method_8_code_70 ?_
    refine own_lxor X0 own_d_prog_70_method_8_code_71 ?_
    generalize hp2 : (pl ^^^ (vl &&& tk)) = p2
    refine own_lstore X0 #[.val (.long xh), .second, .val (.long xl), .second, .val (.long yh), .second, .val (.long yl), .second, .val (.long p1), .second, .val (.long p2), .second, .val (.long vh), .second, .val (.long vl), .second, .val (.int hf), .val (.long bits), .second, .val (.int (own_dn (n + 1))), .val (.long tk), .second, s22, s23] own_d_prog_70_method_8_code_72 rfl ?_
    refine own_lload X0 own_d_prog_70_method_8_code_74 rfl ?_
    refine own_lpush X0 own_d_prog_70_method_8_code_76 ?_
    refine own_land X0 own_d_prog_70_method_8_code_77 ?_
    refine own_lneg X0 own_d_prog_70_method_8_code_78 ?_
    generalize hcy : (-(vl &&& (1 : Int64))) = cy
    refine own_lstore X0 #[.val (.long xh), .second, .val (.long xl), .second, .val (.long yh), .second, .val (.long yl), .second, .val (.long p1), .second, .val (.long p2), .second, .val (.long vh), .second, .val (.long vl), .second, .val (.int hf), .val (.long bits), .second, .val (.int (own_dn (n + 1))), .val (.long tk), .second, .val (.long cy), .second] own_d_prog_70_method_8_code_79 (own_st22 c2) ?_
    refine own_lload X0 own_d_prog_70_method_8_code_81 rfl ?_
    refine own_ipush X0 own_d_prog_70_method_8_code_83 ?_
    refine own_lushr X0 own_d_prog_70_method_8_code_84 ?_
    refine own_lload X0 own_d_prog_70_method_8_code_85 rfl ?_
    refine own_ipush X0 own_d_prog_70_method_8_code_87 ?_
    refine own_lshl X0 own_d_prog_70_method_8_code_89 ?_
    refine own_lor X0 own_d_prog_70_method_8_code_90 ?_
    generalize hw2 : ((own_Lushr vl (1 : Int32)) ||| (own_Lshl vh (63 : Int32))) = w2
    refine own_lstore X0 #[.val (.long xh), .second, .val (.long xl), .second, .val (.long yh), .second, .val (.long yl), .second, .val (.long p1), .second, .val (.long p2), .second, .val (.long vh), .second, .val (.long w2), .second, .val (.int hf), .val (.long bits), .second, .val (.int (own_dn (n + 1))), .val (.long tk), .second, .val (.long cy), .second] own_d_prog_70_method_8_code_91 rfl ?_
    refine own_lload X0 own_d_prog_70_method_8_code_93 rfl ?_
    refine own_ipush X0 own_d_prog_70_method_8_code_95 ?_
    refine own_lushr X0 own_d_prog_70_method_8_code_96 ?_
    refine own_ldc2 X0 (hw _ (List.mem_of_getElem? (i := 26) rfl)) own_d_prog_70_method_8_code_97 ?_
    refine own_lload X0 own_d_prog_70_method_8_code_100 rfl ?_
    refine own_land X0 own_d_prog_70_method_8_code_102 ?_
    refine own_lxor X0 own_d_prog_70_method_8_code_103 ?_
    generalize hw1 : ((own_Lushr vh (1 : Int32)) ^^^ ((-2233785415175766016 : Int64) &&& cy)) = w1
    refine own_lstore X0 #[.val (.long xh), .second, .val (.long xl), .second, .val (.long yh), .second, .val (.long yl), .second, .val (.long p1), .second, .val (.long p2), .second, .val (.long w1), .second, .val (.long w2), .second, .val (.int hf), .val (.long bits), .second, .val (.int (own_dn (n + 1))), .val (.long tk), .second, .val (.long cy), .second] own_d_prog_70_method_8_code_104 rfl ?_
    refine own_iinc X0 #[.val (.long xh), .second, .val (.long xl), .second, .val (.long yh), .second, .val (.long yl), .second, .val (.long p1), .second, .val (.long p2), .second, .val (.long w1), .second, .val (.long w2), .second, .val (.int hf), .val (.long bits), .second, .val (.int ((own_dn (n + 1)) + (-1 : Int32))), .val (.long tk), .second, .val (.long cy), .second] own_d_prog_70_method_8_code_106 rfl rfl ?_
    refine own_goto X0 own_d_prog_70_method_8_code_109 ?_
    rw [own_dn_succ n (by omega)]
    have e1 : own_pk p1 p2 = own_pk ph pl ^^^ (if bits.toBitVec.toNat.testBit n then own_pk vh vl else 0) := by rw [← hp1, ← hp2, ← htk]; exact own_add_step ph pl vh vl bits _ n hi8 (by omega)
    have e2 : own_pk w1 w2 = own_gT (own_pk vh vl) := by rw [← hw1, ← hw2, ← hcy]; exact own_shift_step vh vl
    refine ih p1 p2 w1 w2 _ _ _ _ (by omega) (Or.inr ⟨_, rfl, rfl⟩) (Or.inr ⟨_, rfl, rfl⟩) ?_
    intro ph' pl' vh' vl' s20' s21' s22' s23' c1' c2' e3
    refine K ph' pl' vh' vl' s20' s21' s22' s23' c1' c2' ?_
    rw [e3, e1, e2, own_gW_s]
set_option maxRecDepth 65536 in
set_option maxHeartbeats 40000000 in
theorem own_multiply (l : Launch) (Z : State) (a0 : Array Value) (hw : ∀ d ∈ tables_1, d.before a0 Z = true) (xh xl yh yl : Int64) (h0 : Heap) (n0 : Nat) (Z0 : n0 ≤ h0.size)  :
    own_Con l Z n0 (⟨"com/example/libcachet/libcachet/Ghash", "multiply", "(JJJJ)[J"⟩ : MethodName) prog_70_method_8_code 24 (some (.array .long)) ({ frames := 0, cells := 1, slots := 2, locals := 0 } : Room) [] #[(.long xh), (.long xl), (.long yh), (.long yl)] h0 (fun v h' => ∃ (b : Addr) (zh zl : Int64), v = some (.ref b) ∧ Keep h0 h' [] ∧ h0.size ≤ b ∧ n0 ≤ b ∧ own_AL Z h' b .long [.long zh, .long zl] ∧ own_pk zh zl = own_gM (own_pk xh xl) (own_pk yh yl)) := by
  refine own_enter (plainFor_of_name own_pn_com_example_libcachet_libcachet_Ghash) Z0 #[.val (.long xh), .second, .val (.long xl), .second, .val (.long yh), .second, .val (.long yl), .second, .unset, .unset, .unset, .unset, .unset, .unset, .unset, .unset, .unset, .unset, .unset, .unset, .unset, .unset, .unset, .unset] (fun m => by first | (simp [entryFrame, mkF, argsToLocals, Value.category]; done) | rfl) ?_
  intro p e s m below meth c T A X0 hret hnm fin
  refine own_lpush X0 own_d_prog_70_method_8_code_0 ?_
  refine own_lstore X0 #[.val (.long xh), .second, .val (.long xl), .second, .val (.long yh), .second, .val (.long yl), .second, .val (.long (0 : Int64)), .second, .unset, .unset, .unset, .unset, .unset, .unset, .unset, .unset, .unset, .unset, .unset, .unset, .unset, .unset] own_d_prog_70_method_8_code_1 rfl ?_
  refine own_lpush X0 own_d_prog_70_method_8_code_3 ?_
  refine own_lstore X0 #[.val (.long xh), .second, .val (.long xl), .second, .val (.long yh), .second, .val (.long yl), .second, .val (.long (0 : Int64)), .second, .val (.long (0 : Int64)), .second, .unset, .unset, .unset, .unset, .unset, .unset, .unset, .unset, .unset, .unset, .unset, .unset] own_d_prog_70_method_8_code_4 rfl ?_
  refine own_lload X0 own_d_prog_70_method_8_code_6 rfl ?_
  refine own_lstore X0 #[.val (.long xh), .second, .val (.long xl), .second, .val (.long yh), .second, .val (.long yl), .second, .val (.long (0 : Int64)), .second, .val (.long (0 : Int64)), .second, .val (.long yh), .second, .unset, .unset, .unset, .unset, .unset, .unset, .unset, .unset, .unset, .unset] own_d_prog_70_method_8_code_8 rfl ?_
  refine own_lload X0 own_d_prog_70_method_8_code_10 rfl ?_
  refine own_lstore X0 #[.val (.long xh), .second, .val (.long xl), .second, .val (.long yh), .second, .val (.long yl), .second, .val (.long (0 : Int64)), .second, .val (.long (0 : Int64)), .second, .val (.long yh), .second, .val (.long yl), .second, .unset, .unset, .unset, .unset, .unset, .unset, .unset, .unset] own_d_prog_70_method_8_code_12 rfl ?_
  refine own_ipush X0 own_d_prog_70_method_8_code_14 ?_
  refine own_istore X0 #[.val (.long xh), .second, .val (.long xl), .second, .val (.long yh), .second, .val (.long yl), .second, .val (.long (0 : Int64)), .second, .val (.long (0 : Int64)), .second, .val (.long yh), .second, .val (.long yl), .second, .val (.int (0 : Int32)), .unset, .unset, .unset, .unset, .unset, .unset, .unset] own_d_prog_70_method_8_code_15 rfl ?_
  refine own_iload X0 own_d_prog_70_method_8_code_17 rfl ?_
  refine own_ipush X0 own_d_prog_70_method_8_code_19 ?_
  refine own_icNo X0 own_d_prog_70_method_8_code_20 (tlt (by decide)).2.1 ?_
  refine own_iload X0 own_d_prog_70_method_8_code_23 rfl ?_
  refine own_ifNo X0 own_d_prog_70_method_8_code_25 ((if0 _ _).trans (teq rfl).2) ?_
  refine own_lload X0 own_d_prog_70_method_8_code_28 rfl ?_
  refine own_goto X0 own_d_prog_70_method_8_code_29 ?_
  refine own_lstore X0 #[.val (.long xh), .second, .val (.long xl), .second, .val (.long yh), .second, .val (.long yl), .second, .val (.long (0 : Int64)), .second, .val (.long (0 : Int64)), .second, .val (.long yh), .second, .val (.long yl), .second, .val (.int (0 : Int32)), .val (.long xh), .second, .unset, .unset, .unset, .unset, .unset] own_d_prog_70_method_8_code_33 rfl ?_
  refine own_ipush X0 own_d_prog_70_method_8_code_35 ?_
  refine own_istore X0 #[.val (.long xh), .second, .val (.long xl), .second, .val (.long yh), .second, .val (.long yl), .second, .val (.long (0 : Int64)), .second, .val (.long (0 : Int64)), .second, .val (.long yh), .second, .val (.long yl), .second, .val (.int (0 : Int32)), .val (.long xh), .second, .val (.int (63 : Int32)), .unset, .unset, .unset, .unset] own_d_prog_70_method_8_code_37 rfl ?_
  refine own_mulLoop hw X0 xh xl yh yl xh (0 : Int32) 64 (0 : Int64) (0 : Int64) yh yl .unset .unset .unset .unset (by decide) (Or.inl ⟨rfl, rfl⟩) (Or.inl ⟨rfl, rfl⟩) ?_
  intro ph1 pl1 vh1 vl1 u1a u1b u1c u1d c1a c1b e1
  refine own_iinc X0 #[.val (.long xh), .second, .val (.long xl), .second, .val (.long yh), .second, .val (.long yl), .second, .val (.long ph1), .second, .val (.long pl1), .second, .val (.long vh1), .second, .val (.long vl1), .second, .val (.int (1 : Int32)), .val (.long xh), .second, .val (.int (own_dn 0)), u1a, u1b, u1c, u1d] own_d_prog_70_method_8_code_112 rfl rfl ?_
  refine own_goto X0 own_d_prog_70_method_8_code_115 ?_
  refine own_iload X0 own_d_prog_70_method_8_code_17 rfl ?_
  refine own_ipush X0 own_d_prog_70_method_8_code_19 ?_
  refine own_icNo X0 own_d_prog_70_method_8_code_20 (tlt (by decide)).2.1 ?_
  refine own_iload X0 own_d_prog_70_method_8_code_23 rfl ?_
  refine own_ifYes X0 own_d_prog_70_method_8_code_25 ((if0 _ _).trans (feq (by decide)).2) ?_
  refine own_lload X0 own_d_prog_70_method_8_code_32 rfl ?_
  refine own_lstore X0 #[.val (.long xh), .second, .val (.long xl), .second, .val (.long yh), .second, .val (.long yl), .second, .val (.long ph1), .second, .val (.long pl1), .second, .val (.long vh1), .second, .val (.long vl1), .second, .val (.int (1 : Int32)), .val (.long xl), .second, .val (.int (own_dn 0)), u1a, u1b, u1c, u1d] own_d_prog_70_method_8_code_33 rfl ?_
  refine own_ipush X0 own_d_prog_70_method_8_code_35 ?_
  refine own_istore X0 #[.val (.long xh), .second, .val (.long xl), .second, .val (.long yh), .second, .val (.long yl), .second, .val (.long ph1), .second, .val (.long pl1), .second, .val (.long vh1), .second, .val (.long vl1), .second, .val (.int (1 : Int32)), .val (.long xl), .second, .val (.int (63 : Int32)), u1a, u1b, u1c, u1d] own_d_prog_70_method_8_code_37 rfl ?_
  refine own_mulLoop hw X0 xh xl yh yl xl (1 : Int32) 64 ph1 pl1 vh1 vl1 u1a u1b u1c u1d (by decide) c1a c1b ?_
  intro ph2 pl2 vh2 vl2 u2a u2b u2c u2d c2a c2b e2
  refine own_iinc X0 #[.val (.long xh), .second, .val (.long xl), .second, .val (.long yh), .second, .val (.long yl), .second, .val (.long ph2), .second, .val (.long pl2), .second, .val (.long vh2), .second, .val (.long vl2), .second, .val (.int (2 : Int32)), .val (.long xl), .second, .val (.int (own_dn 0)), u2a, u2b, u2c, u2d] own_d_prog_70_method_8_code_112 rfl rfl ?_
  refine own_goto X0 own_d_prog_70_method_8_code_115 ?_
  refine own_iload X0 own_d_prog_70_method_8_code_17 rfl ?_
  refine own_ipush X0 own_d_prog_70_method_8_code_19 ?_
  refine own_icYes X0 own_d_prog_70_method_8_code_20 (flt (by decide)).2.1 ?_
  refine own_ipush X0 own_d_prog_70_method_8_code_118 ?_
  refine own_newarr X0 (hw _ (List.mem_of_getElem? (i := 27) rfl)) own_d_prog_70_method_8_code_119 (n := 2) ⟨by decide, by decide⟩ 2 (Nat.le_refl _) (by decide) (by decide) (by decide) ?_
  intro T1 h1 b1 X1 E1 g1 ga_b1 V1
  have sz_b1 : h0.size ≤ b1 := by rw [g1]; exact (Keep.refl h0 []).1
  have K1 : Keep h0 h1 [] := (Keep.refl h0 []).ext E1
  replace V1 : own_AL Z h1 b1 .long [(.long (0 : Int64)), (.long (0 : Int64))] := V1
  refine own_dup X1 own_d_prog_70_method_8_code_121 rfl ?_
  refine own_ipush X1 own_d_prog_70_method_8_code_122 ?_
  refine own_lload X1 own_d_prog_70_method_8_code_123 rfl ?_
  refine own_lastore X1 V1 ga_b1 (i := 0) ⟨by decide, by decide⟩ (Nat.le_of_ble_eq_true rfl) own_d_prog_70_method_8_code_125 ?_
  intro T2 h2 X2 W2 V2
  have K2 : Keep h0 h2 [] := K1.wr W2 (Or.inr sz_b1)
  replace V2 : own_AL Z h2 b1 .long [(.long ph2), (.long (0 : Int64))] := V2
  refine own_dup X2 own_d_prog_70_method_8_code_126 rfl ?_
  refine own_ipush X2 own_d_prog_70_method_8_code_127 ?_
  refine own_lload X2 own_d_prog_70_method_8_code_128 rfl ?_
  refine own_lastore X2 V2 ga_b1 (i := 1) ⟨by decide, by decide⟩ (Nat.le_of_ble_eq_true rfl) own_d_prog_70_method_8_code_130 ?_
  intro T3 h3 X3 W3 V3
  have K3 : Keep h0 h3 [] := K2.wr W3 (Or.inr sz_b1)
  replace V3 : own_AL Z h3 b1 .long [(.long ph2), (.long pl2)] := V3
  have hz : own_pk ph2 pl2 = own_gM (own_pk xh xl) (own_pk yh yl) := by rw [← own_gW_mul]; rw [own_pk_0] at e1; rw [← e1, ← e2]
  exact own_retA X3 hret rfl rfl fin (by decide) (by decide) ⟨b1, ph2, pl2, rfl, K3, sz_b1, ga_b1, V3, hz⟩ own_d_prog_70_method_8_code_131
set_option maxRecDepth 65536 in
set_option maxHeartbeats 40000000 in
theorem own_bytes (l : Launch) (Z : State) (a0 : Array Value) (hw : ∀ d ∈ tables_1, d.before a0 Z = true) (hi lo : Int64) (h0 : Heap) (n0 : Nat) (Z0 : n0 ≤ h0.size)  :
    own_Con l Z n0 (⟨"com/example/libcachet/libcachet/Ghash", "bytes", "(JJ)[B"⟩ : MethodName) prog_70_method_10_code 6 (some (.array .byte)) ({ frames := 0, cells := 1, slots := 16, locals := 0 } : Room) [] #[(.long hi), (.long lo)] h0 (fun v h' => ∃ b : Addr, v = some (.ref b) ∧ Keep h0 h' [] ∧ h0.size ≤ b ∧ n0 ≤ b ∧ own_AF Z h' b .byte 16 (own_b16 hi lo)) := by
  refine own_enter (plainFor_of_name own_pn_com_example_libcachet_libcachet_Ghash) Z0 #[.val (.long hi), .second, .val (.long lo), .second, .unset, .unset] (fun m => by first | (simp [entryFrame, mkF, argsToLocals, Value.category]; done) | rfl) ?_
  intro p e s m below meth c T A X0 hret hnm fin
  refine own_ipush X0 own_d_prog_70_method_10_code_0 ?_
  refine own_newarr X0 (hw _ (List.mem_of_getElem? (i := 1) rfl)) own_d_prog_70_method_10_code_2 (n := 16) ⟨by decide, by decide⟩ 16 (Nat.le_refl _) (by decide) (by decide) (by decide) ?_
  intro T1 h1 b1 X1 E1 g1 ga_b1 V1
  have sz_b1 : h0.size ≤ b1 := by rw [g1]; exact (Keep.refl h0 []).1
  have K1 : Keep h0 h1 [] := (Keep.refl h0 []).ext E1
  replace V1 : own_AL Z h1 b1 .byte [(.int (0 : Int32)), (.int (0 : Int32)), (.int (0 : Int32)), (.int (0 : Int32)), (.int (0 : Int32)), (.int (0 : Int32)), (.int (0 : Int32)), (.int (0 : Int32)), (.int (0 : Int32)), (.int (0 : Int32)), (.int (0 : Int32)), (.int (0 : Int32)), (.int (0 : Int32)), (.int (0 : Int32)), (.int (0 : Int32)), (.int (0 : Int32))] := V1
  refine own_astore X1 #[.val (.long hi), .second, .val (.long lo), .second, .val (.ref b1), .unset] own_d_prog_70_method_10_code_4 rfl ?_
  refine own_ipush X1 own_d_prog_70_method_10_code_6 ?_
  refine own_istore X1 #[.val (.long hi), .second, .val (.long lo), .second, .val (.ref b1), .val (.int (0 : Int32))] own_d_prog_70_method_10_code_7 rfl ?_
  have V0 : own_AF Z h1 b1 .byte 16 (own_b16i hi lo 0) := (V1.fn 16 rfl (.int 0)).to (fun j hj => own_b16i_0 hi lo j hj)
  suffices LOOP : ∀ (r i : Nat) (Tq : State) (hq : Heap), i + r = 8 → own_St p l e ({ frames := 0, cells := 1, slots := 16, locals := 0 } : Room) s m #[(.long hi), (.long lo)] below meth c Z n0 prog_70_method_10_code 6 "com/example/libcachet/libcachet/Ghash" Tq hq 1 16 → own_AF Z hq b1 .byte 16 (own_b16i hi lo i) → Keep h0 hq [] → own_Wins p e below A Tq (mkF m 9 #[.val (.long hi), .second, .val (.long lo), .second, .val (.ref b1), .val (.int (Int32.ofNat i))] []) by
    exact LOOP 8 0 T1 h1 rfl X1 V0 K1
  intro r
  induction r with
  | zero =>
    intro i Tq hq hi8 Xq Vq Kq
    obtain rfl : i = 8 := by omega
    refine own_iload Xq own_d_prog_70_method_10_code_9 rfl ?_
    refine own_ipush Xq own_d_prog_70_method_10_code_11 ?_
    refine own_icYes Xq own_d_prog_70_method_10_code_13 (flt (by decide)).2.1 ?_
    refine own_aload Xq own_d_prog_70_method_10_code_59 rfl ?_
    exact own_retA Xq hret rfl rfl fin (by decide) (by decide) ⟨b1, rfl, Kq, sz_b1, ga_b1, Vq.to (fun j hj => own_b16i_8 hi lo j hj)⟩ own_d_prog_70_method_10_code_61
  | succ r ih =>
    intro i Tq hq hi8 Xq Vq Kq
    have hi_ : own_idx (Int32.ofNat i) i := own_idx_nat (by omega)
    refine own_iload Xq own_d_prog_70_method_10_code_9 rfl ?_
    refine own_ipush Xq own_d_prog_70_method_10_code_11 ?_
    refine own_icNo Xq own_d_prog_70_method_10_code_13 (tlt ((own_idx_lt hi_ (n := 8) ⟨by decide, by decide⟩).mpr (by omega))).2.1 ?_
    have hsh : ((56 : Int32) - ((8 : Int32) * (Int32.ofNat i))).toBitVec.toNat % 64 = 56 - 8 * i := own_hsh i (by omega)
    refine own_aload Xq own_d_prog_70_method_10_code_16 rfl ?_
    refine own_iload Xq own_d_prog_70_method_10_code_18 rfl ?_
    refine own_lload Xq own_d_prog_70_method_10_code_20 rfl ?_
    refine own_ipush Xq own_d_prog_70_method_10_code_21 ?_
    refine own_ipush Xq own_d_prog_70_method_10_code_23 ?_
    refine own_iload Xq own_d_prog_70_method_10_code_25 rfl ?_
    refine own_imul Xq own_d_prog_70_method_10_code_27 ?_
    refine own_isub Xq own_d_prog_70_method_10_code_28 ?_
    refine own_lushr Xq own_d_prog_70_method_10_code_29 ?_
    refine own_l2i Xq own_d_prog_70_method_10_code_30 ?_
    refine own_i2b Xq own_d_prog_70_method_10_code_31 ?_
    refine own_bastoreF Xq Vq ga_b1 (i := i) hi_ (by omega) own_d_prog_70_method_10_code_32 ?_
    intro T2 h2 X2 W2 V2
    have K2 : Keep h0 h2 [] := Kq.wr W2 (Or.inr sz_b1)
    replace V2 : own_AF Z h2 b1 .byte 16 (own_up (own_b16i hi lo i) i (.int (((((own_Lushr hi ((56 : Int32) - ((8 : Int32) * (Int32.ofNat i))))).toInt32)).toInt8.toInt32).toInt8.toInt32)) := V2
    refine own_aload X2 own_d_prog_70_method_10_code_33 rfl ?_
    refine own_iload X2 own_d_prog_70_method_10_code_35 rfl ?_
    refine own_ipush X2 own_d_prog_70_method_10_code_37 ?_
    refine own_iadd X2 own_d_prog_70_method_10_code_39 ?_
    refine own_lload X2 own_d_prog_70_method_10_code_40 rfl ?_
    refine own_ipush X2 own_d_prog_70_method_10_code_41 ?_
    refine own_ipush X2 own_d_prog_70_method_10_code_43 ?_
    refine own_iload X2 own_d_prog_70_method_10_code_45 rfl ?_
    refine own_imul X2 own_d_prog_70_method_10_code_47 ?_
    refine own_isub X2 own_d_prog_70_method_10_code_48 ?_
    refine own_lushr X2 own_d_prog_70_method_10_code_49 ?_
    refine own_l2i X2 own_d_prog_70_method_10_code_50 ?_
    refine own_i2b X2 own_d_prog_70_method_10_code_51 ?_
    refine own_bastoreF X2 V2 ga_b1 (i := (i + 8)) (own_idx_add hi_ (n := 8) ⟨by decide, by decide⟩ (by omega)) (by omega) own_d_prog_70_method_10_code_52 ?_
    intro T3 h3 X3 W3 V3
    have K3 : Keep h0 h3 [] := K2.wr W3 (Or.inr sz_b1)
    replace V3 : own_AF Z h3 b1 .byte 16 (own_up (own_up (own_b16i hi lo i) i (.int (((((own_Lushr hi ((56 : Int32) - ((8 : Int32) * (Int32.ofNat i))))).toInt32)).toInt8.toInt32).toInt8.toInt32)) (i + 8) (.int (((((own_Lushr lo ((56 : Int32) - ((8 : Int32) * (Int32.ofNat i))))).toInt32)).toInt8.toInt32).toInt8.toInt32)) := V3
    rw [own_bt8 hi _ i (by omega) hsh, own_bt8 lo _ i (by omega) hsh] at V3
    replace V3 := V3.to (fun j hj => own_b16i_up hi lo i j (by omega) hj)
    refine own_iinc X3 #[.val (.long hi), .second, .val (.long lo), .second, .val (.ref b1), .val (.int ((Int32.ofNat i) + (1 : Int32)))] own_d_prog_70_method_10_code_53 rfl rfl ?_
    refine own_goto X3 own_d_prog_70_method_10_code_56 ?_
    rw [own_succ]
    exact ih (i + 1) _ _ (by omega) X3 V3 K3
set_option maxRecDepth 65536 in
set_option maxHeartbeats 40000000 in
theorem own_get (l : Launch) (Z : State) (a0 : Array Value) (hw : ∀ d ∈ tables_1, d.before a0 Z = true) (a : Addr) (j : Int32) (k : Nat) (x_ : Int64) (g : Nat → Value) (h0 : Heap) (n0 : Nat) (Z0 : n0 ≤ h0.size) (V : own_AF Z h0 a .byte 16 g) (hj : own_idx j k) (hk : k + 8 ≤ 16) (hf : ∀ i, i < 8 → g (k + i) = .int (own_bt x_ i)) :
    own_Con l Z n0 (⟨"com/example/libcachet/libcachet/GhashFinishPinLaw", "get", "([BI)J"⟩ : MethodName) method_4_code 2 (some .long) ({ frames := 0, cells := 0, slots := 0, locals := 0 } : Room) [] #[(.ref a), (.int j)] h0 (fun v h' => v = some (.long x_) ∧ h' = h0) := by
  refine own_enter (plainFor_of_name own_pn_com_example_libcachet_libcachet_GhashFinishPinLaw) Z0 #[.val (.ref a), .val (.int j)] (fun m => by first | (simp [entryFrame, mkF, argsToLocals, Value.category]; done) | rfl) ?_
  intro p e s m below meth c T A X0 hret hnm fin
  refine own_aload X0 own_d_method_4_code_0 rfl ?_
  refine own_iload X0 own_d_method_4_code_1 rfl ?_
  refine own_baloadF X0 V (i := k) hj (by omega) (hf 0 (by omega)) own_d_method_4_code_2 ?_
  refine own_ipush X0 own_d_method_4_code_3 ?_
  refine own_iand X0 own_d_method_4_code_6 ?_
  refine own_i2l X0 own_d_method_4_code_7 ?_
  refine own_ipush X0 own_d_method_4_code_8 ?_
  refine own_lshl X0 own_d_method_4_code_10 ?_
  refine own_aload X0 own_d_method_4_code_11 rfl ?_
  refine own_iload X0 own_d_method_4_code_12 rfl ?_
  refine own_ipush X0 own_d_method_4_code_13 ?_
  refine own_iadd X0 own_d_method_4_code_14 ?_
  refine own_baloadF X0 V (i := (k + 1)) (own_idx_add hj (n := 1) ⟨by decide, by decide⟩ (by omega)) (by omega) (hf 1 (by omega)) own_d_method_4_code_15 ?_
  refine own_ipush X0 own_d_method_4_code_16 ?_
  refine own_iand X0 own_d_method_4_code_19 ?_
  refine own_i2l X0 own_d_method_4_code_20 ?_
  refine own_ipush X0 own_d_method_4_code_21 ?_
  refine own_lshl X0 own_d_method_4_code_23 ?_
  refine own_lor X0 own_d_method_4_code_24 ?_
  refine own_aload X0 own_d_method_4_code_25 rfl ?_
  refine own_iload X0 own_d_method_4_code_26 rfl ?_
  refine own_ipush X0 own_d_method_4_code_27 ?_
  refine own_iadd X0 own_d_method_4_code_28 ?_
  refine own_baloadF X0 V (i := (k + 2)) (own_idx_add hj (n := 2) ⟨by decide, by decide⟩ (by omega)) (by omega) (hf 2 (by omega)) own_d_method_4_code_29 ?_
  refine own_ipush X0 own_d_method_4_code_30 ?_
  refine own_iand X0 own_d_method_4_code_33 ?_
  refine own_i2l X0 own_d_method_4_code_34 ?_
  refine own_ipush X0 own_d_method_4_code_35 ?_
  refine own_lshl X0 own_d_method_4_code_37 ?_
  refine own_lor X0 own_d_method_4_code_38 ?_
  refine own_aload X0 own_d_method_4_code_39 rfl ?_
  refine own_iload X0 own_d_method_4_code_40 rfl ?_
  refine own_ipush X0 own_d_method_4_code_41 ?_
  refine own_iadd X0 own_d_method_4_code_42 ?_
  refine own_baloadF X0 V (i := (k + 3)) (own_idx_add hj (n := 3) ⟨by decide, by decide⟩ (by omega)) (by omega) (hf 3 (by omega)) own_d_method_4_code_43 ?_
  refine own_ipush X0 own_d_method_4_code_44 ?_
  refine own_iand X0 own_d_method_4_code_47 ?_
  refine own_i2l X0 own_d_method_4_code_48 ?_
  refine own_ipush X0 own_d_method_4_code_49 ?_
  refine own_lshl X0 own_d_method_4_code_51 ?_
  refine own_lor X0 own_d_method_4_code_52 ?_
  refine own_aload X0 own_d_method_4_code_53 rfl ?_
  refine own_iload X0 own_d_method_4_code_54 rfl ?_
  refine own_ipush X0 own_d_method_4_code_55 ?_
  refine own_iadd X0 own_d_method_4_code_56 ?_
  refine own_baloadF X0 V (i := (k + 4)) (own_idx_add hj (n := 4) ⟨by decide, by decide⟩ (by omega)) (by omega) (hf 4 (by omega)) own_d_method_4_code_57 ?_
  refine own_ipush X0 own_d_method_4_code_58 ?_
  refine own_iand X0 own_d_method_4_code_61 ?_
  refine own_i2l X0 own_d_method_4_code_62 ?_
  refine own_ipush X0 own_d_method_4_code_63 ?_
  refine own_lshl X0 own_d_method_4_code_65 ?_
  refine own_lor X0 own_d_method_4_code_66 ?_
  refine own_aload X0 own_d_method_4_code_67 rfl ?_
  refine own_iload X0 own_d_method_4_code_68 rfl ?_
  refine own_ipush X0 own_d_method_4_code_69 ?_
  refine own_iadd X0 own_d_method_4_code_70 ?_
  refine own_baloadF X0 V (i := (k + 5)) (own_idx_add hj (n := 5) ⟨by decide, by decide⟩ (by omega)) (by omega) (hf 5 (by omega)) own_d_method_4_code_71 ?_
  refine own_ipush X0 own_d_method_4_code_72 ?_
  refine own_iand X0 own_d_method_4_code_75 ?_
  refine own_i2l X0 own_d_method_4_code_76 ?_
  refine own_ipush X0 own_d_method_4_code_77 ?_
  refine own_lshl X0 own_d_method_4_code_79 ?_
  refine own_lor X0 own_d_method_4_code_80 ?_
  refine own_aload X0 own_d_method_4_code_81 rfl ?_
  refine own_iload X0 own_d_method_4_code_82 rfl ?_
  refine own_ipush X0 own_d_method_4_code_83 ?_
  refine own_iadd X0 own_d_method_4_code_85 ?_
  refine own_baloadF X0 V (i := (k + 6)) (own_idx_add hj (n := 6) ⟨by decide, by decide⟩ (by omega)) (by omega) (hf 6 (by omega)) own_d_method_4_code_86 ?_
  refine own_ipush X0 own_d_method_4_code_87 ?_
  refine own_iand X0 own_d_method_4_code_90 ?_
  refine own_i2l X0 own_d_method_4_code_91 ?_
  refine own_ipush X0 own_d_method_4_code_92 ?_
  refine own_lshl X0 own_d_method_4_code_94 ?_
  refine own_lor X0 own_d_method_4_code_95 ?_
  refine own_aload X0 own_d_method_4_code_96 rfl ?_
  refine own_iload X0 own_d_method_4_code_97 rfl ?_
  refine own_ipush X0 own_d_method_4_code_98 ?_
  refine own_iadd X0 own_d_method_4_code_100 ?_
  refine own_baloadF X0 V (i := (k + 7)) (own_idx_add hj (n := 7) ⟨by decide, by decide⟩ (by omega)) (by omega) (hf 7 (by omega)) own_d_method_4_code_101 ?_
  refine own_ipush X0 own_d_method_4_code_102 ?_
  refine own_iand X0 own_d_method_4_code_105 ?_
  refine own_i2l X0 own_d_method_4_code_106 ?_
  refine own_lor X0 own_d_method_4_code_107 ?_
  exact own_retJ X0 hret fin (by decide) (by decide) ⟨congrArg (fun z => some (Value.long z)) (own_get8 x_), rfl⟩ own_d_method_4_code_108
set_option maxRecDepth 65536 in
set_option maxHeartbeats 40000000 in
theorem own_ctor (l : Launch) (Z : State) (a0 : Array Value) (hw : ∀ d ∈ tables_1, d.before a0 Z = true) (a cb : Addr) (hi lo : Int64) (h0 : Heap) (n0 : Nat) (Z0 : n0 ≤ h0.size) (O : own_Obj Z h0 a "com/example/libcachet/libcachet/Ghash" own_ns_Gh [(.long (0 : Int64)), (.long (0 : Int64)), .null, (.int (0 : Int32)), (.long (0 : Int64)), (.long (0 : Int64)), (.long (0 : Int64)), (.long (0 : Int64)), .null, .null]) (ga : n0 ≤ a) (hac : a ≠ cb) (Vb : own_AF Z h0 cb .byte 16 (own_b16 hi lo)) :
    own_Con l Z n0 (⟨"com/example/libcachet/libcachet/Ghash", "<init>", "([B)V"⟩ : MethodName) prog_70_method_1_code 2 none ({ frames := 1, cells := 1, slots := 2, locals := 38 } : Room) [] #[(.ref a), (.ref cb)] h0 (fun v h' => ∃ (b : Addr) (zh zl : Int64), v = none ∧ Keep h0 h' [a] ∧ own_Obj Z h' a "com/example/libcachet/libcachet/Ghash" own_ns_Gh [(.long hi), (.long lo), (.ref b), (.int (0 : Int32)), (.long (0 : Int64)), (.long (0 : Int64)), (.long (0 : Int64)), (.long (0 : Int64)), .null, .null] ∧ own_AL Z h' b .long [.long zh, .long zl] ∧ h0.size ≤ b ∧ n0 ≤ b ∧ own_pk zh zl = own_gM (own_pk 0 128) (own_pk hi lo)) := by
  refine own_enter (plainFor_of_name own_pn_com_example_libcachet_libcachet_Ghash) Z0 #[.val (.ref a), .val (.ref cb)] (fun m => by first | (simp [entryFrame, mkF, argsToLocals, Value.category]; done) | rfl) ?_
  intro p e s m below meth c T A X0 hret hnm fin
  refine own_aload X0 own_d_prog_70_method_1_code_0 rfl ?_
  refine own_initO X0 (hw _ (List.mem_of_getElem? (i := 12) rfl)) (hw _ (List.mem_of_getElem? (i := 13) rfl)) (hw _ (List.mem_of_getElem? (i := 14) rfl)) own_d_prog_70_method_1_code_1 rfl (by decide) 0 (by show 2 * 0 + _ ≤ _; exact Nat.le_of_eq rfl) (by decide) ?_
  intro T1 X1
  refine own_aload X1 own_d_prog_70_method_1_code_4 rfl ?_
  refine own_aload X1 own_d_prog_70_method_1_code_5 rfl ?_
  refine own_ipush X1 own_d_prog_70_method_1_code_6 ?_
  refine own_callS X1 (y := (⟨"com/example/libcachet/libcachet/Ghash", "long8", "([BI)J"⟩ : MethodName)) [(.ref cb), (.int (0 : Int32))] [(.ref a)] 1 rfl (hw _ (List.mem_of_getElem? (i := 15) rfl)) (hw _ (List.mem_of_getElem? (i := 16) rfl)) (hw _ (List.mem_of_getElem? (i := 8) rfl)) (hw _ (List.mem_of_getElem? (i := 17) rfl)) (by decide) (own_long8 l Z a0 hw cb (0 : Int32) 0 16 (own_bt hi) _ h0 n0 X1.sz Vb ⟨by decide, by decide⟩ (by decide) (by decide) (fun i hi => by simp only [own_b16]; rw [if_pos (by omega)]; congr 2; omega)) own_d_prog_70_method_1_code_7 own_pd___BI_J rfl rfl (by show 2 * 0 + _ ≤ _; exact Nat.le_of_eq rfl) (by decide) (by decide) (by decide) (by decide) ?_
  intro T3 h3 v3 X3 P3
  obtain ⟨rfl, eh3⟩ := P3
  rw [eh3] at X3
  show own_Wins p e below A T3 (mkF m 10 #[.val (.ref a), .val (.ref cb)] [(.long (own_be (own_bt hi) 8)), (.ref a)])
  rw [(own_b16_be hi lo).1]
  show own_Wins p e below A T3 (mkF m 10 #[.val (.ref a), .val (.ref cb)] [(.long hi), (.ref a)])
  refine own_putF X3 (k := 0) (ty := .long) (hw _ (List.mem_of_getElem? (i := 18) rfl)) O (own_laid_Gh hw) rfl (Or.inr ⟨(hw _ (List.mem_of_getElem? (i := 19) rfl)), rfl, hnm⟩) (hw _ (List.mem_of_getElem? (i := 7) rfl)) (by decide) rfl rfl ga own_d_prog_70_method_1_code_10 ?_
  intro T4 h4 X4 W4 V4
  have K4 : Keep h0 h4 [a] := (Keep.refl h0 [a]).wr W4 (Or.inl (by simp))
  replace V4 : own_Obj Z h4 a "com/example/libcachet/libcachet/Ghash" own_ns_Gh [(.long hi), (.long (0 : Int64)), .null, (.int (0 : Int32)), (.long (0 : Int64)), (.long (0 : Int64)), (.long (0 : Int64)), (.long (0 : Int64)), .null, .null] := V4
  have F5_cb : own_AF Z h4 cb .byte 16 (own_b16 hi lo) := Vb.other W4 (Ne.symm hac)
  refine own_aload X4 own_d_prog_70_method_1_code_13 rfl ?_
  refine own_aload X4 own_d_prog_70_method_1_code_14 rfl ?_
  refine own_ipush X4 own_d_prog_70_method_1_code_15 ?_
  refine own_callS X4 (y := (⟨"com/example/libcachet/libcachet/Ghash", "long8", "([BI)J"⟩ : MethodName)) [(.ref cb), (.int (8 : Int32))] [(.ref a)] 1 rfl (hw _ (List.mem_of_getElem? (i := 15) rfl)) (hw _ (List.mem_of_getElem? (i := 16) rfl)) (hw _ (List.mem_of_getElem? (i := 8) rfl)) (hw _ (List.mem_of_getElem? (i := 17) rfl)) (by decide) (own_long8 l Z a0 hw cb (8 : Int32) 8 16 (own_bt lo) _ h4 n0 X4.sz F5_cb ⟨by decide, by decide⟩ (by decide) (by decide) (fun i hi => by simp only [own_b16]; rw [if_neg (by omega)]; congr 2; omega)) own_d_prog_70_method_1_code_17 own_pd___BI_J rfl rfl (by show 2 * 0 + _ ≤ _; exact Nat.le_of_eq rfl) (by decide) (by decide) (by decide) (by decide) ?_
  intro T7 h7 v7 X7 P7
  obtain ⟨rfl, eh7⟩ := P7
  rw [eh7] at X7
  show own_Wins p e below A T7 (mkF m 20 #[.val (.ref a), .val (.ref cb)] [(.long (own_be (own_bt lo) 8)), (.ref a)])
  rw [(own_b16_be hi lo).2]
  show own_Wins p e below A T7 (mkF m 20 #[.val (.ref a), .val (.ref cb)] [(.long lo), (.ref a)])
  refine own_putF X7 (k := 1) (ty := .long) (hw _ (List.mem_of_getElem? (i := 20) rfl)) V4 (own_laid_Gh hw) rfl (Or.inr ⟨(hw _ (List.mem_of_getElem? (i := 21) rfl)), rfl, hnm⟩) (hw _ (List.mem_of_getElem? (i := 7) rfl)) (by decide) rfl rfl ga own_d_prog_70_method_1_code_20 ?_
  intro T8 h8 X8 W8 V8
  have K8 : Keep h0 h8 [a] := K4.wr W8 (Or.inl (by simp))
  replace V8 : own_Obj Z h8 a "com/example/libcachet/libcachet/Ghash" own_ns_Gh [(.long hi), (.long lo), .null, (.int (0 : Int32)), (.long (0 : Int64)), (.long (0 : Int64)), (.long (0 : Int64)), (.long (0 : Int64)), .null, .null] := V8
  have F9_cb : own_AF Z h8 cb .byte 16 (own_b16 hi lo) := F5_cb.other W8 (Ne.symm hac)
  refine own_aload X8 own_d_prog_70_method_1_code_23 rfl ?_
  refine own_lpush X8 own_d_prog_70_method_1_code_24 ?_
  refine own_ldc2 X8 (hw _ (List.mem_of_getElem? (i := 22) rfl)) own_d_prog_70_method_1_code_25 ?_
  refine own_aload X8 own_d_prog_70_method_1_code_28 rfl ?_
  refine own_getF X8 (host := "") (k := 0) (hw _ (List.mem_of_getElem? (i := 18) rfl)) V8 rfl rfl own_d_prog_70_method_1_code_29 ?_
  intro T10 X10
  refine own_aload X10 own_d_prog_70_method_1_code_32 rfl ?_
  refine own_getF X10 (host := "") (k := 1) (hw _ (List.mem_of_getElem? (i := 20) rfl)) V8 rfl rfl own_d_prog_70_method_1_code_33 ?_
  intro T11 X11
  refine own_callS X11 (y := (⟨"com/example/libcachet/libcachet/Ghash", "multiply", "(JJJJ)[J"⟩ : MethodName)) [(.long (0 : Int64)), (.long (128 : Int64)), (.long hi), (.long lo)] [(.ref a)] 1 rfl (hw _ (List.mem_of_getElem? (i := 23) rfl)) (hw _ (List.mem_of_getElem? (i := 24) rfl)) (hw _ (List.mem_of_getElem? (i := 8) rfl)) (hw _ (List.mem_of_getElem? (i := 25) rfl)) (by decide) (own_multiply l Z a0 hw (0 : Int64) (128 : Int64) hi lo h8 n0 X11.sz) own_d_prog_70_method_1_code_36 own_pd__JJJJ__J rfl rfl (by show 2 * 0 + _ ≤ _; exact Nat.le_of_eq rfl) (by decide) (by decide) (by decide) (by decide) ?_
  intro T12 h12 v12 X12 P12
  obtain ⟨bmt, zht, zlt, rfl, Kc12, sz12, ga_bmt, V12, hzt⟩ := P12
  have ne_a_bmt : a ≠ bmt := Nat.ne_of_lt (Nat.lt_of_lt_of_le V8.lt sz12)
  have ne_cb_bmt : cb ≠ bmt := Nat.ne_of_lt (Nat.lt_of_lt_of_le F9_cb.lt sz12)
  have sz_bmt : h0.size ≤ bmt := Nat.le_trans K8.1 sz12
  have K12 : Keep h0 h12 [a] := K8.trans Kc12 all0
  have F13_a : own_Obj Z h12 a "com/example/libcachet/libcachet/Ghash" own_ns_Gh [(.long hi), (.long lo), .null, (.int (0 : Int32)), (.long (0 : Int64)), (.long (0 : Int64)), (.long (0 : Int64)), (.long (0 : Int64)), .null, .null] := V8.keep Kc12 nin0
  have F14_cb : own_AF Z h12 cb .byte 16 (own_b16 hi lo) := F9_cb.keep Kc12 nin0
  show own_Wins p e below A T12 (mkF m 39 #[.val (.ref a), .val (.ref cb)] [(.ref bmt), (.ref a)])
  refine own_putF X12 (k := 2) (ty := (.array .long)) (hw _ (List.mem_of_getElem? (i := 28) rfl)) F13_a (own_laid_Gh hw) rfl (Or.inr ⟨(hw _ (List.mem_of_getElem? (i := 29) rfl)), rfl, hnm⟩) (hw _ (List.mem_of_getElem? (i := 7) rfl)) (by decide) rfl rfl ga own_d_prog_70_method_1_code_39 ?_
  intro T15 h15 X15 W15 V15
  have K15 : Keep h0 h15 [a] := K12.wr W15 (Or.inl (by simp))
  replace V15 : own_Obj Z h15 a "com/example/libcachet/libcachet/Ghash" own_ns_Gh [(.long hi), (.long lo), (.ref bmt), (.int (0 : Int32)), (.long (0 : Int64)), (.long (0 : Int64)), (.long (0 : Int64)), (.long (0 : Int64)), .null, .null] := V15
  have F16_cb : own_AF Z h15 cb .byte 16 (own_b16 hi lo) := F14_cb.other W15 (Ne.symm hac)
  have F17_bmt : own_AL Z h15 bmt .long [(.long zht), (.long zlt)] := V12.other W15 (Ne.symm ne_a_bmt)
  exact own_ret0 X15 hret fin (by decide) (by decide) ⟨bmt, zht, zlt, rfl, K15, V15, F17_bmt, sz_bmt, ga_bmt, hzt⟩ own_d_prog_70_method_1_code_42
set_option maxRecDepth 65536 in
set_option maxHeartbeats 40000000 in
theorem own_put (l : Launch) (Z : State) (a0 : Array Value) (hw : ∀ d ∈ tables_1, d.before a0 Z = true) (a : Addr) (j : Int32) (k : Nat) (q : Int64) (g : Nat → Value) (h0 : Heap) (n0 : Nat) (Z0 : n0 ≤ h0.size) (V : own_AF Z h0 a .byte 16 g) (ga : n0 ≤ a) (hj : own_idx j k) (hk : k + 8 ≤ 16) :
    own_Con l Z n0 (⟨"com/example/libcachet/libcachet/GhashFinishPinLaw", "put", "([BIJ)V"⟩ : MethodName) method_3_code 4 none ({ frames := 0, cells := 0, slots := 0, locals := 0 } : Room) [] #[(.ref a), (.int j), (.long q)] h0 (fun v h' => v = none ∧ Keep h0 h' [a] ∧ own_AF Z h' a .byte 16 (own_p8 g k q)) := by
  refine own_enter (plainFor_of_name own_pn_com_example_libcachet_libcachet_GhashFinishPinLaw) Z0 #[.val (.ref a), .val (.int j), .val (.long q), .second] (fun m => by first | (simp [entryFrame, mkF, argsToLocals, Value.category]; done) | rfl) ?_
  intro p e s m below meth c T A X0 hret hnm fin
  refine own_aload X0 own_d_method_3_code_0 rfl ?_
  refine own_iload X0 own_d_method_3_code_1 rfl ?_
  refine own_lload X0 own_d_method_3_code_2 rfl ?_
  refine own_ipush X0 own_d_method_3_code_3 ?_
  refine own_lushr X0 own_d_method_3_code_5 ?_
  refine own_l2i X0 own_d_method_3_code_6 ?_
  refine own_i2b X0 own_d_method_3_code_7 ?_
  refine own_bastoreF X0 V ga (i := k) hj (by omega) own_d_method_3_code_8 ?_
  intro T1 h1 X1 W1 V1
  have K1 : Keep h0 h1 [a] := (Keep.refl h0 [a]).wr W1 (Or.inl (by simp))
  replace V1 : own_AF Z h1 a .byte 16 (own_up g k (.int (((((own_Lushr q (56 : Int32))).toInt32)).toInt8.toInt32).toInt8.toInt32)) := V1
  refine own_aload X1 own_d_method_3_code_9 rfl ?_
  refine own_iload X1 own_d_method_3_code_10 rfl ?_
  refine own_ipush X1 own_d_method_3_code_11 ?_
  refine own_iadd X1 own_d_method_3_code_12 ?_
  refine own_lload X1 own_d_method_3_code_13 rfl ?_
  refine own_ipush X1 own_d_method_3_code_14 ?_
  refine own_lushr X1 own_d_method_3_code_16 ?_
  refine own_l2i X1 own_d_method_3_code_17 ?_
  refine own_i2b X1 own_d_method_3_code_18 ?_
  refine own_bastoreF X1 V1 ga (i := (k + 1)) (own_idx_add hj (n := 1) ⟨by decide, by decide⟩ (by omega)) (by omega) own_d_method_3_code_19 ?_
  intro T2 h2 X2 W2 V2
  have K2 : Keep h0 h2 [a] := K1.wr W2 (Or.inl (by simp))
  replace V2 : own_AF Z h2 a .byte 16 (own_up (own_up g k (.int (((((own_Lushr q (56 : Int32))).toInt32)).toInt8.toInt32).toInt8.toInt32)) (k + 1) (.int (((((own_Lushr q (48 : Int32))).toInt32)).toInt8.toInt32).toInt8.toInt32)) := V2
  refine own_aload X2 own_d_method_3_code_20 rfl ?_
  refine own_iload X2 own_d_method_3_code_21 rfl ?_
  refine own_ipush X2 own_d_method_3_code_22 ?_
  refine own_iadd X2 own_d_method_3_code_23 ?_
  refine own_lload X2 own_d_method_3_code_24 rfl ?_
  refine own_ipush X2 own_d_method_3_code_25 ?_
  refine own_lushr X2 own_d_method_3_code_27 ?_
  refine own_l2i X2 own_d_method_3_code_28 ?_
  refine own_i2b X2 own_d_method_3_code_29 ?_
  refine own_bastoreF X2 V2 ga (i := (k + 2)) (own_idx_add hj (n := 2) ⟨by decide, by decide⟩ (by omega)) (by omega) own_d_method_3_code_30 ?_
  intro T3 h3 X3 W3 V3
  have K3 : Keep h0 h3 [a] := K2.wr W3 (Or.inl (by simp))
  replace V3 : own_AF Z h3 a .byte 16 (own_up (own_up (own_up g k (.int (((((own_Lushr q (56 : Int32))).toInt32)).toInt8.toInt32).toInt8.toInt32)) (k + 1) (.int (((((own_Lushr q (48 : Int32))).toInt32)).toInt8.toInt32).toInt8.toInt32)) (k + 2) (.int (((((own_Lushr q (40 : Int32))).toInt32)).toInt8.toInt32).toInt8.toInt32)) := V3
  refine own_aload X3 own_d_method_3_code_31 rfl ?_
  refine own_iload X3 own_d_method_3_code_32 rfl ?_
  refine own_ipush X3 own_d_method_3_code_33 ?_
  refine own_iadd X3 own_d_method_3_code_34 ?_
  refine own_lload X3 own_d_method_3_code_35 rfl ?_
  refine own_ipush X3 own_d_method_3_code_36 ?_
  refine own_lushr X3 own_d_method_3_code_38 ?_
  refine own_l2i X3 own_d_method_3_code_39 ?_
  refine own_i2b X3 own_d_method_3_code_40 ?_
  refine own_bastoreF X3 V3 ga (i := (k + 3)) (own_idx_add hj (n := 3) ⟨by decide, by decide⟩ (by omega)) (by omega) own_d_method_3_code_41 ?_
  intro T4 h4 X4 W4 V4
  have K4 : Keep h0 h4 [a] := K3.wr W4 (Or.inl (by simp))
  replace V4 : own_AF Z h4 a .byte 16 (own_up (own_up (own_up (own_up g k (.int (((((own_Lushr q (56 : Int32))).toInt32)).toInt8.toInt32).toInt8.toInt32)) (k + 1) (.int (((((own_Lushr q (48 : Int32))).toInt32)).toInt8.toInt32).toInt8.toInt32)) (k + 2) (.int (((((own_Lushr q (40 : Int32))).toInt32)).toInt8.toInt32).toInt8.toInt32)) (k + 3) (.int (((((own_Lushr q (32 : Int32))).toInt32)).toInt8.toInt32).toInt8.toInt32)) := V4
  refine own_aload X4 own_d_method_3_code_42 rfl ?_
  refine own_iload X4 own_d_method_3_code_43 rfl ?_
  refine own_ipush X4 own_d_method_3_code_44 ?_
  refine own_iadd X4 own_d_method_3_code_45 ?_
  refine own_lload X4 own_d_method_3_code_46 rfl ?_
  refine own_ipush X4 own_d_method_3_code_47 ?_
  refine own_lushr X4 own_d_method_3_code_49 ?_
  refine own_l2i X4 own_d_method_3_code_50 ?_
  refine own_i2b X4 own_d_method_3_code_51 ?_
  refine own_bastoreF X4 V4 ga (i := (k + 4)) (own_idx_add hj (n := 4) ⟨by decide, by decide⟩ (by omega)) (by omega) own_d_method_3_code_52 ?_
  intro T5 h5 X5 W5 V5
  have K5 : Keep h0 h5 [a] := K4.wr W5 (Or.inl (by simp))
  replace V5 : own_AF Z h5 a .byte 16 (own_up (own_up (own_up (own_up (own_up g k (.int (((((own_Lushr q (56 : Int32))).toInt32)).toInt8.toInt32).toInt8.toInt32)) (k + 1) (.int (((((own_Lushr q (48 : Int32))).toInt32)).toInt8.toInt32).toInt8.toInt32)) (k + 2) (.int (((((own_Lushr q (40 : Int32))).toInt32)).toInt8.toInt32).toInt8.toInt32)) (k + 3) (.int (((((own_Lushr q (32 : Int32))).toInt32)).toInt8.toInt32).toInt8.toInt32)) (k + 4) (.int (((((own_Lushr q (24 : Int32))).toInt32)).toInt8.toInt32).toInt8.toInt32)) := V5
  refine own_aload X5 own_d_method_3_code_53 rfl ?_
  refine own_iload X5 own_d_method_3_code_54 rfl ?_
  refine own_ipush X5 own_d_method_3_code_55 ?_
  refine own_iadd X5 own_d_method_3_code_56 ?_
  refine own_lload X5 own_d_method_3_code_57 rfl ?_
  refine own_ipush X5 own_d_method_3_code_58 ?_
  refine own_lushr X5 own_d_method_3_code_60 ?_
  refine own_l2i X5 own_d_method_3_code_61 ?_
  refine own_i2b X5 own_d_method_3_code_62 ?_
  refine own_bastoreF X5 V5 ga (i := (k + 5)) (own_idx_add hj (n := 5) ⟨by decide, by decide⟩ (by omega)) (by omega) own_d_method_3_code_63 ?_
  intro T6 h6 X6 W6 V6
  have K6 : Keep h0 h6 [a] := K5.wr W6 (Or.inl (by simp))
  replace V6 : own_AF Z h6 a .byte 16 (own_up (own_up (own_up (own_up (own_up (own_up g k (.int (((((own_Lushr q (56 : Int32))).toInt32)).toInt8.toInt32).toInt8.toInt32)) (k + 1) (.int (((((own_Lushr q (48 : Int32))).toInt32)).toInt8.toInt32).toInt8.toInt32)) (k + 2) (.int (((((own_Lushr q (40 : Int32))).toInt32)).toInt8.toInt32).toInt8.toInt32)) (k + 3) (.int (((((own_Lushr q (32 : Int32))).toInt32)).toInt8.toInt32).toInt8.toInt32)) (k + 4) (.int (((((own_Lushr q (24 : Int32))).toInt32)).toInt8.toInt32).toInt8.toInt32)) (k + 5) (.int (((((own_Lushr q (16 : Int32))).toInt32)).toInt8.toInt32).toInt8.toInt32)) := V6
  refine own_aload X6 own_d_method_3_code_64 rfl ?_
  refine own_iload X6 own_d_method_3_code_65 rfl ?_
  refine own_ipush X6 own_d_method_3_code_66 ?_
  refine own_iadd X6 own_d_method_3_code_68 ?_
  refine own_lload X6 own_d_method_3_code_69 rfl ?_
  refine own_ipush X6 own_d_method_3_code_70 ?_
  refine own_lushr X6 own_d_method_3_code_72 ?_
  refine own_l2i X6 own_d_method_3_code_73 ?_
  refine own_i2b X6 own_d_method_3_code_74 ?_
  refine own_bastoreF X6 V6 ga (i := (k + 6)) (own_idx_add hj (n := 6) ⟨by decide, by decide⟩ (by omega)) (by omega) own_d_method_3_code_75 ?_
  intro T7 h7 X7 W7 V7
  have K7 : Keep h0 h7 [a] := K6.wr W7 (Or.inl (by simp))
  replace V7 : own_AF Z h7 a .byte 16 (own_up (own_up (own_up (own_up (own_up (own_up (own_up g k (.int (((((own_Lushr q (56 : Int32))).toInt32)).toInt8.toInt32).toInt8.toInt32)) (k + 1) (.int (((((own_Lushr q (48 : Int32))).toInt32)).toInt8.toInt32).toInt8.toInt32)) (k + 2) (.int (((((own_Lushr q (40 : Int32))).toInt32)).toInt8.toInt32).toInt8.toInt32)) (k + 3) (.int (((((own_Lushr q (32 : Int32))).toInt32)).toInt8.toInt32).toInt8.toInt32)) (k + 4) (.int (((((own_Lushr q (24 : Int32))).toInt32)).toInt8.toInt32).toInt8.toInt32)) (k + 5) (.int (((((own_Lushr q (16 : Int32))).toInt32)).toInt8.toInt32).toInt8.toInt32)) (k + 6) (.int (((((own_Lushr q (8 : Int32))).toInt32)).toInt8.toInt32).toInt8.toInt32)) := V7
  refine own_aload X7 own_d_method_3_code_76 rfl ?_
  refine own_iload X7 own_d_method_3_code_77 rfl ?_
  refine own_ipush X7 own_d_method_3_code_78 ?_
  refine own_iadd X7 own_d_method_3_code_80 ?_
  refine own_lload X7 own_d_method_3_code_81 rfl ?_
  refine own_l2i X7 own_d_method_3_code_82 ?_
  refine own_i2b X7 own_d_method_3_code_83 ?_
  refine own_bastoreF X7 V7 ga (i := (k + 7)) (own_idx_add hj (n := 7) ⟨by decide, by decide⟩ (by omega)) (by omega) own_d_method_3_code_84 ?_
  intro T8 h8 X8 W8 V8
  have K8 : Keep h0 h8 [a] := K7.wr W8 (Or.inl (by simp))
  replace V8 : own_AF Z h8 a .byte 16 (own_up (own_up (own_up (own_up (own_up (own_up (own_up (own_up g k (.int (((((own_Lushr q (56 : Int32))).toInt32)).toInt8.toInt32).toInt8.toInt32)) (k + 1) (.int (((((own_Lushr q (48 : Int32))).toInt32)).toInt8.toInt32).toInt8.toInt32)) (k + 2) (.int (((((own_Lushr q (40 : Int32))).toInt32)).toInt8.toInt32).toInt8.toInt32)) (k + 3) (.int (((((own_Lushr q (32 : Int32))).toInt32)).toInt8.toInt32).toInt8.toInt32)) (k + 4) (.int (((((own_Lushr q (24 : Int32))).toInt32)).toInt8.toInt32).toInt8.toInt32)) (k + 5) (.int (((((own_Lushr q (16 : Int32))).toInt32)).toInt8.toInt32).toInt8.toInt32)) (k + 6) (.int (((((own_Lushr q (8 : Int32))).toInt32)).toInt8.toInt32).toInt8.toInt32)) (k + 7) (.int ((((q).toInt32)).toInt8.toInt32).toInt8.toInt32)) := V8
  simp only [own_bt8 q 56 0 (by decide) (by decide), own_bt8 q 48 1 (by decide) (by decide), own_bt8 q 40 2 (by decide) (by decide), own_bt8 q 32 3 (by decide) (by decide), own_bt8 q 24 4 (by decide) (by decide), own_bt8 q 16 5 (by decide) (by decide), own_bt8 q 8 6 (by decide) (by decide), own_bt7 q] at V8
  exact own_ret0 X8 hret fin (by decide) (by decide) ⟨rfl, K8, V8.to (fun j hj => own_put8 g k q j)⟩ own_d_method_3_code_85
set_option maxRecDepth 65536 in
set_option maxHeartbeats 40000000 in
theorem own_power (l : Launch) (Z : State) (a0 : Array Value) (hw : ∀ d ∈ tables_1, d.before a0 Z = true) (a : Addr) (bl hi lo : Int64) (u_ivLengthTerm u_ended u_length u_sumHigh u_sumLow u_termLength u_lengthTerm u_power : Value) (h0 : Heap) (n0 : Nat) (Z0 : n0 ≤ h0.size) (O : own_Obj Z h0 a "com/example/libcachet/libcachet/Ghash" own_ns_Gh [(.long hi), (.long lo), u_ivLengthTerm, u_ended, u_length, u_sumHigh, u_sumLow, u_termLength, u_lengthTerm, u_power]) (hbl : bl.toInt < 2 ^ 60) :
    own_Con l Z n0 (⟨"com/example/libcachet/libcachet/Ghash", "power", "(J)[J"⟩ : MethodName) prog_70_method_6_code 7 (some (.array .long)) ({ frames := 1, cells := 122, slots := 244, locals := 35 } : Room) [] #[(.ref a), (.long bl)] h0 (fun v h' => ∃ (b : Addr) (zh zl : Int64), v = some (.ref b) ∧ Keep h0 h' [] ∧ h0.size ≤ b ∧ n0 ≤ b ∧ own_AL Z h' b .long [.long zh, .long zl] ∧ True) := by
  refine own_enter (plainFor_of_name own_pn_com_example_libcachet_libcachet_Ghash) Z0 #[.val (.ref a), .val (.long bl), .second, .unset, .unset, .unset, .unset] (fun m => by first | (simp [entryFrame, mkF, argsToLocals, Value.category]; done) | rfl) ?_
  intro p e s m below meth c T A X0 hret hnm fin
  refine own_ipush X0 own_d_prog_70_method_6_code_0 ?_
  refine own_newarr X0 (hw _ (List.mem_of_getElem? (i := 27) rfl)) own_d_prog_70_method_6_code_1 (n := 2) ⟨by decide, by decide⟩ 2 (Nat.le_refl _) (by decide) (by decide) (by decide) ?_
  intro T1 h1 b1 X1 E1 g1 ga_b1 V1
  have ne_a_b1 : a ≠ b1 := by rw [g1]; exact Nat.ne_of_lt O.lt
  have sz_b1 : h0.size ≤ b1 := by rw [g1]; exact (Keep.refl h0 []).1
  have K1 : Keep h0 h1 [] := (Keep.refl h0 []).ext E1
  have F2_a : own_Obj Z h1 a "com/example/libcachet/libcachet/Ghash" own_ns_Gh [(.long hi), (.long lo), u_ivLengthTerm, u_ended, u_length, u_sumHigh, u_sumLow, u_termLength, u_lengthTerm, u_power] := O.ext E1
  replace V1 : own_AL Z h1 b1 .long [(.long (0 : Int64)), (.long (0 : Int64))] := V1
  refine own_dup X1 own_d_prog_70_method_6_code_3 rfl ?_
  refine own_ipush X1 own_d_prog_70_method_6_code_4 ?_
  refine own_ldc2 X1 (hw _ (List.mem_of_getElem? (i := 64) rfl)) own_d_prog_70_method_6_code_5 ?_
  refine own_lastore X1 V1 ga_b1 (i := 0) ⟨by decide, by decide⟩ (Nat.le_of_ble_eq_true rfl) own_d_prog_70_method_6_code_8 ?_
  intro T3 h3 X3 W3 V3
  have K3 : Keep h0 h3 [] := K1.wr W3 (Or.inr sz_b1)
  replace V3 : own_AL Z h3 b1 .long [(.long (-9223372036854775808 : Int64)), (.long (0 : Int64))] := V3
  have F4_a : own_Obj Z h3 a "com/example/libcachet/libcachet/Ghash" own_ns_Gh [(.long hi), (.long lo), u_ivLengthTerm, u_ended, u_length, u_sumHigh, u_sumLow, u_termLength, u_lengthTerm, u_power] := F2_a.other W3 (Ne.symm (Ne.symm ne_a_b1))
  refine own_dup X3 own_d_prog_70_method_6_code_9 rfl ?_
  refine own_ipush X3 own_d_prog_70_method_6_code_10 ?_
  refine own_lpush X3 own_d_prog_70_method_6_code_11 ?_
  refine own_lastore X3 V3 ga_b1 (i := 1) ⟨by decide, by decide⟩ (Nat.le_of_ble_eq_true rfl) own_d_prog_70_method_6_code_12 ?_
  intro T5 h5 X5 W5 V5
  have K5 : Keep h0 h5 [] := K3.wr W5 (Or.inr sz_b1)
  replace V5 : own_AL Z h5 b1 .long [(.long (-9223372036854775808 : Int64)), (.long (0 : Int64))] := V5
  have F6_a : own_Obj Z h5 a "com/example/libcachet/libcachet/Ghash" own_ns_Gh [(.long hi), (.long lo), u_ivLengthTerm, u_ended, u_length, u_sumHigh, u_sumLow, u_termLength, u_lengthTerm, u_power] := F4_a.other W5 (Ne.symm (Ne.symm ne_a_b1))
  refine own_astore X5 #[.val (.ref a), .val (.long bl), .second, .val (.ref b1), .unset, .unset, .unset] own_d_prog_70_method_6_code_13 rfl ?_
  refine own_ipush X5 own_d_prog_70_method_6_code_14 ?_
  refine own_newarr X5 (hw _ (List.mem_of_getElem? (i := 27) rfl)) own_d_prog_70_method_6_code_15 (n := 2) ⟨by decide, by decide⟩ 2 (Nat.le_refl _) (by decide) (by decide) (by decide) ?_
  intro T7 h7 b7 X7 E7 g7 ga_b7 V7
  have ne_a_b7 : a ≠ b7 := by rw [g7]; exact Nat.ne_of_lt F6_a.lt
  have ne_b1_b7 : b1 ≠ b7 := by rw [g7]; exact Nat.ne_of_lt V5.lt
  have sz_b7 : h0.size ≤ b7 := by rw [g7]; exact K5.1
  have K7 : Keep h0 h7 [] := K5.ext E7
  have F8_a : own_Obj Z h7 a "com/example/libcachet/libcachet/Ghash" own_ns_Gh [(.long hi), (.long lo), u_ivLengthTerm, u_ended, u_length, u_sumHigh, u_sumLow, u_termLength, u_lengthTerm, u_power] := F6_a.ext E7
  have F9_b1 : own_AL Z h7 b1 .long [(.long (-9223372036854775808 : Int64)), (.long (0 : Int64))] := V5.ext E7
  replace V7 : own_AL Z h7 b7 .long [(.long (0 : Int64)), (.long (0 : Int64))] := V7
  refine own_dup X7 own_d_prog_70_method_6_code_17 rfl ?_
  refine own_ipush X7 own_d_prog_70_method_6_code_18 ?_
  refine own_aload X7 own_d_prog_70_method_6_code_19 rfl ?_
  refine own_getF X7 (host := "") (k := 0) (hw _ (List.mem_of_getElem? (i := 18) rfl)) F8_a rfl rfl own_d_prog_70_method_6_code_20 ?_
  intro T10 X10
  refine own_lastore X10 V7 ga_b7 (i := 0) ⟨by decide, by decide⟩ (Nat.le_of_ble_eq_true rfl) own_d_prog_70_method_6_code_23 ?_
  intro T11 h11 X11 W11 V11
  have K11 : Keep h0 h11 [] := K7.wr W11 (Or.inr sz_b7)
  replace V11 : own_AL Z h11 b7 .long [(.long hi), (.long (0 : Int64))] := V11
  have F12_a : own_Obj Z h11 a "com/example/libcachet/libcachet/Ghash" own_ns_Gh [(.long hi), (.long lo), u_ivLengthTerm, u_ended, u_length, u_sumHigh, u_sumLow, u_termLength, u_lengthTerm, u_power] := F8_a.other W11 (Ne.symm (Ne.symm ne_a_b7))
  have F13_b1 : own_AL Z h11 b1 .long [(.long (-9223372036854775808 : Int64)), (.long (0 : Int64))] := F9_b1.other W11 (Ne.symm (Ne.symm ne_b1_b7))
  refine own_dup X11 own_d_prog_70_method_6_code_24 rfl ?_
  refine own_ipush X11 own_d_prog_70_method_6_code_25 ?_
  refine own_aload X11 own_d_prog_70_method_6_code_26 rfl ?_
  refine own_getF X11 (host := "") (k := 1) (hw _ (List.mem_of_getElem? (i := 20) rfl)) F12_a rfl rfl own_d_prog_70_method_6_code_27 ?_
  intro T14 X14
  refine own_lastore X14 V11 ga_b7 (i := 1) ⟨by decide, by decide⟩ (Nat.le_of_ble_eq_true rfl) own_d_prog_70_method_6_code_30 ?_
  intro T15 h15 X15 W15 V15
  have K15 : Keep h0 h15 [] := K11.wr W15 (Or.inr sz_b7)
  replace V15 : own_AL Z h15 b7 .long [(.long hi), (.long lo)] := V15
  have F16_a : own_Obj Z h15 a "com/example/libcachet/libcachet/Ghash" own_ns_Gh [(.long hi), (.long lo), u_ivLengthTerm, u_ended, u_length, u_sumHigh, u_sumLow, u_termLength, u_lengthTerm, u_power] := F12_a.other W15 (Ne.symm (Ne.symm ne_a_b7))
  have F17_b1 : own_AL Z h15 b1 .long [(.long (-9223372036854775808 : Int64)), (.long (0 : Int64))] := F13_b1.other W15 (Ne.symm (Ne.symm ne_b1_b7))
  refine own_astore X15 #[.val (.ref a), .val (.long bl), .second, .val (.ref b1), .val (.ref b7), .unset, .unset] own_d_prog_70_method_6_code_31 rfl ?_
  refine own_lload X15 own_d_prog_70_method_6_code_33 rfl ?_
  refine own_lstore X15 #[.val (.ref a), .val (.long bl), .second, .val (.ref b1), .val (.ref b7), .val (.long bl), .second] own_d_prog_70_method_6_code_34 rfl ?_
  suffices LOOP : ∀ (r t : Nat) (left : Int64) (ra sa : Addr) (r0 r1 s0 s1 : Int64) (Tq : State) (hq : Heap), t + r = 60 → left.toInt < 2 ^ r → h0.size ≤ ra → n0 ≤ ra → own_St p l e ({ frames := 1, cells := 122, slots := 244, locals := 35 } : Room) s m #[(.ref a), (.long bl)] below meth c Z n0 prog_70_method_6_code 7 "com/example/libcachet/libcachet/Ghash" Tq hq (2 + 2 * t) (4 + 4 * t) → own_Obj Z hq a "com/example/libcachet/libcachet/Ghash" own_ns_Gh [(.long hi), (.long lo), u_ivLengthTerm, u_ended, u_length, u_sumHigh, u_sumLow, u_termLength, u_lengthTerm, u_power] → own_AL Z hq ra .long [(.long r0), (.long r1)] → own_AL Z hq sa .long [(.long s0), (.long s1)] → Keep h0 hq [] → own_Wins p e below A Tq (mkF m 36 #[.val (.ref a), .val (.long bl), .second, .val (.ref ra), .val (.ref sa), .val (.long left), .second] []) by
    exact LOOP 60 0 bl b1 b7 _ _ _ _ T15 h15 rfl (by have := rng64 bl; omega) sz_b1 ga_b1 X15 F16_a F17_b1 V15 K15
  intro r
  induction r with
  | zero =>
    intro t left ra sa r0 r1 s0 s1 Tq hq ht hl hsz hga Xq Oq Vr Vs Kq
    refine own_lload Xq own_d_prog_70_method_6_code_36 rfl ?_
    refine own_lpush Xq own_d_prog_70_method_6_code_38 ?_
    refine own_lcmp Xq own_d_prog_70_method_6_code_39 ?_
    refine own_ifYes Xq own_d_prog_70_method_6_code_40 ((if0 _ _).trans (flt (mt (lw_gt left (0 : Int64)).1 (by rw [Int64.lt_iff_toInt_lt, show (0 : Int64).toInt = 0 by decide]; omega))).2.2.2) ?_
    refine own_aload Xq own_d_prog_70_method_6_code_100 rfl ?_
    replace Xq := Xq.more (show 2 + 2 * t ≤ 122 by omega) (show 4 + 4 * t ≤ 244 by omega)
    exact own_retA Xq hret rfl rfl fin (by decide) (by decide) ⟨ra, r0, r1, rfl, Kq, hsz, hga, Vr, trivial⟩ own_d_prog_70_method_6_code_101
  | succ r ih =>
    intro t left ra sa r0 r1 s0 s1 Tq hq ht hl hsz hga Xq Oq Vr Vs Kq
    refine own_lload Xq own_d_prog_70_method_6_code_36 rfl ?_
    refine own_lpush Xq own_d_prog_70_method_6_code_38 ?_
    refine own_lcmp Xq own_d_prog_70_method_6_code_39 ?_
    by_cases c0 : (0 : Int64) < left
    · skip
      refine own_ifNo Xq own_d_prog_70_method_6_code_40 ((if0 _ _).trans (tlt ((lw_gt left (0 : Int64)).2 c0)).2.2.2) ?_
      have hpos : 0 < left.toInt := by rw [Int64.lt_iff_toInt_lt, show (0 : Int64).toInt = 0 by decide] at c0; exact c0
      have hhalf : (own_Lushr left 1).toInt < 2 ^ r := by
        have h := c_lushr left 1 1 (by decide) (by decide)
        have h2 := rng64 left
        show ((left.toUInt64 >>> ((1 : Int32) &&& 0x3f).toInt64.toUInt64).toInt64).toInt < _
        rw [h, Int.emod_eq_of_lt (by omega) (by omega)]
        have : (2 : Int) ^ (r + 1) = 2 * 2 ^ r := by rw [Int.pow_succ]; omega
        omega
      refine own_lload Xq own_d_prog_70_method_6_code_43 rfl ?_
      refine own_lpush Xq own_d_prog_70_method_6_code_45 ?_
      refine own_land Xq own_d_prog_70_method_6_code_46 ?_
      refine own_lpush Xq own_d_prog_70_method_6_code_47 ?_
      refine own_lcmp Xq own_d_prog_70_method_6_code_48 ?_
      by_cases c1 : (left &&& (1 : Int64)) = (0 : Int64)
      · skip
        refine own_ifYes Xq own_d_prog_70_method_6_code_49 ((if0 _ _).trans (teq ((lw_eq (left &&& (1 : Int64)) (0 : Int64)).2 c1)).1) ?_
        refine own_aload Xq own_d_prog_70_method_6_code_70 rfl ?_
        refine own_ipush Xq own_d_prog_70_method_6_code_72 ?_
        refine own_laload Xq Vs (i := 0) ⟨by decide, by decide⟩ rfl own_d_prog_70_method_6_code_73 ?_
        refine own_aload Xq own_d_prog_70_method_6_code_74 rfl ?_
        refine own_ipush Xq own_d_prog_70_method_6_code_76 ?_
        refine own_laload Xq Vs (i := 1) ⟨by decide, by decide⟩ rfl own_d_prog_70_method_6_code_77 ?_
        refine own_aload Xq own_d_prog_70_method_6_code_78 rfl ?_
        refine own_ipush Xq own_d_prog_70_method_6_code_80 ?_
        refine own_laload Xq Vs (i := 0) ⟨by decide, by decide⟩ rfl own_d_prog_70_method_6_code_81 ?_
        refine own_aload Xq own_d_prog_70_method_6_code_82 rfl ?_
        refine own_ipush Xq own_d_prog_70_method_6_code_84 ?_
        refine own_laload Xq Vs (i := 1) ⟨by decide, by decide⟩ rfl own_d_prog_70_method_6_code_85 ?_
        refine own_callS Xq (y := (⟨"com/example/libcachet/libcachet/Ghash", "multiply", "(JJJJ)[J"⟩ : MethodName)) [(.long s0), (.long s1), (.long s0), (.long s1)] [] 0 rfl (hw _ (List.mem_of_getElem? (i := 23) rfl)) (hw _ (List.mem_of_getElem? (i := 24) rfl)) (hw _ (List.mem_of_getElem? (i := 8) rfl)) (hw _ (List.mem_of_getElem? (i := 25) rfl)) (by decide) (own_multiply l Z a0 hw s0 s1 s0 s1 hq n0 Xq.sz) own_d_prog_70_method_6_code_86 own_pd__JJJJ__J rfl rfl (by show 2 * 0 + _ ≤ _; exact Nat.le_of_eq rfl) (by decide) (by decide) (by (try dsimp only); omega) (by (try dsimp only); omega) ?_
        intro T18 h18 v18 X18 P18
        obtain ⟨bms, zhs, zls, rfl, Kc18, sz18, ga_bms, V18, hzs⟩ := P18
        have ne_a_bms : a ≠ bms := Nat.ne_of_lt (Nat.lt_of_lt_of_le Oq.lt sz18)
        have ne_ra_bms : ra ≠ bms := Nat.ne_of_lt (Nat.lt_of_lt_of_le Vr.lt sz18)
        have ne_sa_bms : sa ≠ bms := Nat.ne_of_lt (Nat.lt_of_lt_of_le Vs.lt sz18)
        have sz_bms : h0.size ≤ bms := Nat.le_trans Kq.1 sz18
        have K18 : Keep h0 h18 [] := Kq.trans Kc18 all0
        have F19_a : own_Obj Z h18 a "com/example/libcachet/libcachet/Ghash" own_ns_Gh [(.long hi), (.long lo), u_ivLengthTerm, u_ended, u_length, u_sumHigh, u_sumLow, u_termLength, u_lengthTerm, u_power] := Oq.keep Kc18 nin0
        have F20_ra : own_AL Z h18 ra .long [(.long r0), (.long r1)] := Vr.keep Kc18 nin0
        have F21_sa : own_AL Z h18 sa .long [(.long s0), (.long s1)] := Vs.keep Kc18 nin0
        show own_Wins p e below A T18 (mkF m 89 #[.val (.ref a), .val (.long bl), .second, .val (.ref ra), .val (.ref sa), .val (.long left), .second] [(.ref bms)])
        refine own_astore X18 #[.val (.ref a), .val (.long bl), .second, .val (.ref ra), .val (.ref bms), .val (.long left), .second] own_d_prog_70_method_6_code_89 rfl ?_
        refine own_lload X18 own_d_prog_70_method_6_code_91 rfl ?_
        refine own_ipush X18 own_d_prog_70_method_6_code_93 ?_
        refine own_lushr X18 own_d_prog_70_method_6_code_94 ?_
        refine own_lstore X18 #[.val (.ref a), .val (.long bl), .second, .val (.ref ra), .val (.ref bms), .val (.long (own_Lushr left (1 : Int32))), .second] own_d_prog_70_method_6_code_95 rfl ?_
        refine own_goto X18 own_d_prog_70_method_6_code_97 ?_
        exact ih (t + 1) _ ra bms r0 r1 zhs zls _ _ (by omega) hhalf hsz hga (X18.more (show 2 + 2 * t + 1 ≤ 2 + 2 * (t + 1) by omega) (show 4 + 4 * t + 2 ≤ 4 + 4 * (t + 1) by omega)) F19_a F20_ra V18 K18
      · skip
        refine own_ifNo Xq own_d_prog_70_method_6_code_49 ((if0 _ _).trans (feq (mt (lw_eq (left &&& (1 : Int64)) (0 : Int64)).1 c1)).1) ?_
        refine own_aload Xq own_d_prog_70_method_6_code_52 rfl ?_
        refine own_ipush Xq own_d_prog_70_method_6_code_53 ?_
        refine own_laload Xq Vr (i := 0) ⟨by decide, by decide⟩ rfl own_d_prog_70_method_6_code_54 ?_
        refine own_aload Xq own_d_prog_70_method_6_code_55 rfl ?_
        refine own_ipush Xq own_d_prog_70_method_6_code_56 ?_
        refine own_laload Xq Vr (i := 1) ⟨by decide, by decide⟩ rfl own_d_prog_70_method_6_code_57 ?_
        refine own_aload Xq own_d_prog_70_method_6_code_58 rfl ?_
        refine own_ipush Xq own_d_prog_70_method_6_code_60 ?_
        refine own_laload Xq Vs (i := 0) ⟨by decide, by decide⟩ rfl own_d_prog_70_method_6_code_61 ?_
        refine own_aload Xq own_d_prog_70_method_6_code_62 rfl ?_
        refine own_ipush Xq own_d_prog_70_method_6_code_64 ?_
        refine own_laload Xq Vs (i := 1) ⟨by decide, by decide⟩ rfl own_d_prog_70_method_6_code_65 ?_
        refine own_callS Xq (y := (⟨"com/example/libcachet/libcachet/Ghash", "multiply", "(JJJJ)[J"⟩ : MethodName)) [(.long r0), (.long r1), (.long s0), (.long s1)] [] 0 rfl (hw _ (List.mem_of_getElem? (i := 23) rfl)) (hw _ (List.mem_of_getElem? (i := 24) rfl)) (hw _ (List.mem_of_getElem? (i := 8) rfl)) (hw _ (List.mem_of_getElem? (i := 25) rfl)) (by decide) (own_multiply l Z a0 hw r0 r1 s0 s1 hq n0 Xq.sz) own_d_prog_70_method_6_code_66 own_pd__JJJJ__J rfl rfl (by show 2 * 0 + _ ≤ _; exact Nat.le_of_eq rfl) (by decide) (by decide) (by (try dsimp only); omega) (by (try dsimp only); omega) ?_
        intro T22 h22 v22 X22 P22
        obtain ⟨bmr, zhr, zlr, rfl, Kc22, sz22, ga_bmr, V22, hzr⟩ := P22
        have ne_a_bmr : a ≠ bmr := Nat.ne_of_lt (Nat.lt_of_lt_of_le Oq.lt sz22)
        have ne_ra_bmr : ra ≠ bmr := Nat.ne_of_lt (Nat.lt_of_lt_of_le Vr.lt sz22)
        have ne_sa_bmr : sa ≠ bmr := Nat.ne_of_lt (Nat.lt_of_lt_of_le Vs.lt sz22)
        have sz_bmr : h0.size ≤ bmr := Nat.le_trans Kq.1 sz22
        have K22 : Keep h0 h22 [] := Kq.trans Kc22 all0
        have F23_a : own_Obj Z h22 a "com/example/libcachet/libcachet/Ghash" own_ns_Gh [(.long hi), (.long lo), u_ivLengthTerm, u_ended, u_length, u_sumHigh, u_sumLow, u_termLength, u_lengthTerm, u_power] := Oq.keep Kc22 nin0
        have F24_ra : own_AL Z h22 ra .long [(.long r0), (.long r1)] := Vr.keep Kc22 nin0
        have F25_sa : own_AL Z h22 sa .long [(.long s0), (.long s1)] := Vs.keep Kc22 nin0
        show own_Wins p e below A T22 (mkF m 69 #[.val (.ref a), .val (.long bl), .second, .val (.ref ra), .val (.ref sa), .val (.long left), .second] [(.ref bmr)])
        refine own_astore X22 #[.val (.ref a), .val (.long bl), .second, .val (.ref bmr), .val (.ref sa), .val (.long left), .second] own_d_prog_70_method_6_code_69 rfl ?_
        refine own_aload X22 own_d_prog_70_method_6_code_70 rfl ?_
        refine own_ipush X22 own_d_prog_70_method_6_code_72 ?_
        refine own_laload X22 F25_sa (i := 0) ⟨by decide, by decide⟩ rfl own_d_prog_70_method_6_code_73 ?_
        refine own_aload X22 own_d_prog_70_method_6_code_74 rfl ?_
        refine own_ipush X22 own_d_prog_70_method_6_code_76 ?_
        refine own_laload X22 F25_sa (i := 1) ⟨by decide, by decide⟩ rfl own_d_prog_70_method_6_code_77 ?_
        refine own_aload X22 own_d_prog_70_method_6_code_78 rfl ?_
        refine own_ipush X22 own_d_prog_70_method_6_code_80 ?_
        refine own_laload X22 F25_sa (i := 0) ⟨by decide, by decide⟩ rfl own_d_prog_70_method_6_code_81 ?_
        refine own_aload X22 own_d_prog_70_method_6_code_82 rfl ?_
        refine own_ipush X22 own_d_prog_70_method_6_code_84 ?_
        refine own_laload X22 F25_sa (i := 1) ⟨by decide, by decide⟩ rfl own_d_prog_70_method_6_code_85 ?_
        refine own_callS X22 (y := (⟨"com/example/libcachet/libcachet/Ghash", "multiply", "(JJJJ)[J"⟩ : MethodName)) [(.long s0), (.long s1), (.long s0), (.long s1)] [] 0 rfl (hw _ (List.mem_of_getElem? (i := 23) rfl)) (hw _ (List.mem_of_getElem? (i := 24) rfl)) (hw _ (List.mem_of_getElem? (i := 8) rfl)) (hw _ (List.mem_of_getElem? (i := 25) rfl)) (by decide) (own_multiply l Z a0 hw s0 s1 s0 s1 h22 n0 X22.sz) own_d_prog_70_method_6_code_86 own_pd__JJJJ__J rfl rfl (by show 2 * 0 + _ ≤ _; exact Nat.le_of_eq rfl) (by decide) (by decide) (by (try dsimp only); omega) (by (try dsimp only); omega) ?_
        intro T26 h26 v26 X26 P26
        obtain ⟨bms, zhs, zls, rfl, Kc26, sz26, ga_bms, V26, hzs⟩ := P26
        have ne_a_bms : a ≠ bms := Nat.ne_of_lt (Nat.lt_of_lt_of_le F23_a.lt sz26)
        have ne_ra_bms : ra ≠ bms := Nat.ne_of_lt (Nat.lt_of_lt_of_le F24_ra.lt sz26)
        have ne_sa_bms : sa ≠ bms := Nat.ne_of_lt (Nat.lt_of_lt_of_le F25_sa.lt sz26)
        have ne_bmr_bms : bmr ≠ bms := Nat.ne_of_lt (Nat.lt_of_lt_of_le V22.lt sz26)
        have sz_bms : h0.size ≤ bms := Nat.le_trans K22.1 sz26
        have K26 : Keep h0 h26 [] := K22.trans Kc26 all0
        have F27_a : own_Obj Z h26 a "com/example/libcachet/libcachet/Ghash" own_ns_Gh [(.long hi), (.long lo), u_ivLengthTerm, u_ended, u_length, u_sumHigh, u_sumLow, u_termLength, u_lengthTerm, u_power] := F23_a.keep Kc26 nin0
        have F28_ra : own_AL Z h26 ra .long [(.long r0), (.long r1)] := F24_ra.keep Kc26 nin0
        have F29_sa : own_AL Z h26 sa .long [(.long s0), (.long s1)] := F25_sa.keep Kc26 nin0
        have F30_bmr : own_AL Z h26 bmr .long [(.long zhr), (.long zlr)] := V22.keep Kc26 nin0
        show own_Wins p e below A T26 (mkF m 89 #[.val (.ref a), .val (.long bl), .second, .val (.ref bmr), .val (.ref sa), .val (.long left), .second] [(.ref bms)])
        refine own_astore X26 #[.val (.ref a), .val (.long bl), .second, .val (.ref bmr), .val (.ref bms), .val (.long left), .second] own_d_prog_70_method_6_code_89 rfl ?_
        refine own_lload X26 own_d_prog_70_method_6_code_91 rfl ?_
        refine own_ipush X26 own_d_prog_70_method_6_code_93 ?_
        refine own_lushr X26 own_d_prog_70_method_6_code_94 ?_
        refine own_lstore X26 #[.val (.ref a), .val (.long bl), .second, .val (.ref bmr), .val (.ref bms), .val (.long (own_Lushr left (1 : Int32))), .second] own_d_prog_70_method_6_code_95 rfl ?_
        refine own_goto X26 own_d_prog_70_method_6_code_97 ?_
        exact ih (t + 1) _ bmr bms zhr zlr zhs zls _ _ (by omega) hhalf sz_bmr ga_bmr (X26.more (show 2 + 2 * t + 1 + 1 ≤ 2 + 2 * (t + 1) by omega) (show 4 + 4 * t + 2 + 2 ≤ 4 + 4 * (t + 1) by omega)) F27_a F30_bmr V26 K26
    · skip
      refine own_ifYes Xq own_d_prog_70_method_6_code_40 ((if0 _ _).trans (flt (mt (lw_gt left (0 : Int64)).1 c0)).2.2.2) ?_
      refine own_aload Xq own_d_prog_70_method_6_code_100 rfl ?_
      replace Xq := Xq.more (show 2 + 2 * t ≤ 122 by omega) (show 4 + 4 * t ≤ 244 by omega)
      exact own_retA Xq hret rfl rfl fin (by decide) (by decide) ⟨ra, r0, r1, rfl, Kq, hsz, hga, Vr, trivial⟩ own_d_prog_70_method_6_code_101
set_option maxRecDepth 65536 in
set_option maxHeartbeats 40000000 in
theorem own_add0 (l : Launch) (Z : State) (a0 : Array Value) (hw : ∀ d ∈ tables_1, d.before a0 Z = true) (a cb bt_ : Addr) (ln hi lo : Int64) (h0 : Heap) (n0 : Nat) (Z0 : n0 ≤ h0.size) (O : own_Obj Z h0 a "com/example/libcachet/libcachet/Ghash" own_ns_Gh [(.long hi), (.long lo), (.ref bt_), (.int (0 : Int32)), (.long (0 : Int64)), (.long (0 : Int64)), (.long (0 : Int64)), (.long (0 : Int64)), .null, .null]) (hln : ¬ (0 : Int64) < ln) :
    own_Con l Z n0 (⟨"com/example/libcachet/libcachet/Ghash", "add", "([BJ)V"⟩ : MethodName) prog_70_method_2_code 5 none ({ frames := 0, cells := 0, slots := 0, locals := 0 } : Room) [] #[(.ref a), (.ref cb), (.long ln)] h0 (fun v h' => v = none ∧ h' = h0) := by
  refine own_enter (plainFor_of_name own_pn_com_example_libcachet_libcachet_Ghash) Z0 #[.val (.ref a), .val (.ref cb), .val (.long ln), .second, .unset] (fun m => by first | (simp [entryFrame, mkF, argsToLocals, Value.category]; done) | rfl) ?_
  intro p e s m below meth c T A X0 hret hnm fin
  refine own_aload X0 own_d_prog_70_method_2_code_0 rfl ?_
  refine own_getF X0 (host := "") (k := 3) (hw _ (List.mem_of_getElem? (i := 35) rfl)) O rfl rfl own_d_prog_70_method_2_code_1 ?_
  intro T1 X1
  refine own_ifYes X1 own_d_prog_70_method_2_code_4 ((if0 _ _).trans (teq rfl).1) ?_
  refine own_lload X1 own_d_prog_70_method_2_code_17 rfl ?_
  refine own_lpush X1 own_d_prog_70_method_2_code_18 ?_
  refine own_lcmp X1 own_d_prog_70_method_2_code_19 ?_
  refine own_ifYes X1 own_d_prog_70_method_2_code_20 ((if0 _ _).trans (flt (mt (lw_gt ln (0 : Int64)).1 hln)).2.2.2) ?_
  exact own_ret0 X1 hret fin (by decide) (by decide) ⟨rfl, rfl⟩ own_d_prog_70_method_2_code_174
set_option maxRecDepth 65536 in
set_option maxHeartbeats 40000000 in
theorem own_add1 (l : Launch) (Z : State) (a0 : Array Value) (hw : ∀ d ∈ tables_1, d.before a0 Z = true) (a cb bt_ : Addr) (ln hi lo ch cl : Int64) (h0 : Heap) (n0 : Nat) (Z0 : n0 ≤ h0.size) (O : own_Obj Z h0 a "com/example/libcachet/libcachet/Ghash" own_ns_Gh [(.long hi), (.long lo), (.ref bt_), (.int (0 : Int32)), (.long (0 : Int64)), (.long (0 : Int64)), (.long (0 : Int64)), (.long (0 : Int64)), .null, .null]) (ga : n0 ≤ a) (hac : a ≠ cb) (Vb : own_AF Z h0 cb .byte 16 (own_b16 ch cl)) (hln : (0 : Int64) < ln) (hl0 : ¬ ln = (0 : Int64)) :
    own_Con l Z n0 (⟨"com/example/libcachet/libcachet/Ghash", "add", "([BJ)V"⟩ : MethodName) prog_70_method_2_code 5 none ({ frames := 2, cells := 124, slots := 248, locals := 80 } : Room) [] #[(.ref a), (.ref cb), (.long ln)] h0 (fun v h' => ∃ (bl_ bp_ : Addr) (ez : Int32) (sh sl : Int64), v = none ∧ Keep h0 h' [a] ∧ own_Obj Z h' a "com/example/libcachet/libcachet/Ghash" own_ns_Gh [(.long hi), (.long lo), (.ref bt_), (.int ez), (.long ((0 : Int64) + ln)), (.long sh), (.long sl), (.long ln), (.ref bl_), (.ref bp_)] ∧ own_pk sh sl = own_pk ch cl ^^^ own_gM (own_pk 0 (ln * (8 : Int64))) (own_pk hi lo)) := by
  refine own_enter (plainFor_of_name own_pn_com_example_libcachet_libcachet_Ghash) Z0 #[.val (.ref a), .val (.ref cb), .val (.long ln), .second, .unset] (fun m => by first | (simp [entryFrame, mkF, argsToLocals, Value.category]; done) | rfl) ?_
  intro p e s m below meth c T A X0 hret hnm fin
  refine own_aload X0 own_d_prog_70_method_2_code_0 rfl ?_
  refine own_getF X0 (host := "") (k := 3) (hw _ (List.mem_of_getElem? (i := 35) rfl)) O rfl rfl own_d_prog_70_method_2_code_1 ?_
  intro T1 X1
  refine own_ifYes X1 own_d_prog_70_method_2_code_4 ((if0 _ _).trans (teq rfl).1) ?_
  refine own_lload X1 own_d_prog_70_method_2_code_17 rfl ?_
  refine own_lpush X1 own_d_prog_70_method_2_code_18 ?_
  refine own_lcmp X1 own_d_prog_70_method_2_code_19 ?_
  refine own_ifNo X1 own_d_prog_70_method_2_code_20 ((if0 _ _).trans (tlt ((lw_gt ln (0 : Int64)).2 hln)).2.2.2) ?_
  refine own_lload X1 own_d_prog_70_method_2_code_23 rfl ?_
  refine own_aload X1 own_d_prog_70_method_2_code_24 rfl ?_
  refine own_getF X1 (host := "") (k := 7) (hw _ (List.mem_of_getElem? (i := 55) rfl)) O rfl rfl own_d_prog_70_method_2_code_25 ?_
  intro T2 X2
  refine own_lcmp X2 own_d_prog_70_method_2_code_28 ?_
  refine own_ifNo X2 own_d_prog_70_method_2_code_29 ((if0 _ _).trans (feq (mt (lw_eq ln (0 : Int64)).1 hl0)).1) ?_
  refine own_aload X2 own_d_prog_70_method_2_code_32 rfl ?_
  refine own_lpush X2 own_d_prog_70_method_2_code_33 ?_
  refine own_lload X2 own_d_prog_70_method_2_code_34 rfl ?_
  refine own_ldc2 X2 (hw _ (List.mem_of_getElem? (i := 44) rfl)) own_d_prog_70_method_2_code_35 ?_
  refine own_lmul X2 own_d_prog_70_method_2_code_38 ?_
  refine own_aload X2 own_d_prog_70_method_2_code_39 rfl ?_
  refine own_getF X2 (host := "") (k := 0) (hw _ (List.mem_of_getElem? (i := 18) rfl)) O rfl rfl own_d_prog_70_method_2_code_40 ?_
  intro T3 X3
  refine own_aload X3 own_d_prog_70_method_2_code_43 rfl ?_
  refine own_getF X3 (host := "") (k := 1) (hw _ (List.mem_of_getElem? (i := 20) rfl)) O rfl rfl own_d_prog_70_method_2_code_44 ?_
  intro T4 X4
  refine own_callS X4 (y := (⟨"com/example/libcachet/libcachet/Ghash", "multiply", "(JJJJ)[J"⟩ : MethodName)) [(.long (0 : Int64)), (.long (ln * (8 : Int64))), (.long hi), (.long lo)] [(.ref a)] 1 rfl (hw _ (List.mem_of_getElem? (i := 23) rfl)) (hw _ (List.mem_of_getElem? (i := 24) rfl)) (hw _ (List.mem_of_getElem? (i := 8) rfl)) (hw _ (List.mem_of_getElem? (i := 25) rfl)) (by decide) (own_multiply l Z a0 hw (0 : Int64) (ln * (8 : Int64)) hi lo h0 n0 X4.sz) own_d_prog_70_method_2_code_47 own_pd__JJJJ__J rfl rfl (by show 2 * 0 + _ ≤ _; exact Nat.le_of_eq rfl) (by decide) (by decide) (by decide) (by decide) ?_
  intro T5 h5 v5 X5 P5
  obtain ⟨bml, zhl, zll, rfl, Kc5, sz5, ga_bml, V5, hzl⟩ := P5
  have ne_a_bml : a ≠ bml := Nat.ne_of_lt (Nat.lt_of_lt_of_le O.lt sz5)
  have ne_cb_bml : cb ≠ bml := Nat.ne_of_lt (Nat.lt_of_lt_of_le Vb.lt sz5)
  have sz_bml : h0.size ≤ bml := Nat.le_trans (Keep.refl h0 [a]).1 sz5
  have K5 : Keep h0 h5 [a] := (Keep.refl h0 [a]).trans Kc5 all0
  have F6_a : own_Obj Z h5 a "com/example/libcachet/libcachet/Ghash" own_ns_Gh [(.long hi), (.long lo), (.ref bt_), (.int (0 : Int32)), (.long (0 : Int64)), (.long (0 : Int64)), (.long (0 : Int64)), (.long (0 : Int64)), .null, .null] := O.keep Kc5 nin0
  have F7_cb : own_AF Z h5 cb .byte 16 (own_b16 ch cl) := Vb.keep Kc5 nin0
  show own_Wins p e below A T5 (mkF m 50 #[.val (.ref a), .val (.ref cb), .val (.long ln), .second, .unset] [(.ref bml), (.ref a)])
  refine own_putF X5 (k := 8) (ty := (.array .long)) (hw _ (List.mem_of_getElem? (i := 57) rfl)) F6_a (own_laid_Gh hw) rfl (Or.inl (hw _ (List.mem_of_getElem? (i := 58) rfl))) (hw _ (List.mem_of_getElem? (i := 7) rfl)) (by decide) rfl rfl ga own_d_prog_70_method_2_code_50 ?_
  intro T8 h8 X8 W8 V8
  have K8 : Keep h0 h8 [a] := K5.wr W8 (Or.inl (by simp))
  replace V8 : own_Obj Z h8 a "com/example/libcachet/libcachet/Ghash" own_ns_Gh [(.long hi), (.long lo), (.ref bt_), (.int (0 : Int32)), (.long (0 : Int64)), (.long (0 : Int64)), (.long (0 : Int64)), (.long (0 : Int64)), (.ref bml), .null] := V8
  have F9_cb : own_AF Z h8 cb .byte 16 (own_b16 ch cl) := F7_cb.other W8 (Ne.symm hac)
  have F10_bml : own_AL Z h8 bml .long [(.long zhl), (.long zll)] := V5.other W8 (Ne.symm ne_a_bml)
  refine own_aload X8 own_d_prog_70_method_2_code_53 rfl ?_
  refine own_aload X8 own_d_prog_70_method_2_code_54 rfl ?_
  refine own_lload X8 own_d_prog_70_method_2_code_55 rfl ?_
  refine own_ldc2 X8 (hw _ (List.mem_of_getElem? (i := 59) rfl)) own_d_prog_70_method_2_code_56 ?_
  refine own_ladd X8 own_d_prog_70_method_2_code_59 ?_
  refine own_lpush X8 own_d_prog_70_method_2_code_60 ?_
  refine own_lsub X8 own_d_prog_70_method_2_code_61 ?_
  refine own_ldc2 X8 (hw _ (List.mem_of_getElem? (i := 59) rfl)) own_d_prog_70_method_2_code_62 ?_
  refine own_ldiv X8 own_d_prog_70_method_2_code_65 (by decide) ?_
  refine own_callP X8 (y := (⟨"com/example/libcachet/libcachet/Ghash", "power", "(J)[J"⟩ : MethodName)) [(.long (((ln + (16 : Int64)) - (1 : Int64)) / (16 : Int64)))] [(.ref a)] 1 (a := a) rfl (hw _ (List.mem_of_getElem? (i := 60) rfl)) (hw _ (List.mem_of_getElem? (i := 62) rfl)) (hw _ (List.mem_of_getElem? (i := 61) rfl)) (hw _ (List.mem_of_getElem? (i := 8) rfl)) (hw _ (List.mem_of_getElem? (i := 63) rfl)) (hw _ (List.mem_of_getElem? (i := 7) rfl)) (by decide) V8.1 (own_power l Z a0 hw a (((ln + (16 : Int64)) - (1 : Int64)) / (16 : Int64)) hi lo (.ref bt_) (.int (0 : Int32)) (.long (0 : Int64)) (.long (0 : Int64)) (.long (0 : Int64)) (.long (0 : Int64)) (.ref bml) .null h8 n0 X8.sz V8 (own_blocks ln)) own_d_prog_70_method_2_code_66 own_pd__J__J rfl rfl (by show 2 * 0 + _ ≤ _; exact Nat.le_of_eq rfl) (by decide) (by decide) (by decide) (by decide) ?_
  intro T11 h11 v11 X11 P11
  obtain ⟨bp, wh, wl, rfl, Kc11, sz11, ga_bp, V11, -⟩ := P11
  have ne_a_bp : a ≠ bp := Nat.ne_of_lt (Nat.lt_of_lt_of_le V8.lt sz11)
  have ne_cb_bp : cb ≠ bp := Nat.ne_of_lt (Nat.lt_of_lt_of_le F9_cb.lt sz11)
  have ne_bml_bp : bml ≠ bp := Nat.ne_of_lt (Nat.lt_of_lt_of_le F10_bml.lt sz11)
  have sz_bp : h0.size ≤ bp := Nat.le_trans K8.1 sz11
  have K11 : Keep h0 h11 [a] := K8.trans Kc11 all0
  have F12_a : own_Obj Z h11 a "com/example/libcachet/libcachet/Ghash" own_ns_Gh [(.long hi), (.long lo), (.ref bt_), (.int (0 : Int32)), (.long (0 : Int64)), (.long (0 : Int64)), (.long (0 : Int64)), (.long (0 : Int64)), (.ref bml), .null] := V8.keep Kc11 nin0
  have F13_cb : own_AF Z h11 cb .byte 16 (own_b16 ch cl) := F9_cb.keep Kc11 nin0
  have F14_bml : own_AL Z h11 bml .long [(.long zhl), (.long zll)] := F10_bml.keep Kc11 nin0
  show own_Wins p e below A T11 (mkF m 69 #[.val (.ref a), .val (.ref cb), .val (.long ln), .second, .unset] [(.ref bp), (.ref a)])
  refine own_putF X11 (k := 9) (ty := (.array .long)) (hw _ (List.mem_of_getElem? (i := 65) rfl)) F12_a (own_laid_Gh hw) rfl (Or.inl (hw _ (List.mem_of_getElem? (i := 66) rfl))) (hw _ (List.mem_of_getElem? (i := 7) rfl)) (by decide) rfl rfl ga own_d_prog_70_method_2_code_69 ?_
  intro T15 h15 X15 W15 V15
  have K15 : Keep h0 h15 [a] := K11.wr W15 (Or.inl (by simp))
  replace V15 : own_Obj Z h15 a "com/example/libcachet/libcachet/Ghash" own_ns_Gh [(.long hi), (.long lo), (.ref bt_), (.int (0 : Int32)), (.long (0 : Int64)), (.long (0 : Int64)), (.long (0 : Int64)), (.long (0 : Int64)), (.ref bml), (.ref bp)] := V15
  have F16_cb : own_AF Z h15 cb .byte 16 (own_b16 ch cl) := F13_cb.other W15 (Ne.symm hac)
  have F17_bml : own_AL Z h15 bml .long [(.long zhl), (.long zll)] := F14_bml.other W15 (Ne.symm ne_a_bml)
  have F18_bp : own_AL Z h15 bp .long [(.long wh), (.long wl)] := V11.other W15 (Ne.symm ne_a_bp)
  refine own_aload X15 own_d_prog_70_method_2_code_72 rfl ?_
  refine own_lload X15 own_d_prog_70_method_2_code_73 rfl ?_
  refine own_putF X15 (k := 7) (ty := .long) (hw _ (List.mem_of_getElem? (i := 55) rfl)) V15 (own_laid_Gh hw) rfl (Or.inl (hw _ (List.mem_of_getElem? (i := 56) rfl))) (hw _ (List.mem_of_getElem? (i := 7) rfl)) (by decide) rfl rfl ga own_d_prog_70_method_2_code_74 ?_
  intro T19 h19 X19 W19 V19
  have K19 : Keep h0 h19 [a] := K15.wr W19 (Or.inl (by simp))
  replace V19 : own_Obj Z h19 a "com/example/libcachet/libcachet/Ghash" own_ns_Gh [(.long hi), (.long lo), (.ref bt_), (.int (0 : Int32)), (.long (0 : Int64)), (.long (0 : Int64)), (.long (0 : Int64)), (.long ln), (.ref bml), (.ref bp)] := V19
  have F20_cb : own_AF Z h19 cb .byte 16 (own_b16 ch cl) := F16_cb.other W19 (Ne.symm hac)
  have F21_bml : own_AL Z h19 bml .long [(.long zhl), (.long zll)] := F17_bml.other W19 (Ne.symm ne_a_bml)
  have F22_bp : own_AL Z h19 bp .long [(.long wh), (.long wl)] := F18_bp.other W19 (Ne.symm ne_a_bp)
  refine own_aload X19 own_d_prog_70_method_2_code_77 rfl ?_
  refine own_getF X19 (host := "") (k := 5) (hw _ (List.mem_of_getElem? (i := 45) rfl)) V19 rfl rfl own_d_prog_70_method_2_code_78 ?_
  intro T23 X23
  refine own_aload X23 own_d_prog_70_method_2_code_81 rfl ?_
  refine own_getF X23 (host := "") (k := 6) (hw _ (List.mem_of_getElem? (i := 47) rfl)) V19 rfl rfl own_d_prog_70_method_2_code_82 ?_
  intro T24 X24
  refine own_aload X24 own_d_prog_70_method_2_code_85 rfl ?_
  refine own_getF X24 (host := "") (k := 9) (hw _ (List.mem_of_getElem? (i := 65) rfl)) V19 rfl rfl own_d_prog_70_method_2_code_86 ?_
  intro T25 X25
  refine own_ipush X25 own_d_prog_70_method_2_code_89 ?_
  refine own_laload X25 F22_bp (i := 0) ⟨by decide, by decide⟩ rfl own_d_prog_70_method_2_code_90 ?_
  refine own_aload X25 own_d_prog_70_method_2_code_91 rfl ?_
  refine own_getF X25 (host := "") (k := 9) (hw _ (List.mem_of_getElem? (i := 65) rfl)) V19 rfl rfl own_d_prog_70_method_2_code_92 ?_
  intro T26 X26
  refine own_ipush X26 own_d_prog_70_method_2_code_95 ?_
  refine own_laload X26 F22_bp (i := 1) ⟨by decide, by decide⟩ rfl own_d_prog_70_method_2_code_96 ?_
  refine own_callS X26 (y := (⟨"com/example/libcachet/libcachet/Ghash", "multiply", "(JJJJ)[J"⟩ : MethodName)) [(.long (0 : Int64)), (.long (0 : Int64)), (.long wh), (.long wl)] [] 0 rfl (hw _ (List.mem_of_getElem? (i := 23) rfl)) (hw _ (List.mem_of_getElem? (i := 24) rfl)) (hw _ (List.mem_of_getElem? (i := 8) rfl)) (hw _ (List.mem_of_getElem? (i := 25) rfl)) (by decide) (own_multiply l Z a0 hw (0 : Int64) (0 : Int64) wh wl h19 n0 X26.sz) own_d_prog_70_method_2_code_97 own_pd__JJJJ__J rfl rfl (by show 2 * 0 + _ ≤ _; exact Nat.le_of_eq rfl) (by decide) (by decide) (by decide) (by decide) ?_
  intro T27 h27 v27 X27 P27
  obtain ⟨bms, zhs, zls, rfl, Kc27, sz27, ga_bms, V27, hzs⟩ := P27
  have ne_a_bms : a ≠ bms := Nat.ne_of_lt (Nat.lt_of_lt_of_le V19.lt sz27)
  have ne_cb_bms : cb ≠ bms := Nat.ne_of_lt (Nat.lt_of_lt_of_le F20_cb.lt sz27)
  have ne_bml_bms : bml ≠ bms := Nat.ne_of_lt (Nat.lt_of_lt_of_le F21_bml.lt sz27)
  have ne_bp_bms : bp ≠ bms := Nat.ne_of_lt (Nat.lt_of_lt_of_le F22_bp.lt sz27)
  have sz_bms : h0.size ≤ bms := Nat.le_trans K19.1 sz27
  have K27 : Keep h0 h27 [a] := K19.trans Kc27 all0
  have F28_a : own_Obj Z h27 a "com/example/libcachet/libcachet/Ghash" own_ns_Gh [(.long hi), (.long lo), (.ref bt_), (.int (0 : Int32)), (.long (0 : Int64)), (.long (0 : Int64)), (.long (0 : Int64)), (.long ln), (.ref bml), (.ref bp)] := V19.keep Kc27 nin0
  have F29_cb : own_AF Z h27 cb .byte 16 (own_b16 ch cl) := F20_cb.keep Kc27 nin0
  have F30_bml : own_AL Z h27 bml .long [(.long zhl), (.long zll)] := F21_bml.keep Kc27 nin0
  have F31_bp : own_AL Z h27 bp .long [(.long wh), (.long wl)] := F22_bp.keep Kc27 nin0
  show own_Wins p e below A T27 (mkF m 100 #[.val (.ref a), .val (.ref cb), .val (.long ln), .second, .unset] [(.ref bms)])
  refine own_astore X27 #[.val (.ref a), .val (.ref cb), .val (.long ln), .second, .val (.ref bms)] own_d_prog_70_method_2_code_100 rfl ?_
  refine own_aload X27 own_d_prog_70_method_2_code_102 rfl ?_
  refine own_aload X27 own_d_prog_70_method_2_code_103 rfl ?_
  refine own_ipush X27 own_d_prog_70_method_2_code_105 ?_
  refine own_laload X27 V27 (i := 0) ⟨by decide, by decide⟩ rfl own_d_prog_70_method_2_code_106 ?_
  refine own_aload X27 own_d_prog_70_method_2_code_107 rfl ?_
  refine own_ipush X27 own_d_prog_70_method_2_code_108 ?_
  refine own_callS X27 (y := (⟨"com/example/libcachet/libcachet/Ghash", "long8", "([BI)J"⟩ : MethodName)) [(.ref cb), (.int (0 : Int32))] [(.long zhs), (.ref a)] 3 rfl (hw _ (List.mem_of_getElem? (i := 15) rfl)) (hw _ (List.mem_of_getElem? (i := 16) rfl)) (hw _ (List.mem_of_getElem? (i := 8) rfl)) (hw _ (List.mem_of_getElem? (i := 17) rfl)) (by decide) (own_long8 l Z a0 hw cb (0 : Int32) 0 16 (own_bt ch) _ h27 n0 X27.sz F29_cb ⟨by decide, by decide⟩ (by decide) (by decide) (fun i hi => by simp only [own_b16]; rw [if_pos (by omega)]; congr 2; omega)) own_d_prog_70_method_2_code_109 own_pd___BI_J rfl rfl (by show 2 * 0 + _ ≤ _; exact Nat.le_of_eq rfl) (by decide) (by decide) (by decide) (by decide) ?_
  intro T33 h33 v33 X33 P33
  obtain ⟨rfl, eh33⟩ := P33
  rw [eh33] at X33
  show own_Wins p e below A T33 (mkF m 112 #[.val (.ref a), .val (.ref cb), .val (.long ln), .second, .val (.ref bms)] [(.long (own_be (own_bt ch) 8)), (.long zhs), (.ref a)])
  rw [(own_b16_be ch cl).1]
  show own_Wins p e below A T33 (mkF m 112 #[.val (.ref a), .val (.ref cb), .val (.long ln), .second, .val (.ref bms)] [(.long ch), (.long zhs), (.ref a)])
  refine own_lxor X33 own_d_prog_70_method_2_code_112 ?_
  refine own_aload X33 own_d_prog_70_method_2_code_113 rfl ?_
  refine own_getF X33 (host := "") (k := 8) (hw _ (List.mem_of_getElem? (i := 57) rfl)) F28_a rfl rfl own_d_prog_70_method_2_code_114 ?_
  intro T34 X34
  refine own_ipush X34 own_d_prog_70_method_2_code_117 ?_
  refine own_laload X34 F30_bml (i := 0) ⟨by decide, by decide⟩ rfl own_d_prog_70_method_2_code_118 ?_
  refine own_lxor X34 own_d_prog_70_method_2_code_119 ?_
  refine own_putF X34 (k := 5) (ty := .long) (hw _ (List.mem_of_getElem? (i := 45) rfl)) F28_a (own_laid_Gh hw) rfl (Or.inl (hw _ (List.mem_of_getElem? (i := 46) rfl))) (hw _ (List.mem_of_getElem? (i := 7) rfl)) (by decide) rfl rfl ga own_d_prog_70_method_2_code_120 ?_
  intro T35 h35 X35 W35 V35
  have K35 : Keep h0 h35 [a] := K27.wr W35 (Or.inl (by simp))
  replace V35 : own_Obj Z h35 a "com/example/libcachet/libcachet/Ghash" own_ns_Gh [(.long hi), (.long lo), (.ref bt_), (.int (0 : Int32)), (.long (0 : Int64)), (.long ((zhs ^^^ ch) ^^^ zhl)), (.long (0 : Int64)), (.long ln), (.ref bml), (.ref bp)] := V35
  have F36_cb : own_AF Z h35 cb .byte 16 (own_b16 ch cl) := F29_cb.other W35 (Ne.symm hac)
  have F37_bml : own_AL Z h35 bml .long [(.long zhl), (.long zll)] := F30_bml.other W35 (Ne.symm ne_a_bml)
  have F38_bp : own_AL Z h35 bp .long [(.long wh), (.long wl)] := F31_bp.other W35 (Ne.symm ne_a_bp)
  have F39_bms : own_AL Z h35 bms .long [(.long zhs), (.long zls)] := V27.other W35 (Ne.symm ne_a_bms)
  refine own_aload X35 own_d_prog_70_method_2_code_123 rfl ?_
  refine own_aload X35 own_d_prog_70_method_2_code_124 rfl ?_
  refine own_ipush X35 own_d_prog_70_method_2_code_126 ?_
  refine own_laload X35 F39_bms (i := 1) ⟨by decide, by decide⟩ rfl own_d_prog_70_method_2_code_127 ?_
  refine own_aload X35 own_d_prog_70_method_2_code_128 rfl ?_
  refine own_ipush X35 own_d_prog_70_method_2_code_129 ?_
  refine own_callS X35 (y := (⟨"com/example/libcachet/libcachet/Ghash", "long8", "([BI)J"⟩ : MethodName)) [(.ref cb), (.int (8 : Int32))] [(.long zls), (.ref a)] 3 rfl (hw _ (List.mem_of_getElem? (i := 15) rfl)) (hw _ (List.mem_of_getElem? (i := 16) rfl)) (hw _ (List.mem_of_getElem? (i := 8) rfl)) (hw _ (List.mem_of_getElem? (i := 17) rfl)) (by decide) (own_long8 l Z a0 hw cb (8 : Int32) 8 16 (own_bt cl) _ h35 n0 X35.sz F36_cb ⟨by decide, by decide⟩ (by decide) (by decide) (fun i hi => by simp only [own_b16]; rw [if_neg (by omega)]; congr 2; omega)) own_d_prog_70_method_2_code_131 own_pd___BI_J rfl rfl (by show 2 * 0 + _ ≤ _; exact Nat.le_of_eq rfl) (by decide) (by decide) (by decide) (by decide) ?_
  intro T41 h41 v41 X41 P41
  obtain ⟨rfl, eh41⟩ := P41
  rw [eh41] at X41
  show own_Wins p e below A T41 (mkF m 134 #[.val (.ref a), .val (.ref cb), .val (.long ln), .second, .val (.ref bms)] [(.long (own_be (own_bt cl) 8)), (.long zls), (.ref a)])
  rw [(own_b16_be ch cl).2]
  show own_Wins p e below A T41 (mkF m 134 #[.val (.ref a), .val (.ref cb), .val (.long ln), .second, .val (.ref bms)] [(.long cl), (.long zls), (.ref a)])
  refine own_lxor X41 own_d_prog_70_method_2_code_134 ?_
  refine own_aload X41 own_d_prog_70_method_2_code_135 rfl ?_
  refine own_getF X41 (host := "") (k := 8) (hw _ (List.mem_of_getElem? (i := 57) rfl)) V35 rfl rfl own_d_prog_70_method_2_code_136 ?_
  intro T42 X42
  refine own_ipush X42 own_d_prog_70_method_2_code_139 ?_
  refine own_laload X42 F37_bml (i := 1) ⟨by decide, by decide⟩ rfl own_d_prog_70_method_2_code_140 ?_
  refine own_lxor X42 own_d_prog_70_method_2_code_141 ?_
  refine own_putF X42 (k := 6) (ty := .long) (hw _ (List.mem_of_getElem? (i := 47) rfl)) V35 (own_laid_Gh hw) rfl (Or.inl (hw _ (List.mem_of_getElem? (i := 48) rfl))) (hw _ (List.mem_of_getElem? (i := 7) rfl)) (by decide) rfl rfl ga own_d_prog_70_method_2_code_142 ?_
  intro T43 h43 X43 W43 V43
  have K43 : Keep h0 h43 [a] := K35.wr W43 (Or.inl (by simp))
  replace V43 : own_Obj Z h43 a "com/example/libcachet/libcachet/Ghash" own_ns_Gh [(.long hi), (.long lo), (.ref bt_), (.int (0 : Int32)), (.long (0 : Int64)), (.long ((zhs ^^^ ch) ^^^ zhl)), (.long ((zls ^^^ cl) ^^^ zll)), (.long ln), (.ref bml), (.ref bp)] := V43
  have F44_cb : own_AF Z h43 cb .byte 16 (own_b16 ch cl) := F36_cb.other W43 (Ne.symm hac)
  have F45_bml : own_AL Z h43 bml .long [(.long zhl), (.long zll)] := F37_bml.other W43 (Ne.symm ne_a_bml)
  have F46_bp : own_AL Z h43 bp .long [(.long wh), (.long wl)] := F38_bp.other W43 (Ne.symm ne_a_bp)
  have F47_bms : own_AL Z h43 bms .long [(.long zhs), (.long zls)] := F39_bms.other W43 (Ne.symm ne_a_bms)
  refine own_aload X43 own_d_prog_70_method_2_code_145 rfl ?_
  refine own_dup X43 own_d_prog_70_method_2_code_146 rfl ?_
  refine own_getF X43 (host := "") (k := 4) (hw _ (List.mem_of_getElem? (i := 42) rfl)) V43 rfl rfl own_d_prog_70_method_2_code_147 ?_
  intro T48 X48
  refine own_lload X48 own_d_prog_70_method_2_code_150 rfl ?_
  refine own_ladd X48 own_d_prog_70_method_2_code_151 ?_
  refine own_putF X48 (k := 4) (ty := .long) (hw _ (List.mem_of_getElem? (i := 42) rfl)) V43 (own_laid_Gh hw) rfl (Or.inl (hw _ (List.mem_of_getElem? (i := 43) rfl))) (hw _ (List.mem_of_getElem? (i := 7) rfl)) (by decide) rfl rfl ga own_d_prog_70_method_2_code_152 ?_
  intro T49 h49 X49 W49 V49
  have K49 : Keep h0 h49 [a] := K43.wr W49 (Or.inl (by simp))
  replace V49 : own_Obj Z h49 a "com/example/libcachet/libcachet/Ghash" own_ns_Gh [(.long hi), (.long lo), (.ref bt_), (.int (0 : Int32)), (.long ((0 : Int64) + ln)), (.long ((zhs ^^^ ch) ^^^ zhl)), (.long ((zls ^^^ cl) ^^^ zll)), (.long ln), (.ref bml), (.ref bp)] := V49
  have F50_cb : own_AF Z h49 cb .byte 16 (own_b16 ch cl) := F44_cb.other W49 (Ne.symm hac)
  have F51_bml : own_AL Z h49 bml .long [(.long zhl), (.long zll)] := F45_bml.other W49 (Ne.symm ne_a_bml)
  have F52_bp : own_AL Z h49 bp .long [(.long wh), (.long wl)] := F46_bp.other W49 (Ne.symm ne_a_bp)
  have F53_bms : own_AL Z h49 bms .long [(.long zhs), (.long zls)] := F47_bms.other W49 (Ne.symm ne_a_bms)
  refine own_aload X49 own_d_prog_70_method_2_code_155 rfl ?_
  refine own_lload X49 own_d_prog_70_method_2_code_156 rfl ?_
  refine own_ldc2 X49 (hw _ (List.mem_of_getElem? (i := 59) rfl)) own_d_prog_70_method_2_code_157 ?_
  refine own_lrem X49 own_d_prog_70_method_2_code_160 (by decide) ?_
  refine own_lpush X49 own_d_prog_70_method_2_code_161 ?_
  refine own_lcmp X49 own_d_prog_70_method_2_code_162 ?_
  suffices J54 : ∀ ez : Int32, (ez = 0 ∨ ez = 1) → own_Wins p e below A T49 (mkF m 171 #[.val (.ref a), .val (.ref cb), .val (.long ln), .second, .val (.ref bms)] [(.int ez), (.ref a)]) by
    by_cases cz : (ln % (16 : Int64)) = (0 : Int64)
    · skip
      refine own_ifYes X49 own_d_prog_70_method_2_code_163 ((if0 _ _).trans (teq ((lw_eq (ln % (16 : Int64)) (0 : Int64)).2 cz)).1) ?_
      refine own_ipush X49 own_d_prog_70_method_2_code_170 ?_
      exact J54 _ (Or.inl rfl)
    · skip
      refine own_ifNo X49 own_d_prog_70_method_2_code_163 ((if0 _ _).trans (feq (mt (lw_eq (ln % (16 : Int64)) (0 : Int64)).1 cz)).1) ?_
      refine own_ipush X49 own_d_prog_70_method_2_code_166 ?_
      refine own_goto X49 own_d_prog_70_method_2_code_167 ?_
      exact J54 _ (Or.inr rfl)
  intro ez hez
  refine own_putF X49 (k := 3) (ty := .boolean) (hw _ (List.mem_of_getElem? (i := 35) rfl)) V49 (own_laid_Gh hw) rfl (Or.inl (hw _ (List.mem_of_getElem? (i := 36) rfl))) (hw _ (List.mem_of_getElem? (i := 7) rfl)) (by decide) (own_nz hez) (own_fz hez) ga own_d_prog_70_method_2_code_171 ?_
  intro T55 h55 X55 W55 V55
  have K55 : Keep h0 h55 [a] := K49.wr W55 (Or.inl (by simp))
  replace V55 : own_Obj Z h55 a "com/example/libcachet/libcachet/Ghash" own_ns_Gh [(.long hi), (.long lo), (.ref bt_), (.int ez), (.long ((0 : Int64) + ln)), (.long ((zhs ^^^ ch) ^^^ zhl)), (.long ((zls ^^^ cl) ^^^ zll)), (.long ln), (.ref bml), (.ref bp)] := V55
  have F56_cb : own_AF Z h55 cb .byte 16 (own_b16 ch cl) := F50_cb.other W55 (Ne.symm hac)
  have F57_bml : own_AL Z h55 bml .long [(.long zhl), (.long zll)] := F51_bml.other W55 (Ne.symm ne_a_bml)
  have F58_bp : own_AL Z h55 bp .long [(.long wh), (.long wl)] := F52_bp.other W55 (Ne.symm ne_a_bp)
  have F59_bms : own_AL Z h55 bms .long [(.long zhs), (.long zls)] := F53_bms.other W55 (Ne.symm ne_a_bms)
  exact own_ret0 X55 hret fin (by decide) (by decide) ⟨bml, bp, ez, ((zhs ^^^ ch) ^^^ zhl), ((zls ^^^ cl) ^^^ zll), rfl, K55, V55, by rw [own_pk_xor, own_pk_xor, hzs, hzl, own_pk_0, own_gM_0, Nat.zero_xor]⟩ own_d_prog_70_method_2_code_174
set_option maxRecDepth 65536 in
set_option maxHeartbeats 40000000 in
theorem own_finish (l : Launch) (Z : State) (a0 : Array Value) (hw : ∀ d ∈ tables_1, d.before a0 Z = true) (a : Addr) (hi lo ll sh sl : Int64) (u_ivLengthTerm u_ended u_termLength u_lengthTerm u_power : Value) (h0 : Heap) (n0 : Nat) (Z0 : n0 ≤ h0.size) (O : own_Obj Z h0 a "com/example/libcachet/libcachet/Ghash" own_ns_Gh [(.long hi), (.long lo), u_ivLengthTerm, u_ended, (.long ll), (.long sh), (.long sl), u_termLength, u_lengthTerm, u_power]) :
    own_Con l Z n0 (⟨"com/example/libcachet/libcachet/Ghash", "finish", "()[B"⟩ : MethodName) prog_70_method_4_code 2 (some (.array .byte)) ({ frames := 1, cells := 2, slots := 18, locals := 35 } : Room) [] #[(.ref a)] h0 (fun v h' => ∃ (b : Addr) (oh ol : Int64), v = some (.ref b) ∧ Keep h0 h' [] ∧ h0.size ≤ b ∧ n0 ≤ b ∧ own_AF Z h' b .byte 16 (own_b16 oh ol) ∧ own_pk oh ol = own_pk sh sl ^^^ own_gM (own_pk 0 (ll * (8 : Int64))) (own_pk hi lo)) := by
  refine own_enter (plainFor_of_name own_pn_com_example_libcachet_libcachet_Ghash) Z0 #[.val (.ref a), .unset] (fun m => by first | (simp [entryFrame, mkF, argsToLocals, Value.category]; done) | rfl) ?_
  intro p e s m below meth c T A X0 hret hnm fin
  refine own_lpush X0 own_d_prog_70_method_4_code_0 ?_
  refine own_aload X0 own_d_prog_70_method_4_code_1 rfl ?_
  refine own_getF X0 (host := "") (k := 4) (hw _ (List.mem_of_getElem? (i := 42) rfl)) O rfl rfl own_d_prog_70_method_4_code_2 ?_
  intro T1 X1
  refine own_ldc2 X1 (hw _ (List.mem_of_getElem? (i := 44) rfl)) own_d_prog_70_method_4_code_5 ?_
  refine own_lmul X1 own_d_prog_70_method_4_code_8 ?_
  refine own_aload X1 own_d_prog_70_method_4_code_9 rfl ?_
  refine own_getF X1 (host := "") (k := 0) (hw _ (List.mem_of_getElem? (i := 18) rfl)) O rfl rfl own_d_prog_70_method_4_code_10 ?_
  intro T2 X2
  refine own_aload X2 own_d_prog_70_method_4_code_13 rfl ?_
  refine own_getF X2 (host := "") (k := 1) (hw _ (List.mem_of_getElem? (i := 20) rfl)) O rfl rfl own_d_prog_70_method_4_code_14 ?_
  intro T3 X3
  refine own_callS X3 (y := (⟨"com/example/libcachet/libcachet/Ghash", "multiply", "(JJJJ)[J"⟩ : MethodName)) [(.long (0 : Int64)), (.long (ll * (8 : Int64))), (.long hi), (.long lo)] [] 0 rfl (hw _ (List.mem_of_getElem? (i := 23) rfl)) (hw _ (List.mem_of_getElem? (i := 24) rfl)) (hw _ (List.mem_of_getElem? (i := 8) rfl)) (hw _ (List.mem_of_getElem? (i := 25) rfl)) (by decide) (own_multiply l Z a0 hw (0 : Int64) (ll * (8 : Int64)) hi lo h0 n0 X3.sz) own_d_prog_70_method_4_code_17 own_pd__JJJJ__J rfl rfl (by show 2 * 0 + _ ≤ _; exact Nat.le_of_eq rfl) (by decide) (by decide) (by decide) (by decide) ?_
  intro T4 h4 v4 X4 P4
  obtain ⟨bmf, zhf, zlf, rfl, Kc4, sz4, ga_bmf, V4, hzf⟩ := P4
  have ne_a_bmf : a ≠ bmf := Nat.ne_of_lt (Nat.lt_of_lt_of_le O.lt sz4)
  have sz_bmf : h0.size ≤ bmf := Nat.le_trans (Keep.refl h0 []).1 sz4
  have K4 : Keep h0 h4 [] := (Keep.refl h0 []).trans Kc4 all0
  have F5_a : own_Obj Z h4 a "com/example/libcachet/libcachet/Ghash" own_ns_Gh [(.long hi), (.long lo), u_ivLengthTerm, u_ended, (.long ll), (.long sh), (.long sl), u_termLength, u_lengthTerm, u_power] := O.keep Kc4 nin0
  show own_Wins p e below A T4 (mkF m 20 #[.val (.ref a), .unset] [(.ref bmf)])
  refine own_astore X4 #[.val (.ref a), .val (.ref bmf)] own_d_prog_70_method_4_code_20 rfl ?_
  refine own_aload X4 own_d_prog_70_method_4_code_21 rfl ?_
  refine own_getF X4 (host := "") (k := 5) (hw _ (List.mem_of_getElem? (i := 45) rfl)) F5_a rfl rfl own_d_prog_70_method_4_code_22 ?_
  intro T6 X6
  refine own_aload X6 own_d_prog_70_method_4_code_25 rfl ?_
  refine own_ipush X6 own_d_prog_70_method_4_code_26 ?_
  refine own_laload X6 V4 (i := 0) ⟨by decide, by decide⟩ rfl own_d_prog_70_method_4_code_27 ?_
  refine own_lxor X6 own_d_prog_70_method_4_code_28 ?_
  refine own_aload X6 own_d_prog_70_method_4_code_29 rfl ?_
  refine own_getF X6 (host := "") (k := 6) (hw _ (List.mem_of_getElem? (i := 47) rfl)) F5_a rfl rfl own_d_prog_70_method_4_code_30 ?_
  intro T7 X7
  refine own_aload X7 own_d_prog_70_method_4_code_33 rfl ?_
  refine own_ipush X7 own_d_prog_70_method_4_code_34 ?_
  refine own_laload X7 V4 (i := 1) ⟨by decide, by decide⟩ rfl own_d_prog_70_method_4_code_35 ?_
  refine own_lxor X7 own_d_prog_70_method_4_code_36 ?_
  refine own_callS X7 (y := (⟨"com/example/libcachet/libcachet/Ghash", "bytes", "(JJ)[B"⟩ : MethodName)) [(.long (sh ^^^ zhf)), (.long (sl ^^^ zlf))] [] 0 rfl (hw _ (List.mem_of_getElem? (i := 49) rfl)) (hw _ (List.mem_of_getElem? (i := 50) rfl)) (hw _ (List.mem_of_getElem? (i := 8) rfl)) (hw _ (List.mem_of_getElem? (i := 51) rfl)) (by decide) (own_bytes l Z a0 hw (sh ^^^ zhf) (sl ^^^ zlf) h4 n0 X7.sz) own_d_prog_70_method_4_code_37 own_pd__JJ__B rfl rfl (by show 2 * 0 + _ ≤ _; exact Nat.le_of_eq rfl) (by decide) (by decide) (by decide) (by decide) ?_
  intro T8 h8 v8 X8 P8
  obtain ⟨byf, rfl, Kc8, sz8, ga_byf, V8⟩ := P8
  have ne_a_byf : a ≠ byf := Nat.ne_of_lt (Nat.lt_of_lt_of_le F5_a.lt sz8)
  have ne_bmf_byf : bmf ≠ byf := Nat.ne_of_lt (Nat.lt_of_lt_of_le V4.lt sz8)
  have sz_byf : h0.size ≤ byf := Nat.le_trans K4.1 sz8
  have K8 : Keep h0 h8 [] := K4.trans Kc8 all0
  have F9_a : own_Obj Z h8 a "com/example/libcachet/libcachet/Ghash" own_ns_Gh [(.long hi), (.long lo), u_ivLengthTerm, u_ended, (.long ll), (.long sh), (.long sl), u_termLength, u_lengthTerm, u_power] := F5_a.keep Kc8 nin0
  have F10_bmf : own_AL Z h8 bmf .long [(.long zhf), (.long zlf)] := V4.keep Kc8 nin0
  show own_Wins p e below A T8 (mkF m 40 #[.val (.ref a), .val (.ref bmf)] [(.ref byf)])
  exact own_retA X8 hret rfl rfl fin (by decide) (by decide) ⟨byf, (sh ^^^ zhf), (sl ^^^ zlf), rfl, K8, sz_byf, ga_byf, V8, by rw [own_pk_xor, hzf]⟩ own_d_prog_70_method_4_code_40
set_option maxRecDepth 65536 in
set_option maxHeartbeats 40000000 in
theorem own_law (l : Launch) (Z : State) (a0 : Array Value) (hw : ∀ d ∈ tables_1, d.before a0 Z = true) (i0 i1 i2 i3 i4 : Int64) (i5 : Int32) (h0 : Heap) (n0 : Nat) (Z0 : n0 ≤ h0.size)  :
    own_Con l Z n0 x code maxLocals ret room_1 tables_1 #[(.long i0), (.long i1), (.long i2), (.long i3), (.long i4), (.int i5)] h0 (fun v _ => v = some (.int 1)) := by
  refine own_enter (plainFor_of_name own_pn_com_example_libcachet_libcachet_GhashFinishPinLaw) Z0 #[.val (.long i0), .second, .val (.long i1), .second, .val (.long i2), .second, .val (.long i3), .second, .val (.long i4), .second, .val (.int i5), .unset, .unset, .unset, .unset, .unset, .unset, .unset, .unset, .unset, .unset] (fun m => by first | (simp [entryFrame, mkF, argsToLocals, Value.category, maxLocals]; done) | rfl) ?_
  intro p e s m below meth c T A X0 hret hnm fin
  refine own_iload X0 own_d_code_0 rfl ?_
  refine own_ipush X0 own_d_code_2 ?_
  refine own_iand X0 own_d_code_3 ?_
  suffices J1 : ∀ ln : Int64, own_Wins p e below A T (mkF m 22 #[.val (.long i0), .second, .val (.long i1), .second, .val (.long i2), .second, .val (.long i3), .second, .val (.long i4), .second, .val (.int i5), .unset, .unset, .unset, .unset, .unset, .unset, .unset, .unset, .unset, .unset] [(.long ln)]) by
    by_cases c0 : (i5 &&& (1 : Int32)) = (0 : Int32)
    · skip
      refine own_ifYes X0 own_d_code_4 ((if0 _ _).trans (teq c0).1) ?_
      refine own_lload X0 own_d_code_16 rfl ?_
      refine own_ldc2 X0 (hw _ (List.mem_of_getElem? (i := 0) rfl)) own_d_code_18 ?_
      refine own_land X0 own_d_code_21 ?_
      exact J1 _
    · skip
      refine own_ifNo X0 own_d_code_4 ((if0 _ _).trans (feq c0).1) ?_
      refine own_lload X0 own_d_code_7 rfl ?_
      refine own_ldc2 X0 (hw _ (List.mem_of_getElem? (i := 67) rfl)) own_d_code_9 ?_
      refine own_land X0 own_d_code_12 ?_
      refine own_goto X0 own_d_code_13 ?_
      exact J1 _
  intro ln
  refine own_lstore X0 #[.val (.long i0), .second, .val (.long i1), .second, .val (.long i2), .second, .val (.long i3), .second, .val (.long i4), .second, .val (.int i5), .val (.long ln), .second, .unset, .unset, .unset, .unset, .unset, .unset, .unset, .unset] own_d_code_22 rfl ?_
  refine own_ipush X0 own_d_code_24 ?_
  refine own_newarr X0 (hw _ (List.mem_of_getElem? (i := 1) rfl)) own_d_code_26 (n := 16) ⟨by decide, by decide⟩ 16 (Nat.le_refl _) (by decide) (by decide) (by decide) ?_
  intro T2 h2 b2 X2 E2 g2 ga_b2 V2
  replace V2 : own_AL Z h2 b2 .byte [(.int (0 : Int32)), (.int (0 : Int32)), (.int (0 : Int32)), (.int (0 : Int32)), (.int (0 : Int32)), (.int (0 : Int32)), (.int (0 : Int32)), (.int (0 : Int32)), (.int (0 : Int32)), (.int (0 : Int32)), (.int (0 : Int32)), (.int (0 : Int32)), (.int (0 : Int32)), (.int (0 : Int32)), (.int (0 : Int32)), (.int (0 : Int32))] := V2
  refine own_astore X2 #[.val (.long i0), .second, .val (.long i1), .second, .val (.long i2), .second, .val (.long i3), .second, .val (.long i4), .second, .val (.int i5), .val (.long ln), .second, .val (.ref b2), .unset, .unset, .unset, .unset, .unset, .unset, .unset] own_d_code_28 rfl ?_
  refine own_aload X2 own_d_code_30 rfl ?_
  refine own_ipush X2 own_d_code_32 ?_
  refine own_lload X2 own_d_code_33 rfl ?_
  have F3_b2 : own_AF Z h2 b2 .byte 16 (fun j => ([(.int (0 : Int32)), (.int (0 : Int32)), (.int (0 : Int32)), (.int (0 : Int32)), (.int (0 : Int32)), (.int (0 : Int32)), (.int (0 : Int32)), (.int (0 : Int32)), (.int (0 : Int32)), (.int (0 : Int32)), (.int (0 : Int32)), (.int (0 : Int32)), (.int (0 : Int32)), (.int (0 : Int32)), (.int (0 : Int32)), (.int (0 : Int32))] : List Value).getD j (.int 0)) := V2.fn 16 rfl (.int 0)
  refine own_callS X2 (y := (⟨"com/example/libcachet/libcachet/GhashFinishPinLaw", "put", "([BIJ)V"⟩ : MethodName)) [(.ref b2), (.int (0 : Int32)), (.long i0)] [] 0 rfl (hw _ (List.mem_of_getElem? (i := 2) rfl)) (hw _ (List.mem_of_getElem? (i := 3) rfl)) (hw _ (List.mem_of_getElem? (i := 4) rfl)) (hw _ (List.mem_of_getElem? (i := 5) rfl)) (by decide) (own_put l Z a0 hw b2 (0 : Int32) 0 i0 _ h2 n0 X2.sz F3_b2 ga_b2 ⟨by decide, by decide⟩ (by decide)) own_d_code_34 own_pd___BIJ_V rfl rfl (by show 2 * 0 + _ ≤ _; exact Nat.le_of_eq rfl) (by decide) (by decide) (by decide) (by decide) ?_
  intro T4 h4 v4 X4 P4
  obtain ⟨rfl, Kc4, U4⟩ := P4
  show own_Wins p e below A T4 (mkF m 37 #[.val (.long i0), .second, .val (.long i1), .second, .val (.long i2), .second, .val (.long i3), .second, .val (.long i4), .second, .val (.int i5), .val (.long ln), .second, .val (.ref b2), .unset, .unset, .unset, .unset, .unset, .unset, .unset] [])
  refine own_aload X4 own_d_code_37 rfl ?_
  refine own_ipush X4 own_d_code_39 ?_
  refine own_lload X4 own_d_code_41 rfl ?_
  refine own_callS X4 (y := (⟨"com/example/libcachet/libcachet/GhashFinishPinLaw", "put", "([BIJ)V"⟩ : MethodName)) [(.ref b2), (.int (8 : Int32)), (.long i1)] [] 0 rfl (hw _ (List.mem_of_getElem? (i := 2) rfl)) (hw _ (List.mem_of_getElem? (i := 3) rfl)) (hw _ (List.mem_of_getElem? (i := 4) rfl)) (hw _ (List.mem_of_getElem? (i := 5) rfl)) (by decide) (own_put l Z a0 hw b2 (8 : Int32) 8 i1 _ h4 n0 X4.sz U4 ga_b2 ⟨by decide, by decide⟩ (by decide)) own_d_code_42 own_pd___BIJ_V rfl rfl (by show 2 * 0 + _ ≤ _; exact Nat.le_of_eq rfl) (by decide) (by decide) (by decide) (by decide) ?_
  intro T5 h5 v5 X5 P5
  obtain ⟨rfl, Kc5, U5⟩ := P5
  show own_Wins p e below A T5 (mkF m 45 #[.val (.long i0), .second, .val (.long i1), .second, .val (.long i2), .second, .val (.long i3), .second, .val (.long i4), .second, .val (.int i5), .val (.long ln), .second, .val (.ref b2), .unset, .unset, .unset, .unset, .unset, .unset, .unset] [])
  have B6 : own_AF Z h5 b2 .byte 16 (own_b16 i0 i1) := U5.to (fun j hj => own_p16 _ i0 i1 j hj)
  refine own_ipush X5 own_d_code_45 ?_
  refine own_newarr X5 (hw _ (List.mem_of_getElem? (i := 1) rfl)) own_d_code_47 (n := 16) ⟨by decide, by decide⟩ 16 (Nat.le_refl _) (by decide) (by decide) (by decide) ?_
  intro T7 h7 b7 X7 E7 g7 ga_b7 V7
  have ne_b2_b7 : b2 ≠ b7 := by rw [g7]; exact Nat.ne_of_lt B6.lt
  have F8_b2 : own_AF Z h7 b2 .byte 16 (own_b16 i0 i1) := B6.ext E7
  replace V7 : own_AL Z h7 b7 .byte [(.int (0 : Int32)), (.int (0 : Int32)), (.int (0 : Int32)), (.int (0 : Int32)), (.int (0 : Int32)), (.int (0 : Int32)), (.int (0 : Int32)), (.int (0 : Int32)), (.int (0 : Int32)), (.int (0 : Int32)), (.int (0 : Int32)), (.int (0 : Int32)), (.int (0 : Int32)), (.int (0 : Int32)), (.int (0 : Int32)), (.int (0 : Int32))] := V7
  refine own_astore X7 #[.val (.long i0), .second, .val (.long i1), .second, .val (.long i2), .second, .val (.long i3), .second, .val (.long i4), .second, .val (.int i5), .val (.long ln), .second, .val (.ref b2), .val (.ref b7), .unset, .unset, .unset, .unset, .unset, .unset] own_d_code_49 rfl ?_
  refine own_aload X7 own_d_code_51 rfl ?_
  refine own_ipush X7 own_d_code_53 ?_
  refine own_lload X7 own_d_code_54 rfl ?_
  have F9_b7 : own_AF Z h7 b7 .byte 16 (fun j => ([(.int (0 : Int32)), (.int (0 : Int32)), (.int (0 : Int32)), (.int (0 : Int32)), (.int (0 : Int32)), (.int (0 : Int32)), (.int (0 : Int32)), (.int (0 : Int32)), (.int (0 : Int32)), (.int (0 : Int32)), (.int (0 : Int32)), (.int (0 : Int32)), (.int (0 : Int32)), (.int (0 : Int32)), (.int (0 : Int32)), (.int (0 : Int32))] : List Value).getD j (.int 0)) := V7.fn 16 rfl (.int 0)
  refine own_callS X7 (y := (⟨"com/example/libcachet/libcachet/GhashFinishPinLaw", "put", "([BIJ)V"⟩ : MethodName)) [(.ref b7), (.int (0 : Int32)), (.long i2)] [] 0 rfl (hw _ (List.mem_of_getElem? (i := 2) rfl)) (hw _ (List.mem_of_getElem? (i := 3) rfl)) (hw _ (List.mem_of_getElem? (i := 4) rfl)) (hw _ (List.mem_of_getElem? (i := 5) rfl)) (by decide) (own_put l Z a0 hw b7 (0 : Int32) 0 i2 _ h7 n0 X7.sz F9_b7 ga_b7 ⟨by decide, by decide⟩ (by decide)) own_d_code_56 own_pd___BIJ_V rfl rfl (by show 2 * 0 + _ ≤ _; exact Nat.le_of_eq rfl) (by decide) (by decide) (by decide) (by decide) ?_
  intro T10 h10 v10 X10 P10
  obtain ⟨rfl, Kc10, U10⟩ := P10
  have F11_b2 : own_AF Z h10 b2 .byte 16 (own_b16 i0 i1) := F8_b2.keep Kc10 (ninS (Ne.symm (Ne.symm ne_b2_b7)) nin0)
  show own_Wins p e below A T10 (mkF m 59 #[.val (.long i0), .second, .val (.long i1), .second, .val (.long i2), .second, .val (.long i3), .second, .val (.long i4), .second, .val (.int i5), .val (.long ln), .second, .val (.ref b2), .val (.ref b7), .unset, .unset, .unset, .unset, .unset, .unset] [])
  refine own_aload X10 own_d_code_59 rfl ?_
  refine own_ipush X10 own_d_code_61 ?_
  refine own_lload X10 own_d_code_63 rfl ?_
  refine own_callS X10 (y := (⟨"com/example/libcachet/libcachet/GhashFinishPinLaw", "put", "([BIJ)V"⟩ : MethodName)) [(.ref b7), (.int (8 : Int32)), (.long i3)] [] 0 rfl (hw _ (List.mem_of_getElem? (i := 2) rfl)) (hw _ (List.mem_of_getElem? (i := 3) rfl)) (hw _ (List.mem_of_getElem? (i := 4) rfl)) (hw _ (List.mem_of_getElem? (i := 5) rfl)) (by decide) (own_put l Z a0 hw b7 (8 : Int32) 8 i3 _ h10 n0 X10.sz U10 ga_b7 ⟨by decide, by decide⟩ (by decide)) own_d_code_65 own_pd___BIJ_V rfl rfl (by show 2 * 0 + _ ≤ _; exact Nat.le_of_eq rfl) (by decide) (by decide) (by decide) (by decide) ?_
  intro T12 h12 v12 X12 P12
  obtain ⟨rfl, Kc12, U12⟩ := P12
  have F13_b2 : own_AF Z h12 b2 .byte 16 (own_b16 i0 i1) := F11_b2.keep Kc12 (ninS (Ne.symm (Ne.symm ne_b2_b7)) nin0)
  show own_Wins p e below A T12 (mkF m 68 #[.val (.long i0), .second, .val (.long i1), .second, .val (.long i2), .second, .val (.long i3), .second, .val (.long i4), .second, .val (.int i5), .val (.long ln), .second, .val (.ref b2), .val (.ref b7), .unset, .unset, .unset, .unset, .unset, .unset] [])
  have B14 : own_AF Z h12 b7 .byte 16 (own_b16 i2 i3) := U12.to (fun j hj => own_p16 _ i2 i3 j hj)
  refine own_new X12 (hw _ (List.mem_of_getElem? (i := 6) rfl)) (hw _ (List.mem_of_getElem? (i := 7) rfl)) (hw _ (List.mem_of_getElem? (i := 8) rfl)) (own_laid_Gh hw) [(.long (0 : Int64)), (.long (0 : Int64)), .null, (.int (0 : Int32)), (.long (0 : Int64)), (.long (0 : Int64)), (.long (0 : Int64)), (.long (0 : Int64)), .null, .null] (by decide) own_d_code_68 (by decide) (by decide) ?_
  intro T15 h15 b15 X15 E15 g15 ga_b15 V15
  have ne_b2_b15 : b2 ≠ b15 := by rw [g15]; exact Nat.ne_of_lt F13_b2.lt
  have ne_b7_b15 : b7 ≠ b15 := by rw [g15]; exact Nat.ne_of_lt B14.lt
  have F16_b2 : own_AF Z h15 b2 .byte 16 (own_b16 i0 i1) := F13_b2.ext E15
  have F17_b7 : own_AF Z h15 b7 .byte 16 (own_b16 i2 i3) := B14.ext E15
  refine own_dup X15 own_d_code_71 rfl ?_
  refine own_aload X15 own_d_code_72 rfl ?_
  refine own_callI X15 (y := (⟨"com/example/libcachet/libcachet/Ghash", "<init>", "([B)V"⟩ : MethodName)) [(.ref b2)] [(.ref b15)] 1 (a := b15) rfl rfl (hw _ (List.mem_of_getElem? (i := 9) rfl)) (hw _ (List.mem_of_getElem? (i := 10) rfl)) (hw _ (List.mem_of_getElem? (i := 8) rfl)) (hw _ (List.mem_of_getElem? (i := 11) rfl)) (by decide) (own_ctor l Z a0 hw b15 b2 i0 i1 h15 n0 X15.sz V15 ga_b15 (Ne.symm ne_b2_b15) F16_b2) own_d_code_74 own_pd___B_V rfl rfl (by show 2 * 0 + _ ≤ _; exact Nat.le_of_eq rfl) (by decide) (by decide) (by decide) (by decide) ?_
  intro T18 h18 v18 X18 P18
  obtain ⟨bt_, th, tl, rfl, Kc18, U18, -, -, -, -⟩ := P18
  have F19_b2 : own_AF Z h18 b2 .byte 16 (own_b16 i0 i1) := F16_b2.keep Kc18 (ninS (Ne.symm (Ne.symm ne_b2_b15)) nin0)
  have F20_b7 : own_AF Z h18 b7 .byte 16 (own_b16 i2 i3) := F17_b7.keep Kc18 (ninS (Ne.symm (Ne.symm ne_b7_b15)) nin0)
  show own_Wins p e below A T18 (mkF m 77 #[.val (.long i0), .second, .val (.long i1), .second, .val (.long i2), .second, .val (.long i3), .second, .val (.long i4), .second, .val (.int i5), .val (.long ln), .second, .val (.ref b2), .val (.ref b7), .unset, .unset, .unset, .unset, .unset, .unset] [(.ref b15)])
  refine own_astore X18 #[.val (.long i0), .second, .val (.long i1), .second, .val (.long i2), .second, .val (.long i3), .second, .val (.long i4), .second, .val (.int i5), .val (.long ln), .second, .val (.ref b2), .val (.ref b7), .val (.ref b15), .unset, .unset, .unset, .unset, .unset] own_d_code_77 rfl ?_
  refine own_aload X18 own_d_code_79 rfl ?_
  refine own_aload X18 own_d_code_81 rfl ?_
  refine own_lload X18 own_d_code_83 rfl ?_
  by_cases c1 : (0 : Int64) < ln
  · skip
    refine own_callV X18 (y := (⟨"com/example/libcachet/libcachet/Ghash", "add", "([BJ)V"⟩ : MethodName)) [(.ref b7), (.long ln)] [] 0 (a := b15) rfl (hw _ (List.mem_of_getElem? (i := 30) rfl)) (hw _ (List.mem_of_getElem? (i := 31) rfl)) (hw _ (List.mem_of_getElem? (i := 33) rfl)) (hw _ (List.mem_of_getElem? (i := 32) rfl)) (hw _ (List.mem_of_getElem? (i := 8) rfl)) (hw _ (List.mem_of_getElem? (i := 34) rfl)) (by decide) U18.1 (own_add1 l Z a0 hw b15 b7 bt_ ln i0 i1 i2 i3 h18 n0 X18.sz U18 ga_b15 (Ne.symm ne_b7_b15) F20_b7 c1 (fun q => by rw [q] at c1; exact absurd c1 (by decide))) own_d_code_85 own_pd___BJ_V rfl rfl (by show 2 * 0 + _ ≤ _; exact Nat.le_of_eq rfl) (by decide) (by decide) (by decide) (by decide) ?_
    intro T21 h21 v21 X21 P21
    obtain ⟨bl_, bp_, ez, sh, sl, rfl, Kc21, U21, hsum⟩ := P21
    show own_Wins p e below A T21 (mkF m 88 #[.val (.long i0), .second, .val (.long i1), .second, .val (.long i2), .second, .val (.long i3), .second, .val (.long i4), .second, .val (.int i5), .val (.long ln), .second, .val (.ref b2), .val (.ref b7), .val (.ref b15), .unset, .unset, .unset, .unset, .unset] [])
    refine own_aload X21 own_d_code_88 rfl ?_
    refine own_callV X21 (y := (⟨"com/example/libcachet/libcachet/Ghash", "finish", "()[B"⟩ : MethodName)) [] [] 0 (a := b15) rfl (hw _ (List.mem_of_getElem? (i := 37) rfl)) (hw _ (List.mem_of_getElem? (i := 38) rfl)) (hw _ (List.mem_of_getElem? (i := 40) rfl)) (hw _ (List.mem_of_getElem? (i := 39) rfl)) (hw _ (List.mem_of_getElem? (i := 8) rfl)) (hw _ (List.mem_of_getElem? (i := 41) rfl)) (by decide) U21.1 (own_finish l Z a0 hw b15 i0 i1 ((0 : Int64) + ln) sh sl (.ref bt_) (.int ez) (.long ln) (.ref bl_) (.ref bp_) h21 n0 X21.sz U21) own_d_code_90 own_pd____B rfl rfl (by show 2 * 0 + _ ≤ _; exact Nat.le_of_eq rfl) (by decide) (by decide) (by decide) (by decide) ?_
    intro T22 h22 v22 X22 P22
    obtain ⟨bo, oh, ol, rfl, Kc22, -, -, Vo, hout⟩ := P22
    show own_Wins p e below A T22 (mkF m 93 #[.val (.long i0), .second, .val (.long i1), .second, .val (.long i2), .second, .val (.long i3), .second, .val (.long i4), .second, .val (.int i5), .val (.long ln), .second, .val (.ref b2), .val (.ref b7), .val (.ref b15), .unset, .unset, .unset, .unset, .unset] [(.ref bo)])
    have eo : oh = i2 ∧ ol = i3 := own_pk_inj (by rw [hout, hsum, Int64.zero_add]; exact own_xx _ _)
    rw [eo.1, eo.2] at Vo
    refine own_astore X22 #[.val (.long i0), .second, .val (.long i1), .second, .val (.long i2), .second, .val (.long i3), .second, .val (.long i4), .second, .val (.int i5), .val (.long ln), .second, .val (.ref b2), .val (.ref b7), .val (.ref b15), .val (.ref bo), .unset, .unset, .unset, .unset] own_d_code_93 rfl ?_
    refine own_aload X22 own_d_code_95 rfl ?_
    refine own_inlNo X22 own_d_code_97 ?_
    refine own_aload X22 own_d_code_100 rfl ?_
    refine own_alenF X22 Vo own_d_code_102 ?_
    refine own_ipush X22 own_d_code_103 ?_
    refine own_icYes X22 own_d_code_105 (teq rfl).1 ?_
    refine own_lload X22 own_d_code_110 rfl ?_
    refine own_lpush X22 own_d_code_112 ?_
    refine own_lcmp X22 own_d_code_113 ?_
    refine own_ifNo X22 own_d_code_114 ((if0 _ _).trans (tlt ((lw_gt ln (0 : Int64)).2 c1)).2.2.2) ?_
    refine own_lload X22 own_d_code_117 rfl ?_
    refine own_goto X22 own_d_code_119 ?_
    refine own_lstore X22 #[.val (.long i0), .second, .val (.long i1), .second, .val (.long i2), .second, .val (.long i3), .second, .val (.long i4), .second, .val (.int i5), .val (.long ln), .second, .val (.ref b2), .val (.ref b7), .val (.ref b15), .val (.ref bo), .val (.long i2), .second, .unset, .unset] own_d_code_123 rfl ?_
    refine own_lload X22 own_d_code_125 rfl ?_
    refine own_lpush X22 own_d_code_127 ?_
    refine own_lcmp X22 own_d_code_128 ?_
    refine own_ifNo X22 own_d_code_129 ((if0 _ _).trans (tlt ((lw_gt ln (0 : Int64)).2 c1)).2.2.2) ?_
    refine own_lload X22 own_d_code_132 rfl ?_
    refine own_goto X22 own_d_code_134 ?_
    refine own_lstore X22 #[.val (.long i0), .second, .val (.long i1), .second, .val (.long i2), .second, .val (.long i3), .second, .val (.long i4), .second, .val (.int i5), .val (.long ln), .second, .val (.ref b2), .val (.ref b7), .val (.ref b15), .val (.ref bo), .val (.long i2), .second, .val (.long i3), .second] own_d_code_138 rfl ?_
    refine own_aload X22 own_d_code_140 rfl ?_
    refine own_ipush X22 own_d_code_142 ?_
    refine own_callS X22 (y := (⟨"com/example/libcachet/libcachet/GhashFinishPinLaw", "get", "([BI)J"⟩ : MethodName)) [(.ref bo), (.int (0 : Int32))] [] 0 rfl (hw _ (List.mem_of_getElem? (i := 52) rfl)) (hw _ (List.mem_of_getElem? (i := 53) rfl)) (hw _ (List.mem_of_getElem? (i := 4) rfl)) (hw _ (List.mem_of_getElem? (i := 54) rfl)) (by decide) (own_get l Z a0 hw bo (0 : Int32) 0 i2 _ h22 n0 X22.sz Vo ⟨by decide, by decide⟩ (by decide) (fun i hi => by simp only [own_b16]; rw [if_pos (by omega)]; congr 2; omega)) own_d_code_143 own_pd___BI_J rfl rfl (by show 2 * 0 + _ ≤ _; exact Nat.le_of_eq rfl) (by decide) (by decide) (by decide) (by decide) ?_
    intro T23 h23 v23 X23 P23
    obtain ⟨rfl, eh23⟩ := P23
    rw [eh23] at X23
    show own_Wins p e below A T23 (mkF m 146 #[.val (.long i0), .second, .val (.long i1), .second, .val (.long i2), .second, .val (.long i3), .second, .val (.long i4), .second, .val (.int i5), .val (.long ln), .second, .val (.ref b2), .val (.ref b7), .val (.ref b15), .val (.ref bo), .val (.long i2), .second, .val (.long i3), .second] [(.long i2)])
    refine own_lload X23 own_d_code_146 rfl ?_
    refine own_lcmp X23 own_d_code_148 ?_
    refine own_ifNo X23 own_d_code_149 ((if0 _ _).trans (teq ((lw_eq i2 i2).2 rfl)).2) ?_
    refine own_aload X23 own_d_code_152 rfl ?_
    refine own_ipush X23 own_d_code_154 ?_
    refine own_callS X23 (y := (⟨"com/example/libcachet/libcachet/GhashFinishPinLaw", "get", "([BI)J"⟩ : MethodName)) [(.ref bo), (.int (8 : Int32))] [] 0 rfl (hw _ (List.mem_of_getElem? (i := 52) rfl)) (hw _ (List.mem_of_getElem? (i := 53) rfl)) (hw _ (List.mem_of_getElem? (i := 4) rfl)) (hw _ (List.mem_of_getElem? (i := 54) rfl)) (by decide) (own_get l Z a0 hw bo (8 : Int32) 8 i3 _ h22 n0 X23.sz Vo ⟨by decide, by decide⟩ (by decide) (fun i hi => by simp only [own_b16]; rw [if_neg (by omega)]; congr 2; omega)) own_d_code_156 own_pd___BI_J rfl rfl (by show 2 * 0 + _ ≤ _; exact Nat.le_of_eq rfl) (by decide) (by decide) (by decide) (by decide) ?_
    intro T24 h24 v24 X24 P24
    obtain ⟨rfl, eh24⟩ := P24
    rw [eh24] at X24
    show own_Wins p e below A T24 (mkF m 159 #[.val (.long i0), .second, .val (.long i1), .second, .val (.long i2), .second, .val (.long i3), .second, .val (.long i4), .second, .val (.int i5), .val (.long ln), .second, .val (.ref b2), .val (.ref b7), .val (.ref b15), .val (.ref bo), .val (.long i2), .second, .val (.long i3), .second] [(.long i3)])
    refine own_lload X24 own_d_code_159 rfl ?_
    refine own_lcmp X24 own_d_code_161 ?_
    refine own_ifNo X24 own_d_code_162 ((if0 _ _).trans (teq ((lw_eq i3 i3).2 rfl)).2) ?_
    refine own_ipush X24 own_d_code_165 ?_
    refine own_goto X24 own_d_code_166 ?_
    exact own_retZ X24 hret rfl fin (by decide) (by decide) rfl own_d_code_170
  · skip
    refine own_callV X18 (y := (⟨"com/example/libcachet/libcachet/Ghash", "add", "([BJ)V"⟩ : MethodName)) [(.ref b7), (.long ln)] [] 0 (a := b15) rfl (hw _ (List.mem_of_getElem? (i := 30) rfl)) (hw _ (List.mem_of_getElem? (i := 31) rfl)) (hw _ (List.mem_of_getElem? (i := 33) rfl)) (hw _ (List.mem_of_getElem? (i := 32) rfl)) (hw _ (List.mem_of_getElem? (i := 8) rfl)) (hw _ (List.mem_of_getElem? (i := 34) rfl)) (by decide) U18.1 (own_add0 l Z a0 hw b15 b7 bt_ ln i0 i1 h18 n0 X18.sz U18 c1) own_d_code_85 own_pd___BJ_V rfl rfl (by show 2 * 0 + _ ≤ _; exact Nat.le_of_eq rfl) (by decide) (by decide) (by decide) (by decide) ?_
    intro T25 h25 v25 X25 P25
    obtain ⟨rfl, eh25⟩ := P25
    rw [eh25] at X25
    show own_Wins p e below A T25 (mkF m 88 #[.val (.long i0), .second, .val (.long i1), .second, .val (.long i2), .second, .val (.long i3), .second, .val (.long i4), .second, .val (.int i5), .val (.long ln), .second, .val (.ref b2), .val (.ref b7), .val (.ref b15), .unset, .unset, .unset, .unset, .unset] [])
    refine own_aload X25 own_d_code_88 rfl ?_
    refine own_callV X25 (y := (⟨"com/example/libcachet/libcachet/Ghash", "finish", "()[B"⟩ : MethodName)) [] [] 0 (a := b15) rfl (hw _ (List.mem_of_getElem? (i := 37) rfl)) (hw _ (List.mem_of_getElem? (i := 38) rfl)) (hw _ (List.mem_of_getElem? (i := 40) rfl)) (hw _ (List.mem_of_getElem? (i := 39) rfl)) (hw _ (List.mem_of_getElem? (i := 8) rfl)) (hw _ (List.mem_of_getElem? (i := 41) rfl)) (by decide) U18.1 (own_finish l Z a0 hw b15 i0 i1 (0 : Int64) 0 0 (.ref bt_) (.int (0 : Int32)) (.long (0 : Int64)) .null .null h18 n0 X25.sz U18) own_d_code_90 own_pd____B rfl rfl (by show 2 * 0 + _ ≤ _; exact Nat.le_of_eq rfl) (by decide) (by decide) (by decide) (by decide) ?_
    intro T26 h26 v26 X26 P26
    obtain ⟨bo, oh, ol, rfl, Kc26, -, -, Vo, hout⟩ := P26
    show own_Wins p e below A T26 (mkF m 93 #[.val (.long i0), .second, .val (.long i1), .second, .val (.long i2), .second, .val (.long i3), .second, .val (.long i4), .second, .val (.int i5), .val (.long ln), .second, .val (.ref b2), .val (.ref b7), .val (.ref b15), .unset, .unset, .unset, .unset, .unset] [(.ref bo)])
    have eo : oh = (0 : Int64) ∧ ol = (0 : Int64) := own_pk_inj (by rw [hout, show (0 : Int64) * 8 = 0 by decide, own_pk_0, own_gM_0]; rfl)
    rw [eo.1, eo.2] at Vo
    refine own_astore X26 #[.val (.long i0), .second, .val (.long i1), .second, .val (.long i2), .second, .val (.long i3), .second, .val (.long i4), .second, .val (.int i5), .val (.long ln), .second, .val (.ref b2), .val (.ref b7), .val (.ref b15), .val (.ref bo), .unset, .unset, .unset, .unset] own_d_code_93 rfl ?_
    refine own_aload X26 own_d_code_95 rfl ?_
    refine own_inlNo X26 own_d_code_97 ?_
    refine own_aload X26 own_d_code_100 rfl ?_
    refine own_alenF X26 Vo own_d_code_102 ?_
    refine own_ipush X26 own_d_code_103 ?_
    refine own_icYes X26 own_d_code_105 (teq rfl).1 ?_
    refine own_lload X26 own_d_code_110 rfl ?_
    refine own_lpush X26 own_d_code_112 ?_
    refine own_lcmp X26 own_d_code_113 ?_
    refine own_ifYes X26 own_d_code_114 ((if0 _ _).trans (flt (mt (lw_gt ln (0 : Int64)).1 c1)).2.2.2) ?_
    refine own_lpush X26 own_d_code_122 ?_
    refine own_lstore X26 #[.val (.long i0), .second, .val (.long i1), .second, .val (.long i2), .second, .val (.long i3), .second, .val (.long i4), .second, .val (.int i5), .val (.long ln), .second, .val (.ref b2), .val (.ref b7), .val (.ref b15), .val (.ref bo), .val (.long (0 : Int64)), .second, .unset, .unset] own_d_code_123 rfl ?_
    refine own_lload X26 own_d_code_125 rfl ?_
    refine own_lpush X26 own_d_code_127 ?_
    refine own_lcmp X26 own_d_code_128 ?_
    refine own_ifYes X26 own_d_code_129 ((if0 _ _).trans (flt (mt (lw_gt ln (0 : Int64)).1 c1)).2.2.2) ?_
    refine own_lpush X26 own_d_code_137 ?_
    refine own_lstore X26 #[.val (.long i0), .second, .val (.long i1), .second, .val (.long i2), .second, .val (.long i3), .second, .val (.long i4), .second, .val (.int i5), .val (.long ln), .second, .val (.ref b2), .val (.ref b7), .val (.ref b15), .val (.ref bo), .val (.long (0 : Int64)), .second, .val (.long (0 : Int64)), .second] own_d_code_138 rfl ?_
    refine own_aload X26 own_d_code_140 rfl ?_
    refine own_ipush X26 own_d_code_142 ?_
    refine own_callS X26 (y := (⟨"com/example/libcachet/libcachet/GhashFinishPinLaw", "get", "([BI)J"⟩ : MethodName)) [(.ref bo), (.int (0 : Int32))] [] 0 rfl (hw _ (List.mem_of_getElem? (i := 52) rfl)) (hw _ (List.mem_of_getElem? (i := 53) rfl)) (hw _ (List.mem_of_getElem? (i := 4) rfl)) (hw _ (List.mem_of_getElem? (i := 54) rfl)) (by decide) (own_get l Z a0 hw bo (0 : Int32) 0 (0 : Int64) _ h26 n0 X26.sz Vo ⟨by decide, by decide⟩ (by decide) (fun i hi => by simp only [own_b16]; rw [if_pos (by omega)]; congr 2; omega)) own_d_code_143 own_pd___BI_J rfl rfl (by show 2 * 0 + _ ≤ _; exact Nat.le_of_eq rfl) (by decide) (by decide) (by decide) (by decide) ?_
    intro T27 h27 v27 X27 P27
    obtain ⟨rfl, eh27⟩ := P27
    rw [eh27] at X27
    show own_Wins p e below A T27 (mkF m 146 #[.val (.long i0), .second, .val (.long i1), .second, .val (.long i2), .second, .val (.long i3), .second, .val (.long i4), .second, .val (.int i5), .val (.long ln), .second, .val (.ref b2), .val (.ref b7), .val (.ref b15), .val (.ref bo), .val (.long (0 : Int64)), .second, .val (.long (0 : Int64)), .second] [(.long (0 : Int64))])
    refine own_lload X27 own_d_code_146 rfl ?_
    refine own_lcmp X27 own_d_code_148 ?_
    refine own_ifNo X27 own_d_code_149 ((if0 _ _).trans (teq ((lw_eq (0 : Int64) (0 : Int64)).2 rfl)).2) ?_
    refine own_aload X27 own_d_code_152 rfl ?_
    refine own_ipush X27 own_d_code_154 ?_
    refine own_callS X27 (y := (⟨"com/example/libcachet/libcachet/GhashFinishPinLaw", "get", "([BI)J"⟩ : MethodName)) [(.ref bo), (.int (8 : Int32))] [] 0 rfl (hw _ (List.mem_of_getElem? (i := 52) rfl)) (hw _ (List.mem_of_getElem? (i := 53) rfl)) (hw _ (List.mem_of_getElem? (i := 4) rfl)) (hw _ (List.mem_of_getElem? (i := 54) rfl)) (by decide) (own_get l Z a0 hw bo (8 : Int32) 8 (0 : Int64) _ h26 n0 X27.sz Vo ⟨by decide, by decide⟩ (by decide) (fun i hi => by simp only [own_b16]; rw [if_neg (by omega)]; congr 2; omega)) own_d_code_156 own_pd___BI_J rfl rfl (by show 2 * 0 + _ ≤ _; exact Nat.le_of_eq rfl) (by decide) (by decide) (by decide) (by decide) ?_
    intro T28 h28 v28 X28 P28
    obtain ⟨rfl, eh28⟩ := P28
    rw [eh28] at X28
    show own_Wins p e below A T28 (mkF m 159 #[.val (.long i0), .second, .val (.long i1), .second, .val (.long i2), .second, .val (.long i3), .second, .val (.long i4), .second, .val (.int i5), .val (.long ln), .second, .val (.ref b2), .val (.ref b7), .val (.ref b15), .val (.ref bo), .val (.long (0 : Int64)), .second, .val (.long (0 : Int64)), .second] [(.long (0 : Int64))])
    refine own_lload X28 own_d_code_159 rfl ?_
    refine own_lcmp X28 own_d_code_161 ?_
    refine own_ifNo X28 own_d_code_162 ((if0 _ _).trans (teq ((lw_eq (0 : Int64) (0 : Int64)).2 rfl)).2) ?_
    refine own_ipush X28 own_d_code_165 ?_
    refine own_goto X28 own_d_code_166 ?_
    exact own_retZ X28 hret rfl fin (by decide) (by decide) rfl own_d_code_170
set_option maxRecDepth 65536 in
set_option maxHeartbeats 40000000 in
theorem own_comes {Post : Tables → Env → Array Value → State → Outcome → State → Prop} (hpost : ∀ tb e args s v u, (limb_1_1.after args s (.returned v) u = true ∧ limb_1_2.after args s (.returned v) u = true) → FrameEnd s (.returned v) u (Jvm.fieldLocs frame_1_writes args s ++ Jvm.arrayLocs frame_1_arrays args s ++ Jvm.staticLocs frame_1_statics s) 264 704 → Post tb e args s (.returned v) u) :
    ArmFor flags0 classFile x code maxLocals ret World_1 tables_1 room_1 Calls_1 rest_1 Pre_1 Post := by
  intro l hfl _ _ p e ha hc hk s m args below hf hA hF happ hP
  obtain ⟨hcalls, hrest, hpre⟩ := hP
  obtain ⟨-, -, -, hnamed, -, -, -, hat⟩ := (Spec.applies_iff hf).mp happ
  obtain ⟨hg, hn⟩ := and_e (Cond.before_iff.mp (show (Jvm.Cond.and given_1 narrow_1).before args s = true from hpre))
  obtain ⟨gc, g0⟩ := and_e hg
  obtain ⟨q0, g1⟩ := and_e g0
  obtain ⟨q1, g2⟩ := and_e g1
  obtain ⟨q2, g3⟩ := and_e g2
  obtain ⟨q3, g4⟩ := and_e g3
  obtain ⟨q4, g5⟩ := and_e g4
  obtain ⟨w0, w1, w2, w3, w4, w5, rfl⟩ : ∃ w0 w1 w2 w3 w4 w5 : Value, args = #[w0, w1, w2, w3, w4, w5] := by
    have hs : args.size = 6 := by simpa [Cond.value, given_1] using gc
    obtain ⟨L⟩ := args
    match L, hs with
    | [w0, w1, w2, w3, w4, w5], _ => exact ⟨w0, w1, w2, w3, w4, w5, rfl⟩
  have hw := fun d (hd : d ∈ tables_1) => atoms_spec (ws := Jvm.Cond.code x code maxLocals ret :: tables_1) hat d (List.mem_cons_of_mem _ hd)
  obtain ⟨i0, ei0⟩ := isL_v q0
  obtain rfl : w0 = (.long i0) := Option.some.inj ei0
  obtain ⟨i1, ei1⟩ := isL_v q1
  obtain rfl : w1 = (.long i1) := Option.some.inj ei1
  obtain ⟨i2, ei2⟩ := isL_v q2
  obtain rfl : w2 = (.long i2) := Option.some.inj ei2
  obtain ⟨i3, ei3⟩ := isL_v q3
  obtain rfl : w3 = (.long i3) := Option.some.inj ei3
  obtain ⟨i4, ei4⟩ := isL_v q4
  obtain rfl : w4 = (.long i4) := Option.some.inj ei4
  obtain ⟨i5, ei5⟩ := is_v g5
  obtain rfl : w5 = (.int i5) := Option.some.inj ei5
  obtain ⟨n, o, h1, h2, h3, _, L, rfl, ⟨N, -, rfl⟩, hq⟩ := own_law l s _ hw i0 i1 i2 i3 i4 i5 s.heap s.heap.size (Nat.le_refl _) p e ha hc hk s m _ below hf ((Spec.applies_iff_loose hf).mp happ).1 ⟨rfl, State.Warmed39.refl s, rfl⟩ trivial
  refine ⟨n, _, h1, h2, h3, hpost _ _ _ _ _ _ ⟨Cond.after_iff.mpr rfl, Cond.after_iff.mpr (eq_i res_at (Term.int_eval (1)) rfl)⟩ ⟨hq.1, hq.2.1, (hq.2.2.sift fun y hy => Or.inr (N y hy)).mono (by decide) (by decide)⟩⟩
theorem main_1_1 : Claimed_1_1 := own_comes fun _ _ _ _ _ _ h hF => ⟨h.1, hF⟩
theorem main_1_2 : Claimed_1_2 := own_comes fun _ _ _ _ _ _ h hF => ⟨h.2, hF⟩
end Jvm.Pilot.@@N@@
namespace Jvm.Pilot.@@N@@
open Jvm Jvm.ClassFile Sem Op Lib Jvm.Free Jvm.Stand Jvm.Pilot.@@N@@.Jvm.D
/-! MADE BY PROGRAM (witnessworld.py) out of the Statement's table words and the real class files: 11 classes; the members and pool entries that the words name. The judged class is class 1, her method 1. -/
namespace start1
open Jvm.ClassFile
def u (s : String) : CpInfo := .utf8 (stringToUtf16 s)
/-- a pool by its gaps: so many unusable entries, then the entry; so many at the end -/
def gap : Nat → List CpInfo → List CpInfo
  | 0, r => r
  | n + 1, r => .unusable :: gap n r
def poolList (es : List (Nat × CpInfo)) (last : Nat) : List CpInfo := es.foldr (fun e r => gap e.1 (e.2 :: r)) (gap last [])
def pool (es : List (Nat × CpInfo)) (last : Nat) : Array CpInfo := ⟨poolList es last⟩
def fileOf (pool : Array CpInfo) (this : Nat) (attrs : Array Attribute := #[]) (ms : Array MethodInfo := #[]) (fl : Nat := 33) (sup : Nat := 0) (ifs : Array Nat := #[]) (fds : Array FieldInfo := #[]) : ClassFile where
  minorVersion := 0
  majorVersion := 65
  constantPool := pool
  accessFlags := fl
  thisClass := this
  superClass := sup
  interfaces := ifs
  fields := fds
  methods := ms
  attributes := attrs
def plain (name : String) (sup : Option ClassId) : Class where
  name := name
  kind := .ordinary
  loader := none
  accessFlags := 33
  super := sup
  interfaces := #[]
  cf := none
  fields := #[]
  methods := #[]
  instanceTypes := #[]
  staticTypes := #[]
  resolved := #[]
  callSites := []
  init := .initialized
  statics := none
  mirror := none

def pool0 : Array CpInfo := pool [(5, u "<init>"), (0, u "()V"), (1, .class_ 10), (1, u "java/lang/Object")] 113

def k0c0 : Code := { maxStack := 0, maxLocals := 1, code := object_method_1_code, exceptionTable := #[], attributes := #[] }
def k0m0 : Method := { name := "<init>", desc := "()V", sig := { parameters := [], returnType := none }, accessFlags := 1, code := some k0c0 }
/-- java/lang/Object -/
def k0 : Class := { plain "java/lang/Object" none with
  accessFlags := 33
  interfaces := #[]
  cf := some (fileOf pool0 8 #[] #[{ accessFlags := 1, nameIndex := 5, descriptorIndex := 6, attributes := #[] }] 33 0 #[] #[])
  fields := #[]
  methods := #[k0m0]
  instanceTypes := #[]
  staticTypes := #[]
  resolved := Array.replicate 124 none
  statics := none }

def pool1 : Array CpInfo := pool [(2, .class_ 4), (1, u "java/lang/Object"), (0, u "<init>"), (0, u "()V"), (0, .long 255), (3, .long 9223372036854775807), (1, .methodref 14 15), (0, .class_ 16), (0, .nameAndType 17 18), (0, u "com/example/libcachet/libcachet/GhashFinishPinLaw"), (0, u "put"), (0, u "([BIJ)V"), (0, .class_ 20), (0, u "com/example/libcachet/libcachet/Ghash"), (0, .methodref 19 22), (0, .nameAndType 5 23), (0, u "([B)V"), (0, .methodref 19 25), (0, .nameAndType 26 27), (0, u "add"), (0, u "([BJ)V"), (0, .methodref 19 29), (0, .nameAndType 30 31), (0, u "finish"), (0, u "()[B"), (0, .methodref 14 33), (0, .nameAndType 34 35), (0, u "get"), (0, u "([BI)J"), (2, u "law"), (0, u "(JJJJJI)Z")] 5

def k1m0 : Method := { name := "<init>", desc := "()V", sig := { parameters := [], returnType := none }, accessFlags := 1, code := none }
def k1c1 : Code := { maxStack := 4, maxLocals := 21, code := code, exceptionTable := #[], attributes := #[] }
def k1m1 : Method := { name := "law", desc := "(JJJJJI)Z", sig := { parameters := [.long, .long, .long, .long, .long, .int], returnType := some .boolean }, accessFlags := 9, code := some k1c1 }
def k1c2 : Code := { maxStack := 5, maxLocals := 4, code := method_3_code, exceptionTable := #[], attributes := #[] }
def k1m2 : Method := { name := "put", desc := "([BIJ)V", sig := { parameters := [(.array .byte), .int, .long], returnType := none }, accessFlags := 10, code := some k1c2 }
def k1c3 : Code := { maxStack := 5, maxLocals := 2, code := method_4_code, exceptionTable := #[], attributes := #[] }
def k1m3 : Method := { name := "get", desc := "([BI)J", sig := { parameters := [(.array .byte), .int], returnType := some .long }, accessFlags := 10, code := some k1c3 }
/-- com/example/libcachet/libcachet/GhashFinishPinLaw -/
def k1 : Class := { plain "com/example/libcachet/libcachet/GhashFinishPinLaw" (some 0) with
  accessFlags := 49
  interfaces := #[]
  cf := some (fileOf pool1 14 #[] #[{ accessFlags := 1, nameIndex := 5, descriptorIndex := 6, attributes := #[] }, { accessFlags := 9, nameIndex := 38, descriptorIndex := 39, attributes := #[] }, { accessFlags := 10, nameIndex := 17, descriptorIndex := 18, attributes := #[] }, { accessFlags := 10, nameIndex := 34, descriptorIndex := 35, attributes := #[] }] 49 2 #[] #[])
  fields := #[]
  methods := #[k1m0, k1m1, k1m2, k1m3]
  instanceTypes := #[]
  staticTypes := #[]
  resolved := Array.replicate 45 none
  statics := none }

def pool2 : Array CpInfo := pool [(1, .methodref 2 3), (0, .class_ 4), (0, .nameAndType 5 6), (0, u "java/lang/Object"), (0, u "<init>"), (0, u "()V"), (0, .methodref 8 9), (0, .class_ 10), (0, .nameAndType 11 12), (0, u "com/example/libcachet/libcachet/Ghash"), (0, u "long8"), (0, u "([BI)J"), (0, .fieldref 8 14), (0, .nameAndType 15 16), (0, u "subkeyHigh"), (0, u "J"), (0, .fieldref 8 18), (0, .nameAndType 19 16), (0, u "subkeyLow"), (0, .long 128), (1, .methodref 8 23), (0, .nameAndType 24 25), (0, u "multiply"), (0, u "(JJJJ)[J"), (0, .fieldref 8 27), (0, .nameAndType 28 29), (0, u "ivLengthTerm"), (0, u "[J"), (0, .fieldref 8 31), (0, .nameAndType 32 33), (0, u "ended"), (0, u "Z"), (7, .fieldref 8 42), (0, .nameAndType 43 16), (0, u "termLength"), (0, .long 8), (1, .fieldref 8 47), (0, .nameAndType 48 29), (0, u "lengthTerm"), (0, .long 16), (1, .methodref 8 52), (0, .nameAndType 53 54), (0, u "power"), (0, u "(J)[J"), (0, .fieldref 8 56), (0, .nameAndType 53 29), (0, .fieldref 8 58), (0, .nameAndType 59 16), (0, u "sumHigh"), (0, .fieldref 8 61), (0, .nameAndType 62 16), (0, u "sumLow"), (0, .fieldref 8 64), (0, .nameAndType 65 16), (0, u "length"), (0, .methodref 8 67), (0, .nameAndType 68 69), (0, u "bytes"), (0, u "(JJ)[B"), (2, u "inverseSquare"), (6, .long 9223372036854775808), (1, .long 16212958658533785600), (1, u "BLOCK"), (0, u "I"), (2, u "R"), (0, u "IV_BITS"), (0, u "([B)V"), (2, u "add"), (0, u "([BJ)V"), (5, u "finish"), (0, u "()[B")] 4

def k2c0 : Code := { maxStack := 9, maxLocals := 2, code := prog_70_method_1_code, exceptionTable := #[], attributes := #[] }
def k2m0 : Method := { name := "<init>", desc := "([B)V", sig := { parameters := [(.array .byte)], returnType := none }, accessFlags := 0, code := some k2c0 }
def k2c1 : Code := { maxStack := 9, maxLocals := 5, code := prog_70_method_2_code, exceptionTable := #[], attributes := #[] }
def k2m1 : Method := { name := "add", desc := "([BJ)V", sig := { parameters := [(.array .byte), .long], returnType := none }, accessFlags := 0, code := some k2c1 }
def k2c2 : Code := { maxStack := 8, maxLocals := 2, code := prog_70_method_4_code, exceptionTable := #[], attributes := #[] }
def k2m2 : Method := { name := "finish", desc := "()[B", sig := { parameters := [], returnType := some (.array .byte) }, accessFlags := 0, code := some k2c2 }
def k2c3 : Code := { maxStack := 8, maxLocals := 7, code := prog_70_method_6_code, exceptionTable := #[], attributes := #[] }
def k2m3 : Method := { name := "power", desc := "(J)[J", sig := { parameters := [.long], returnType := some (.array .long) }, accessFlags := 2, code := some k2c3 }
def k2c4 : Code := { maxStack := 6, maxLocals := 24, code := prog_70_method_8_code, exceptionTable := #[], attributes := #[] }
def k2m4 : Method := { name := "multiply", desc := "(JJJJ)[J", sig := { parameters := [.long, .long, .long, .long], returnType := some (.array .long) }, accessFlags := 10, code := some k2c4 }
def k2c5 : Code := { maxStack := 5, maxLocals := 5, code := prog_70_method_9_code, exceptionTable := #[], attributes := #[] }
def k2m5 : Method := { name := "long8", desc := "([BI)J", sig := { parameters := [(.array .byte), .int], returnType := some .long }, accessFlags := 10, code := some k2c5 }
def k2c6 : Code := { maxStack := 7, maxLocals := 6, code := prog_70_method_10_code, exceptionTable := #[], attributes := #[] }
def k2m6 : Method := { name := "bytes", desc := "(JJ)[B", sig := { parameters := [.long, .long], returnType := some (.array .byte) }, accessFlags := 10, code := some k2c6 }
/-- com/example/libcachet/libcachet/Ghash -/
def k2 : Class := { plain "com/example/libcachet/libcachet/Ghash" (some 0) with
  accessFlags := 32
  interfaces := #[]
  cf := some (fileOf pool2 8 #[] #[{ accessFlags := 0, nameIndex := 5, descriptorIndex := 89, attributes := #[] }, { accessFlags := 0, nameIndex := 92, descriptorIndex := 93, attributes := #[] }, { accessFlags := 0, nameIndex := 99, descriptorIndex := 100, attributes := #[] }, { accessFlags := 2, nameIndex := 53, descriptorIndex := 54, attributes := #[] }, { accessFlags := 10, nameIndex := 24, descriptorIndex := 25, attributes := #[] }, { accessFlags := 10, nameIndex := 11, descriptorIndex := 12, attributes := #[] }, { accessFlags := 10, nameIndex := 68, descriptorIndex := 69, attributes := #[] }] 32 2 #[] #[{ accessFlags := 24, nameIndex := 83, descriptorIndex := 84, attributes := #[] }, { accessFlags := 26, nameIndex := 87, descriptorIndex := 16, attributes := #[] }, { accessFlags := 26, nameIndex := 88, descriptorIndex := 16, attributes := #[] }, { accessFlags := 18, nameIndex := 15, descriptorIndex := 16, attributes := #[] }, { accessFlags := 18, nameIndex := 19, descriptorIndex := 16, attributes := #[] }, { accessFlags := 18, nameIndex := 28, descriptorIndex := 29, attributes := #[] }, { accessFlags := 2, nameIndex := 59, descriptorIndex := 16, attributes := #[] }, { accessFlags := 2, nameIndex := 62, descriptorIndex := 16, attributes := #[] }, { accessFlags := 2, nameIndex := 65, descriptorIndex := 16, attributes := #[] }, { accessFlags := 2, nameIndex := 32, descriptorIndex := 33, attributes := #[] }, { accessFlags := 2, nameIndex := 43, descriptorIndex := 16, attributes := #[] }, { accessFlags := 2, nameIndex := 48, descriptorIndex := 29, attributes := #[] }, { accessFlags := 2, nameIndex := 53, descriptorIndex := 29, attributes := #[] }, { accessFlags := 2, nameIndex := 72, descriptorIndex := 29, attributes := #[] }])
  fields := #[{ name := "BLOCK", type := .int, accessFlags := 24, slot := 0, constantValue := 0 }, { name := "R", type := .long, accessFlags := 26, slot := 1, constantValue := 0 }, { name := "IV_BITS", type := .long, accessFlags := 26, slot := 2, constantValue := 0 }, { name := "subkeyHigh", type := .long, accessFlags := 18, slot := 0, constantValue := 0 }, { name := "subkeyLow", type := .long, accessFlags := 18, slot := 1, constantValue := 0 }, { name := "ivLengthTerm", type := (.array .long), accessFlags := 18, slot := 2, constantValue := 0 }, { name := "sumHigh", type := .long, accessFlags := 2, slot := 3, constantValue := 0 }, { name := "sumLow", type := .long, accessFlags := 2, slot := 4, constantValue := 0 }, { name := "length", type := .long, accessFlags := 2, slot := 5, constantValue := 0 }, { name := "ended", type := .boolean, accessFlags := 2, slot := 6, constantValue := 0 }, { name := "termLength", type := .long, accessFlags := 2, slot := 7, constantValue := 0 }, { name := "lengthTerm", type := (.array .long), accessFlags := 2, slot := 8, constantValue := 0 }, { name := "power", type := (.array .long), accessFlags := 2, slot := 9, constantValue := 0 }, { name := "inverseSquare", type := (.array .long), accessFlags := 2, slot := 10, constantValue := 0 }]
  methods := #[k2m0, k2m1, k2m2, k2m3, k2m4, k2m5, k2m6]
  instanceTypes := #[.long, .long, (.array .long), .long, .long, .long, .boolean, .long, (.array .long), (.array .long), (.array .long)]
  staticTypes := #[.int, .long, .long]
  resolved := Array.replicate 105 none
  statics := none }

def pool3 : Array CpInfo := pool [(1, u "java/lang/Cloneable"), (0, .class_ 1), (0, u "java/lang/Object"), (0, .class_ 3)] 3

/-- java/lang/Cloneable -/
def k3 : Class := { plain "java/lang/Cloneable" (some 0) with
  accessFlags := 1537
  interfaces := #[]
  cf := some (fileOf pool3 2 #[] #[] 1537 4 #[] #[])
  fields := #[]
  methods := #[]
  instanceTypes := #[]
  staticTypes := #[]
  resolved := Array.replicate 8 none
  statics := none }

def pool4 : Array CpInfo := pool [(1, u "java/io/Serializable"), (0, .class_ 1), (0, u "java/lang/Object"), (0, .class_ 3)] 3

/-- java/io/Serializable -/
def k4 : Class := { plain "java/io/Serializable" (some 0) with
  accessFlags := 1537
  interfaces := #[]
  cf := some (fileOf pool4 2 #[] #[] 1537 4 #[] #[])
  fields := #[]
  methods := #[]
  instanceTypes := #[]
  staticTypes := #[]
  resolved := Array.replicate 8 none
  statics := none }

/-- the primitive byte -/
def k5 : Class := { plain "byte" none with kind := .primitive 'B', accessFlags := 0x411 }
/-- [B -/
def k6 : Class := { plain "[B" (some 0) with kind := .array 5 .byte, interfaces := #[3, 4], accessFlags := 1041 }

/-- the primitive int -/
def k7 : Class := { plain "int" none with kind := .primitive 'I', accessFlags := 0x411 }
/-- [I -/
def k8 : Class := { plain "[I" (some 0) with kind := .array 7 .int, interfaces := #[3, 4], accessFlags := 1041 }

/-- the primitive long -/
def k9 : Class := { plain "long" none with kind := .primitive 'J', accessFlags := 0x411 }
/-- [J -/
def k10 : Class := { plain "[J" (some 0) with kind := .array 9 .long, interfaces := #[3, 4], accessFlags := 1041 }

def heap : Heap := #[]
def classes : Array Class := #[k0, k1, k2, k3, k4, k5, k6, k7, k8, k9, k10]
def interned : List (Array UInt16 × Addr) := []
def slotsUsed : Nat := 0
def theMethod : MethodId := ⟨1, 1⟩
def args0 : Array Value := #[.long 5, .long 6, .long 7, .long 8, .long 9, .int 10]
def aboutOver (below : List Frame) : State where
  vm := { classes := classes, interned := interned.toArray }
  heap := heap
  slotsUsed := slotsUsed
  threads := #[{ frames := .invoking theMethod args0 :: below }]
def below0 : List Frame := [.native { method := ⟨0, 0⟩, args := #[] }]
def about1 : State := aboutOver below0
def p0 : Program := .bare "" "" ""
def e0 : Env := launch0.env 0 0 0
theorem w_frames : about1.frames = Frame.invoking theMethod args0 :: below0 := rfl
set_option maxRecDepth 65536 in
theorem w_args : argsFit about1.vm theMethod args0 = true := by decide +kernel
set_option maxRecDepth 65536 in
theorem w_heap : heapFits about1 = true := by decide +kernel
set_option maxRecDepth 65536 in
theorem w_runnable : about1.curStatus? = some .runnable := by decide +kernel
set_option maxRecDepth 65536 in
theorem w_alone : about1.alone = true := by decide +kernel
set_option maxRecDepth 65536 in
theorem w_named : about1.methodNamed? x = some theMethod := by decide +kernel
set_option maxRecDepth 65536 in
theorem w_hears : about1.hears theMethod below0 = true := by decide +kernel
set_option maxRecDepth 65536 in
theorem w_ripe : about1.ripe theMethod args0 below0 = true := by decide +kernel
theorem w_running : about1.status = .running := rfl
set_option maxRecDepth 65536 in
theorem w_room : about1.hasRoom e0.platform room_1 = true :=
  launch0.hasRoom_least _ room_1 (by decide +kernel) (by decide +kernel) (by decide +kernel) (by decide +kernel) (by decide +kernel) (by decide +kernel)
theorem allAtoms_all (ts : List Jvm.Cond) (a : Array Jvm.Value) (st : Jvm.State) : (allAtoms ts).before a st = ts.all (fun c => c.before a st) := by
  induction ts with
  | nil => rfl
  | cons c t ih =>
    show (Jvm.Cond.and c (allAtoms t)).before a st = _
    rw [Jvm.Cond.before_and, ih, List.all_cons]
def words1 : List Jvm.Cond := Jvm.Cond.code x code maxLocals ret :: tables_1
/-- a 'code' word, met by the world's own term for the bytes: nothing is compared byte by byte -/
theorem code_word {y : MethodName} {bytes : ByteArray} {mx : Nat} {rt : Option FieldType} {a : Array Value} {s : State} {m : MethodId} {meth : Method} {c : Code} (h1 : s.methodNamed? y = some m) (h2 : s.vm.method? m = some meth) (h3 : meth.code = some c) (h4 : c.code = bytes)
    (h5 : (c.maxLocals == mx && c.exceptionTable.isEmpty && decide (c.maxStack ≤ mostOperands) && decide (meth.sig.returnType = rt) && !meth.locks && decide (parseMethodDescriptor y.desc = some meth.sig)) = true) : (Jvm.Cond.code y bytes mx rt).before a s = true := by
  simp only [Bool.and_eq_true, beq_iff_eq, Bool.not_eq_true', decide_eq_true_eq] at h5
  obtain ⟨⟨⟨⟨⟨g1, g2⟩, g3⟩, g4⟩, g5⟩, g6⟩ := h5
  simp [Cond.before, Cond.holds, Cond.value, h1, h2, h3, h4, g1, g2, g3, g4, g5, g6]
def isCode : Jvm.Cond → Bool
  | .code _ _ _ _ => true
  | _ => false
theorem all_split {L : List Jvm.Cond} {P : Jvm.Cond → Bool} (h1 : L.all (fun c => isCode c || P c) = true) (h2 : ∀ c ∈ L.filter isCode, P c = true) : L.all P = true := by
  refine List.all_eq_true.mpr fun c hc => ?_
  have h := List.all_eq_true.mp h1 c hc
  rcases Bool.eq_false_or_eq_true (isCode c) with hi | hi
  · exact h2 c (List.mem_filter.mpr ⟨hc, hi⟩)
  · simpa [hi] using h
set_option maxRecDepth 65536 in
theorem w_c0 : (Jvm.Cond.code x code maxLocals ret).before args0 about1 = true := code_word (m := ⟨1, 1⟩) (meth := k1m1) (c := k1c1) (by decide +kernel) rfl rfl rfl (by decide +kernel)
set_option maxRecDepth 65536 in
theorem w_c1 : (Jvm.Cond.code ({ cls := "com/example/libcachet/libcachet/GhashFinishPinLaw", name := "put", desc := "([BIJ)V" } : Jvm.MethodName) method_3_code (4 : Nat) (Option.none : Option Jvm.ClassFile.FieldType)).before args0 about1 = true := code_word (m := ⟨1, 2⟩) (meth := k1m2) (c := k1c2) (by decide +kernel) rfl rfl rfl (by decide +kernel)
set_option maxRecDepth 65536 in
theorem w_c2 : (Jvm.Cond.code ({ cls := "com/example/libcachet/libcachet/Ghash", name := "<init>", desc := "([B)V" } : Jvm.MethodName) prog_70_method_1_code (2 : Nat) (Option.none : Option Jvm.ClassFile.FieldType)).before args0 about1 = true := code_word (m := ⟨2, 0⟩) (meth := k2m0) (c := k2c0) (by decide +kernel) rfl rfl rfl (by decide +kernel)
set_option maxRecDepth 65536 in
theorem w_c3 : (Jvm.Cond.code ({ cls := "java/lang/Object", name := "<init>", desc := "()V" } : Jvm.MethodName) object_method_1_code (1 : Nat) (Option.none : Option Jvm.ClassFile.FieldType)).before args0 about1 = true := code_word (m := ⟨0, 0⟩) (meth := k0m0) (c := k0c0) (by decide +kernel) rfl rfl rfl (by decide +kernel)
set_option maxRecDepth 65536 in
theorem w_c4 : (Jvm.Cond.code ({ cls := "com/example/libcachet/libcachet/Ghash", name := "long8", desc := "([BI)J" } : Jvm.MethodName) prog_70_method_9_code (5 : Nat) (Option.some Jvm.ClassFile.FieldType.long)).before args0 about1 = true := code_word (m := ⟨2, 5⟩) (meth := k2m5) (c := k2c5) (by decide +kernel) rfl rfl rfl (by decide +kernel)
set_option maxRecDepth 65536 in
theorem w_c5 : (Jvm.Cond.code ({ cls := "com/example/libcachet/libcachet/Ghash", name := "multiply", desc := "(JJJJ)[J" } : Jvm.MethodName) prog_70_method_8_code (24 : Nat) (Option.some (Jvm.ClassFile.FieldType.array Jvm.ClassFile.FieldType.long))).before args0 about1 = true := code_word (m := ⟨2, 4⟩) (meth := k2m4) (c := k2c4) (by decide +kernel) rfl rfl rfl (by decide +kernel)
set_option maxRecDepth 65536 in
theorem w_c6 : (Jvm.Cond.code ({ cls := "com/example/libcachet/libcachet/Ghash", name := "add", desc := "([BJ)V" } : Jvm.MethodName) prog_70_method_2_code (5 : Nat) (Option.none : Option Jvm.ClassFile.FieldType)).before args0 about1 = true := code_word (m := ⟨2, 1⟩) (meth := k2m1) (c := k2c1) (by decide +kernel) rfl rfl rfl (by decide +kernel)
set_option maxRecDepth 65536 in
theorem w_c7 : (Jvm.Cond.code ({ cls := "com/example/libcachet/libcachet/Ghash", name := "finish", desc := "()[B" } : Jvm.MethodName) prog_70_method_4_code (2 : Nat) (Option.some (Jvm.ClassFile.FieldType.array Jvm.ClassFile.FieldType.byte))).before args0 about1 = true := code_word (m := ⟨2, 2⟩) (meth := k2m2) (c := k2c2) (by decide +kernel) rfl rfl rfl (by decide +kernel)
set_option maxRecDepth 65536 in
theorem w_c8 : (Jvm.Cond.code ({ cls := "com/example/libcachet/libcachet/Ghash", name := "bytes", desc := "(JJ)[B" } : Jvm.MethodName) prog_70_method_10_code (6 : Nat) (Option.some (Jvm.ClassFile.FieldType.array Jvm.ClassFile.FieldType.byte))).before args0 about1 = true := code_word (m := ⟨2, 6⟩) (meth := k2m6) (c := k2c6) (by decide +kernel) rfl rfl rfl (by decide +kernel)
set_option maxRecDepth 65536 in
theorem w_c9 : (Jvm.Cond.code ({ cls := "com/example/libcachet/libcachet/GhashFinishPinLaw", name := "get", desc := "([BI)J" } : Jvm.MethodName) method_4_code (2 : Nat) (Option.some Jvm.ClassFile.FieldType.long)).before args0 about1 = true := code_word (m := ⟨1, 3⟩) (meth := k1m3) (c := k1c3) (by decide +kernel) rfl rfl rfl (by decide +kernel)
set_option maxRecDepth 65536 in
theorem w_c10 : (Jvm.Cond.code ({ cls := "com/example/libcachet/libcachet/Ghash", name := "power", desc := "(J)[J" } : Jvm.MethodName) prog_70_method_6_code (7 : Nat) (Option.some (Jvm.ClassFile.FieldType.array Jvm.ClassFile.FieldType.long))).before args0 about1 = true := code_word (m := ⟨2, 3⟩) (meth := k2m3) (c := k2c3) (by decide +kernel) rfl rfl rfl (by decide +kernel)
def codes1 : List Jvm.Cond := [Jvm.Cond.code x code maxLocals ret, Jvm.Cond.code ({ cls := "com/example/libcachet/libcachet/GhashFinishPinLaw", name := "put", desc := "([BIJ)V" } : Jvm.MethodName) method_3_code (4 : Nat) (Option.none : Option Jvm.ClassFile.FieldType), Jvm.Cond.code ({ cls := "com/example/libcachet/libcachet/Ghash", name := "<init>", desc := "([B)V" } : Jvm.MethodName) prog_70_method_1_code (2 : Nat) (Option.none : Option Jvm.ClassFile.FieldType), Jvm.Cond.code ({ cls := "java/lang/Object", name := "<init>", desc := "()V" } : Jvm.MethodName) object_method_1_code (1 : Nat) (Option.none : Option Jvm.ClassFile.FieldType), Jvm.Cond.code ({ cls := "com/example/libcachet/libcachet/Ghash", name := "long8", desc := "([BI)J" } : Jvm.MethodName) prog_70_method_9_code (5 : Nat) (Option.some Jvm.ClassFile.FieldType.long), Jvm.Cond.code ({ cls := "com/example/libcachet/libcachet/Ghash", name := "multiply", desc := "(JJJJ)[J" } : Jvm.MethodName) prog_70_method_8_code (24 : Nat) (Option.some (Jvm.ClassFile.FieldType.array Jvm.ClassFile.FieldType.long)), Jvm.Cond.code ({ cls := "com/example/libcachet/libcachet/Ghash", name := "add", desc := "([BJ)V" } : Jvm.MethodName) prog_70_method_2_code (5 : Nat) (Option.none : Option Jvm.ClassFile.FieldType), Jvm.Cond.code ({ cls := "com/example/libcachet/libcachet/Ghash", name := "finish", desc := "()[B" } : Jvm.MethodName) prog_70_method_4_code (2 : Nat) (Option.some (Jvm.ClassFile.FieldType.array Jvm.ClassFile.FieldType.byte)), Jvm.Cond.code ({ cls := "com/example/libcachet/libcachet/Ghash", name := "bytes", desc := "(JJ)[B" } : Jvm.MethodName) prog_70_method_10_code (6 : Nat) (Option.some (Jvm.ClassFile.FieldType.array Jvm.ClassFile.FieldType.byte)), Jvm.Cond.code ({ cls := "com/example/libcachet/libcachet/GhashFinishPinLaw", name := "get", desc := "([BI)J" } : Jvm.MethodName) method_4_code (2 : Nat) (Option.some Jvm.ClassFile.FieldType.long), Jvm.Cond.code ({ cls := "com/example/libcachet/libcachet/Ghash", name := "power", desc := "(J)[J" } : Jvm.MethodName) prog_70_method_6_code (7 : Nat) (Option.some (Jvm.ClassFile.FieldType.array Jvm.ClassFile.FieldType.long))]
set_option maxRecDepth 65536 in
theorem codes_eq : words1.filter isCode = codes1 := rfl
theorem w_codes : ∀ c ∈ words1.filter isCode, c.before args0 about1 = true := by
  rw [codes_eq]
  intro c hc
  simp only [codes1, List.mem_cons, List.not_mem_nil, or_false] at hc
  rcases hc with rfl | rfl | rfl | rfl | rfl | rfl | rfl | rfl | rfl | rfl | rfl
  · exact w_c0
  · exact w_c1
  · exact w_c2
  · exact w_c3
  · exact w_c4
  · exact w_c5
  · exact w_c6
  · exact w_c7
  · exact w_c8
  · exact w_c9
  · exact w_c10
set_option maxRecDepth 65536 in
theorem w_t1 : (words1.take 24).all (fun c => isCode c || c.before args0 about1) = true := by decide +kernel
set_option maxRecDepth 65536 in
theorem w_t2 : ((words1.drop 24).take 24).all (fun c => isCode c || c.before args0 about1) = true := by decide +kernel
set_option maxRecDepth 65536 in
theorem w_t3 : ((words1.drop 24).drop 24).all (fun c => isCode c || c.before args0 about1) = true := by decide +kernel
theorem w_tables : (allAtoms (Jvm.Cond.code x code maxLocals ret :: tables_1)).before args0 about1 = true := by
  rw [allAtoms_all]
  show words1.all (fun c => c.before args0 about1) = true
  refine all_split ?_ w_codes
  rw [← List.take_append_drop 24 words1, List.all_append, w_t1, ← List.take_append_drop 24 (words1.drop 24), List.all_append, w_t2, w_t3]
  rfl
set_option maxRecDepth 65536 in
theorem w_case : (Jvm.Cond.and given_1 narrow_1).before args0 about1 = true := by decide +kernel
theorem w_applies : (headSpec (Jvm.Cond.code x code maxLocals ret :: tables_1) room_1).applies x e0.platform about1 = true :=
  (Spec.applies_iff w_frames).mpr ⟨w_running, w_runnable, w_alone, w_named, w_hears, w_ripe, w_room, w_tables⟩
theorem atStart : AtStart classFile x code maxLocals ret World_1 tables_1 room_1 Calls_1 rest_1 Pre_1 launch0 p0 e0 about1 theMethod args0 below0 :=
  ⟨lists_1, trivial, launch0.admits_env _ _ _, launch0.least_env, fairChoices_fair.cas, fairChoices_fair.clock, w_frames, w_args, w_heap, w_applies, trivial, trivial, w_case⟩
end start1
theorem witness_1 : WitnessClaimed_1 := ⟨start1.p0, start1.e0, start1.about1, start1.theMethod, start1.args0, start1.below0, start1.atStart⟩
end Jvm.Pilot.@@N@@
