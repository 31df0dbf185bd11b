import JvmDerived
import JvmDerived.Pilot.@@N@@Statement
import JvmDerived.Pilot.@@N@@Code
set_option linter.unusedVariables false
set_option linter.unusedSimpArgs false
namespace Jvm.Pilot.@@N@@
open Jvm Jvm.ClassFile Sem Op Lib Jvm.Free Jvm.Stand Jvm.LawKit Jvm.RoadKit Bundle Jvm.Pilot.@@N@@.Jvm.D
section OwnLayer
variable {p : Program} {l : Launch} {e : Env} {R : Room} {s : State} {m : MethodId} {args : Array Value} {below : List Frame} {meth : Method} {c : Code} {T : State} {cells slots : Nat} {Z : State} {a0 : Array Value} {h h' : Heap} {n0 : Nat} {A : State → Outcome → Prop} {bs : ByteArray} {maxL : Nat} {own : String} {pc pc' : Nat} {L L' : Array Slot} {st : List Value}
/-- the run that stands over T with the frame f comes to an end that A allows -/
def own_Wins (p : Program) (e : Env) (below : List Frame) (A : State → Outcome → Prop) (T : State) (f : JFrame) : Prop := ∃ U o, Steps p.tables e below (T.setTop f) U ∧ A U o
theorem own_by {T' : State} {f f' : JFrame} (q : ∀ target, Steps p.tables e below (T'.setTop f') target → Steps p.tables e below (T.setTop f) target) (k : own_Wins p e below A T' f') : own_Wins p e below A T f := by
  obtain ⟨U, o, h1, h2⟩ := k
  exact ⟨U, o, q _ h1, h2⟩
/-- where the walk stands: the kit's Stand, the heap, what was written is new, and what the walk knows of the body -/
def own_St (p : Program) (l : Launch) (e : Env) (R : Room) (s : State) (m : MethodId) (args : Array Value) (below : List Frame) (meth : Method) (c : Code) (Z : State) (n0 : Nat) (bs : ByteArray) (maxL : Nat) (own : String) (T : State) (h : Heap) (cells slots : Nat) : Prop :=
  ∃ locs, Stand p l e R s m args below meth c T locs cells slots ∧ T.heap = h ∧ Fr n0 locs ∧ n0 ≤ h.size ∧ p.tables.exec = Jvm.exec ∧ c.code = bs ∧ c.maxLocals = maxL ∧ s.vm.findClass own = some m.cls ∧ Z.Warmed39 s.vm ∧ meth.locks = false
theorem own_St.here (X : own_St p l e R s m args below meth c Z n0 bs maxL own T h cells slots) : At T m c below := by obtain ⟨_, Y, -⟩ := X; exact Y.here
theorem own_St.ex (X : own_St p l e R s m args below meth c Z n0 bs maxL own T h cells slots) : p.tables.exec = Jvm.exec := by obtain ⟨_, -, -, -, -, q, -⟩ := X; exact q
theorem own_St.cd (X : own_St p l e R s m args below meth c Z n0 bs maxL own T h cells slots) : c.code = bs := by obtain ⟨_, -, -, -, -, -, q, -⟩ := X; exact q
theorem own_St.ml (X : own_St p l e R s m args below meth c Z n0 bs maxL own T h cells slots) : c.maxLocals = maxL := by obtain ⟨_, -, -, -, -, -, -, q, -⟩ := X; exact q
theorem own_St.sz (X : own_St p l e R s m args below meth c Z n0 bs maxL own T h cells slots) : n0 ≤ h.size := by obtain ⟨_, -, -, -, q, -⟩ := X; exact q
theorem own_St.wz (X : own_St p l e R s m args below meth c Z n0 bs maxL own T h cells slots) : Z.Warmed39 s.vm := by obtain ⟨_, -, -, -, -, -, -, -, -, q, -⟩ := X; exact q
theorem own_St.more (X : own_St p l e R s m args below meth c Z n0 bs maxL own T h cells slots) {cells' slots' : Nat} (hc : cells ≤ cells') (hs : slots ≤ slots') : own_St p l e R s m args below meth c Z n0 bs maxL own T h cells' slots' := by
  obtain ⟨locs, Y, r⟩ := X
  exact ⟨locs, Y.more hc hs, r⟩
/-- an instruction, with the pc behind it -/
def own_ix (bs : ByteArray) (pc : Nat) (i : Instr) (n pc' : Nat) : Prop := decode bs pc = .ok (i, n) ∧ pc + n = pc'
def own_ik (bs : ByteArray) (pc : Nat) (v : Int32) (pc' : Nat) : Prop := ∃ i : Int, (decode bs pc = .ok (.iconst i, 1) ∧ Int32.ofInt i = v ∧ pc + 1 = pc') ∨ (decode bs pc = .ok (.bipush i, 2) ∧ (Int8.ofInt i).toInt32 = v ∧ pc + 2 = pc') ∨ (decode bs pc = .ok (.sipush i, 3) ∧ (Int16.ofInt i).toInt32 = v ∧ pc + 3 = pc')
def own_lk (bs : ByteArray) (pc : Nat) (v : Int64) (pc' : Nat) : Prop := ∃ k : Fin 2, decode bs pc = .ok (.lconst k, 1) ∧ Int64.ofNat k = v ∧ pc + 1 = pc'
def own_ii (bs : ByteArray) (pc : Nat) (k : Nat) (w : Int32) (pc' : Nat) : Prop := ∃ cst : Int, decode bs pc = .ok (.iinc k cst, 3) ∧ Int32.ofInt cst = w ∧ pc + 3 = pc'
def own_gt (bs : ByteArray) (pc tgt : Nat) : Prop := ∃ o : Int, decode bs pc = .ok (.goto o, 3) ∧ 0 ≤ (pc : Int) + o ∧ ((pc : Int) + o).toNat = tgt
def own_ifc (bs : ByteArray) (pc : Nat) (cd : ClassFile.Cond) (pc' tgt : Nat) : Prop := ∃ o : Int, decode bs pc = .ok (.ifCond cd o, 3) ∧ pc + 3 = pc' ∧ 0 ≤ (pc : Int) + o ∧ ((pc : Int) + o).toNat = tgt
def own_icm (bs : ByteArray) (pc : Nat) (cd : ClassFile.Cond) (pc' tgt : Nat) : Prop := ∃ o : Int, decode bs pc = .ok (.if_icmp cd o, 3) ∧ pc + 3 = pc' ∧ 0 ≤ (pc : Int) + o ∧ ((pc : Int) + o).toNat = tgt
def own_inl (bs : ByteArray) (pc : Nat) (pc' tgt : Nat) : Prop := ∃ o : Int, decode bs pc = .ok (.ifnull o, 3) ∧ pc + 3 = pc' ∧ 0 ≤ (pc : Int) + o ∧ ((pc : Int) + o).toNat = tgt
def own_inn (bs : ByteArray) (pc : Nat) (pc' tgt : Nat) : Prop := ∃ o : Int, decode bs pc = .ok (.ifnonnull o, 3) ∧ pc + 3 = pc' ∧ 0 ≤ (pc : Int) + o ∧ ((pc : Int) + o).toNat = tgt
def own_il (bs : ByteArray) (pc k pc' : Nat) : Prop := (∃ q : Fin 4, decode bs pc = .ok (.iload_n q, 1) ∧ q.val = k ∧ pc + 1 = pc') ∨ (decode bs pc = .ok (.iload k, 2) ∧ pc + 2 = pc')
def own_ll (bs : ByteArray) (pc k pc' : Nat) : Prop := (∃ q : Fin 4, decode bs pc = .ok (.lload_n q, 1) ∧ q.val = k ∧ pc + 1 = pc') ∨ (decode bs pc = .ok (.lload k, 2) ∧ pc + 2 = pc')
def own_al (bs : ByteArray) (pc k pc' : Nat) : Prop := (∃ q : Fin 4, decode bs pc = .ok (.aload_n q, 1) ∧ q.val = k ∧ pc + 1 = pc') ∨ (decode bs pc = .ok (.aload k, 2) ∧ pc + 2 = pc')
def own_si (bs : ByteArray) (pc k pc' : Nat) : Prop := (∃ q : Fin 4, decode bs pc = .ok (.istore_n q, 1) ∧ q.val = k ∧ pc + 1 = pc') ∨ (decode bs pc = .ok (.istore k, 2) ∧ pc + 2 = pc')
def own_sl (bs : ByteArray) (pc k pc' : Nat) : Prop := (∃ q : Fin 4, decode bs pc = .ok (.lstore_n q, 1) ∧ q.val = k ∧ pc + 1 = pc') ∨ (decode bs pc = .ok (.lstore k, 2) ∧ pc + 2 = pc')
def own_sa (bs : ByteArray) (pc k pc' : Nat) : Prop := (∃ q : Fin 4, decode bs pc = .ok (.astore_n q, 1) ∧ q.val = k ∧ pc + 1 = pc') ∨ (decode bs pc = .ok (.astore k, 2) ∧ pc + 2 = pc')
def own_Lshl (x : Int64) (q : Int32) : Int64 := x <<< (q &&& 0x3f).toInt64
def own_Lshr (x : Int64) (q : Int32) : Int64 := x >>> (q &&& 0x3f).toInt64
def own_Lushr (x : Int64) (q : Int32) : Int64 := (x.toUInt64 >>> (q &&& 0x3f).toInt64.toUInt64).toInt64
def own_Ishl (x q : Int32) : Int32 := x <<< (q &&& 31)
def own_Ishr (x q : Int32) : Int32 := x >>> (q &&& 31)
def own_Iushr (x q : Int32) : Int32 := (x.toUInt32 >>> (q &&& 31).toUInt32).toInt32
theorem own_iadd (X : own_St p l e R s m args below meth c Z n0 bs maxL own T h cells slots) {x y : Int32} (d : own_ix bs pc .iadd 1 pc')  (k : own_Wins p e below A T (mkF m pc' L (.int (x + y) :: st))) : own_Wins p e below A T (mkF m pc L (.int y :: .int x :: st)) := by
  obtain ⟨d, rfl⟩ := d
  exact own_by (fun _ q => XS.iadd X.here X.ex rfl (hb X.cd d) rfl q) k
theorem own_isub (X : own_St p l e R s m args below meth c Z n0 bs maxL own T h cells slots) {x y : Int32} (d : own_ix bs pc .isub 1 pc')  (k : own_Wins p e below A T (mkF m pc' L (.int (x - y) :: st))) : own_Wins p e below A T (mkF m pc L (.int y :: .int x :: st)) := by
  obtain ⟨d, rfl⟩ := d
  exact own_by (fun _ q => XS.isub X.here X.ex rfl (hb X.cd d) rfl q) k
theorem own_imul (X : own_St p l e R s m args below meth c Z n0 bs maxL own T h cells slots) {x y : Int32} (d : own_ix bs pc .imul 1 pc')  (k : own_Wins p e below A T (mkF m pc' L (.int (x * y) :: st))) : own_Wins p e below A T (mkF m pc L (.int y :: .int x :: st)) := by
  obtain ⟨d, rfl⟩ := d
  exact own_by (fun _ q => XS.imul X.here X.ex rfl (hb X.cd d) rfl q) k
theorem own_iand (X : own_St p l e R s m args below meth c Z n0 bs maxL own T h cells slots) {x y : Int32} (d : own_ix bs pc .iand 1 pc')  (k : own_Wins p e below A T (mkF m pc' L (.int (x &&& y) :: st))) : own_Wins p e below A T (mkF m pc L (.int y :: .int x :: st)) := by
  obtain ⟨d, rfl⟩ := d
  exact own_by (fun _ q => XS.iand X.here X.ex rfl (hb X.cd d) rfl q) k
theorem own_ior (X : own_St p l e R s m args below meth c Z n0 bs maxL own T h cells slots) {x y : Int32} (d : own_ix bs pc .ior 1 pc')  (k : own_Wins p e below A T (mkF m pc' L (.int (x ||| y) :: st))) : own_Wins p e below A T (mkF m pc L (.int y :: .int x :: st)) := by
  obtain ⟨d, rfl⟩ := d
  exact own_by (fun _ q => XS.ior X.here X.ex rfl (hb X.cd d) rfl q) k
theorem own_ixor (X : own_St p l e R s m args below meth c Z n0 bs maxL own T h cells slots) {x y : Int32} (d : own_ix bs pc .ixor 1 pc')  (k : own_Wins p e below A T (mkF m pc' L (.int (x ^^^ y) :: st))) : own_Wins p e below A T (mkF m pc L (.int y :: .int x :: st)) := by
  obtain ⟨d, rfl⟩ := d
  exact own_by (fun _ q => XS.ixor X.here X.ex rfl (hb X.cd d) rfl q) k
theorem own_ladd (X : own_St p l e R s m args below meth c Z n0 bs maxL own T h cells slots) {x y : Int64} (d : own_ix bs pc .ladd 1 pc')  (k : own_Wins p e below A T (mkF m pc' L (.long (x + y) :: st))) : own_Wins p e below A T (mkF m pc L (.long y :: .long x :: st)) := by
  obtain ⟨d, rfl⟩ := d
  exact own_by (fun _ q => XS.ladd X.here X.ex rfl (hb X.cd d) rfl q) k
theorem own_lsub (X : own_St p l e R s m args below meth c Z n0 bs maxL own T h cells slots) {x y : Int64} (d : own_ix bs pc .lsub 1 pc')  (k : own_Wins p e below A T (mkF m pc' L (.long (x - y) :: st))) : own_Wins p e below A T (mkF m pc L (.long y :: .long x :: st)) := by
  obtain ⟨d, rfl⟩ := d
  exact own_by (fun _ q => XS.lsub X.here X.ex rfl (hb X.cd d) rfl q) k
theorem own_lmul (X : own_St p l e R s m args below meth c Z n0 bs maxL own T h cells slots) {x y : Int64} (d : own_ix bs pc .lmul 1 pc')  (k : own_Wins p e below A T (mkF m pc' L (.long (x * y) :: st))) : own_Wins p e below A T (mkF m pc L (.long y :: .long x :: st)) := by
  obtain ⟨d, rfl⟩ := d
  exact own_by (fun _ q => XS.lmul X.here X.ex rfl (hb X.cd d) rfl q) k
theorem own_land (X : own_St p l e R s m args below meth c Z n0 bs maxL own T h cells slots) {x y : Int64} (d : own_ix bs pc .land 1 pc')  (k : own_Wins p e below A T (mkF m pc' L (.long (x &&& y) :: st))) : own_Wins p e below A T (mkF m pc L (.long y :: .long x :: st)) := by
  obtain ⟨d, rfl⟩ := d
  exact own_by (fun _ q => XS.land X.here X.ex rfl (hb X.cd d) rfl q) k
theorem own_lor (X : own_St p l e R s m args below meth c Z n0 bs maxL own T h cells slots) {x y : Int64} (d : own_ix bs pc .lor 1 pc')  (k : own_Wins p e below A T (mkF m pc' L (.long (x ||| y) :: st))) : own_Wins p e below A T (mkF m pc L (.long y :: .long x :: st)) := by
  obtain ⟨d, rfl⟩ := d
  exact own_by (fun _ q => XS.lor X.here X.ex rfl (hb X.cd d) rfl q) k
theorem own_lxor (X : own_St p l e R s m args below meth c Z n0 bs maxL own T h cells slots) {x y : Int64} (d : own_ix bs pc .lxor 1 pc')  (k : own_Wins p e below A T (mkF m pc' L (.long (x ^^^ y) :: st))) : own_Wins p e below A T (mkF m pc L (.long y :: .long x :: st)) := by
  obtain ⟨d, rfl⟩ := d
  exact own_by (fun _ q => XS.lxor X.here X.ex rfl (hb X.cd d) rfl q) k
theorem own_ishl (X : own_St p l e R s m args below meth c Z n0 bs maxL own T h cells slots) {x y : Int32} (d : own_ix bs pc .ishl 1 pc')  (k : own_Wins p e below A T (mkF m pc' L (.int (own_Ishl x y) :: st))) : own_Wins p e below A T (mkF m pc L (.int y :: .int x :: st)) := by
  obtain ⟨d, rfl⟩ := d
  exact own_by (fun _ q => XS.ishl X.here X.ex rfl (hb X.cd d) rfl q) k
theorem own_ishr (X : own_St p l e R s m args below meth c Z n0 bs maxL own T h cells slots) {x y : Int32} (d : own_ix bs pc .ishr 1 pc')  (k : own_Wins p e below A T (mkF m pc' L (.int (own_Ishr x y) :: st))) : own_Wins p e below A T (mkF m pc L (.int y :: .int x :: st)) := by
  obtain ⟨d, rfl⟩ := d
  exact own_by (fun _ q => XS.ishr X.here X.ex rfl (hb X.cd d) rfl q) k
theorem own_iushr (X : own_St p l e R s m args below meth c Z n0 bs maxL own T h cells slots) {x y : Int32} (d : own_ix bs pc .iushr 1 pc')  (k : own_Wins p e below A T (mkF m pc' L (.int (own_Iushr x y) :: st))) : own_Wins p e below A T (mkF m pc L (.int y :: .int x :: st)) := by
  obtain ⟨d, rfl⟩ := d
  exact own_by (fun _ q => XS.iushr X.here X.ex rfl (hb X.cd d) rfl q) k
theorem own_lshl (X : own_St p l e R s m args below meth c Z n0 bs maxL own T h cells slots) {x : Int64} {y : Int32} (d : own_ix bs pc .lshl 1 pc')  (k : own_Wins p e below A T (mkF m pc' L (.long (own_Lshl x y) :: st))) : own_Wins p e below A T (mkF m pc L (.int y :: .long x :: st)) := by
  obtain ⟨d, rfl⟩ := d
  exact own_by (fun _ q => XS.lshl X.here X.ex rfl (hb X.cd d) rfl q) k
theorem own_lshr (X : own_St p l e R s m args below meth c Z n0 bs maxL own T h cells slots) {x : Int64} {y : Int32} (d : own_ix bs pc .lshr 1 pc')  (k : own_Wins p e below A T (mkF m pc' L (.long (own_Lshr x y) :: st))) : own_Wins p e below A T (mkF m pc L (.int y :: .long x :: st)) := by
  obtain ⟨d, rfl⟩ := d
  exact own_by (fun _ q => XS.lshr X.here X.ex rfl (hb X.cd d) rfl q) k
theorem own_lushr (X : own_St p l e R s m args below meth c Z n0 bs maxL own T h cells slots) {x : Int64} {y : Int32} (d : own_ix bs pc .lushr 1 pc')  (k : own_Wins p e below A T (mkF m pc' L (.long (own_Lushr x y) :: st))) : own_Wins p e below A T (mkF m pc L (.int y :: .long x :: st)) := by
  obtain ⟨d, rfl⟩ := d
  exact own_by (fun _ q => XS.lushr X.here X.ex rfl (hb X.cd d) rfl q) k
theorem own_idiv (X : own_St p l e R s m args below meth c Z n0 bs maxL own T h cells slots) {x y : Int32} (d : own_ix bs pc .idiv 1 pc') (hy : y ≠ 0) (k : own_Wins p e below A T (mkF m pc' L (.int (x / y) :: st))) : own_Wins p e below A T (mkF m pc L (.int y :: .int x :: st)) := by
  obtain ⟨d, rfl⟩ := d
  exact own_by (fun _ q => XS.idiv X.here X.ex rfl (hb X.cd d) rfl hy q) k
theorem own_ldiv (X : own_St p l e R s m args below meth c Z n0 bs maxL own T h cells slots) {x y : Int64} (d : own_ix bs pc .ldiv 1 pc') (hy : y ≠ 0) (k : own_Wins p e below A T (mkF m pc' L (.long (x / y) :: st))) : own_Wins p e below A T (mkF m pc L (.long y :: .long x :: st)) := by
  obtain ⟨d, rfl⟩ := d
  exact own_by (fun _ q => XS.ldiv X.here X.ex rfl (hb X.cd d) rfl hy q) k
theorem own_irem (X : own_St p l e R s m args below meth c Z n0 bs maxL own T h cells slots) {x y : Int32} (d : own_ix bs pc .irem 1 pc') (hy : y ≠ 0) (k : own_Wins p e below A T (mkF m pc' L (.int (x % y) :: st))) : own_Wins p e below A T (mkF m pc L (.int y :: .int x :: st)) := by
  obtain ⟨d, rfl⟩ := d
  have e1 : x - x / y * y = x % y := irem_eq_mod x y
  exact own_by (fun _ q => XS.irem X.here X.ex rfl (hb X.cd d) rfl hy (by rw [e1]; exact q)) k
theorem own_lrem (X : own_St p l e R s m args below meth c Z n0 bs maxL own T h cells slots) {x y : Int64} (d : own_ix bs pc .lrem 1 pc') (hy : y ≠ 0) (k : own_Wins p e below A T (mkF m pc' L (.long (x % y) :: st))) : own_Wins p e below A T (mkF m pc L (.long y :: .long x :: st)) := by
  obtain ⟨d, rfl⟩ := d
  have e1 : x - x / y * y = x % y := lrem_mod x y
  exact own_by (fun _ q => XS.lrem X.here X.ex rfl (hb X.cd d) rfl hy (by rw [e1]; exact q)) k
theorem own_ineg (X : own_St p l e R s m args below meth c Z n0 bs maxL own T h cells slots) {x : Int32} (d : own_ix bs pc .ineg 1 pc')  (k : own_Wins p e below A T (mkF m pc' L (.int (-x) :: st))) : own_Wins p e below A T (mkF m pc L (.int x :: st)) := by
  obtain ⟨d, rfl⟩ := d
  exact own_by (fun _ q => XS.ineg X.here X.ex rfl (hb X.cd d) rfl q) k
theorem own_lneg (X : own_St p l e R s m args below meth c Z n0 bs maxL own T h cells slots) {x : Int64} (d : own_ix bs pc .lneg 1 pc')  (k : own_Wins p e below A T (mkF m pc' L (.long (-x) :: st))) : own_Wins p e below A T (mkF m pc L (.long x :: st)) := by
  obtain ⟨d, rfl⟩ := d
  exact own_by (fun _ q => XS.lneg X.here X.ex rfl (hb X.cd d) rfl q) k
theorem own_i2l (X : own_St p l e R s m args below meth c Z n0 bs maxL own T h cells slots) {x : Int32} (d : own_ix bs pc .i2l 1 pc')  (k : own_Wins p e below A T (mkF m pc' L (.long x.toInt64 :: st))) : own_Wins p e below A T (mkF m pc L (.int x :: st)) := by
  obtain ⟨d, rfl⟩ := d
  exact own_by (fun _ q => XS.i2l X.here X.ex rfl (hb X.cd d) rfl q) k
theorem own_l2i (X : own_St p l e R s m args below meth c Z n0 bs maxL own T h cells slots) {x : Int64} (d : own_ix bs pc .l2i 1 pc')  (k : own_Wins p e below A T (mkF m pc' L (.int x.toInt32 :: st))) : own_Wins p e below A T (mkF m pc L (.long x :: st)) := by
  obtain ⟨d, rfl⟩ := d
  exact own_by (fun _ q => XS.l2i X.here X.ex rfl (hb X.cd d) rfl q) k
theorem own_i2b (X : own_St p l e R s m args below meth c Z n0 bs maxL own T h cells slots) {x : Int32} (d : own_ix bs pc .i2b 1 pc')  (k : own_Wins p e below A T (mkF m pc' L (.int x.toInt8.toInt32 :: st))) : own_Wins p e below A T (mkF m pc L (.int x :: st)) := by
  obtain ⟨d, rfl⟩ := d
  exact own_by (fun _ q => XS.i2b X.here X.ex rfl (hb X.cd d) rfl q) k
theorem own_lcmp (X : own_St p l e R s m args below meth c Z n0 bs maxL own T h cells slots) {x y : Int64} (d : own_ix bs pc .lcmp 1 pc')  (k : own_Wins p e below A T (mkF m pc' L (.int (lcmpW x y) :: st))) : own_Wins p e below A T (mkF m pc L (.long y :: .long x :: st)) := by
  obtain ⟨d, rfl⟩ := d
  exact own_by (fun _ q => XS.lcmp X.here X.ex rfl (hb X.cd d) rfl q) k
theorem own_dup (X : own_St p l e R s m args below meth c Z n0 bs maxL own T h cells slots) {x : Value} (d : own_ix bs pc .dup 1 pc') (hc : x.category = 1) (k : own_Wins p e below A T (mkF m pc' L (x :: x :: st))) : own_Wins p e below A T (mkF m pc L (x :: st)) := by
  obtain ⟨d, rfl⟩ := d
  exact own_by (fun _ q => XS.dup X.here X.ex rfl (hb X.cd d) rfl hc q) k
theorem own_pop (X : own_St p l e R s m args below meth c Z n0 bs maxL own T h cells slots) {x : Value} (d : own_ix bs pc .pop 1 pc') (hc : x.category = 1) (k : own_Wins p e below A T (mkF m pc' L st)) : own_Wins p e below A T (mkF m pc L (x :: st)) := by
  obtain ⟨d, rfl⟩ := d
  exact own_by (fun _ q => XS.pop X.here X.ex rfl (hb X.cd d) rfl hc q) k
theorem own_dup2 (X : own_St p l e R s m args below meth c Z n0 bs maxL own T h cells slots) {x : Int32} {y : Addr} (d : own_ix bs pc .dup2 1 pc')  (k : own_Wins p e below A T (mkF m pc' L (.int x :: .ref y :: .int x :: .ref y :: st))) : own_Wins p e below A T (mkF m pc L (.int x :: .ref y :: st)) := by
  obtain ⟨d, rfl⟩ := d
  refine own_by (fun _ q => ?_) k
  show Steps p.tables e below (T.setTop (mkF m pc L (.int x :: .ref y :: st))) _
  jvm_step X.here [X.here.top, X.ex, (hb X.cd d), Value.category]
  exact q
theorem own_anull (X : own_St p l e R s m args below meth c Z n0 bs maxL own T h cells slots)  (d : own_ix bs pc .aconst_null 1 pc')  (k : own_Wins p e below A T (mkF m pc' L (.null :: st))) : own_Wins p e below A T (mkF m pc L st) := by
  obtain ⟨d, rfl⟩ := d
  exact own_by (fun _ q => XS.aconstNull X.here X.ex rfl (hb X.cd d) q) k
theorem own_ipush (X : own_St p l e R s m args below meth c Z n0 bs maxL own T h cells slots) {v : Int32} (d : own_ik bs pc v pc')  (k : own_Wins p e below A T (mkF m pc' L (.int v :: st))) : own_Wins p e below A T (mkF m pc L st) := by
  obtain ⟨i, ⟨d, rfl, rfl⟩ | ⟨d, rfl, rfl⟩ | ⟨d, rfl, rfl⟩⟩ := d
  · exact own_by (fun _ q => XS.iconst X.here X.ex rfl (hb X.cd d) q) k
  · exact own_by (fun _ q => XS.bipush X.here X.ex rfl (hb X.cd d) q) k
  · exact own_by (fun _ q => XS.sipush X.here X.ex rfl (hb X.cd d) q) k
theorem own_lpush (X : own_St p l e R s m args below meth c Z n0 bs maxL own T h cells slots) {v : Int64} (d : own_lk bs pc v pc')  (k : own_Wins p e below A T (mkF m pc' L (.long v :: st))) : own_Wins p e below A T (mkF m pc L st) := by
  obtain ⟨i, d, rfl, rfl⟩ := d
  exact own_by (fun _ q => XS.lconst X.here X.ex rfl (hb X.cd d) q) k
theorem own_iload (X : own_St p l e R s m args below meth c Z n0 bs maxL own T h cells slots) {i : Nat} {v : Int32} (d : own_il bs pc i pc') (hl : L[i]? = some (.val (.int v))) (k : own_Wins p e below A T (mkF m pc' L (.int v :: st))) : own_Wins p e below A T (mkF m pc L st) := by
  obtain ⟨i', d, rfl, rfl⟩ | ⟨d, rfl⟩ := d
  · exact own_by (fun _ q => XS.iloadN X.here X.ex rfl (hb X.cd d) hl q) k
  · exact own_by (fun _ q => XS.iload X.here X.ex rfl (hb X.cd d) hl q) k
theorem own_lload (X : own_St p l e R s m args below meth c Z n0 bs maxL own T h cells slots) {i : Nat} {v : Int64} (d : own_ll bs pc i pc') (hl : L[i]? = some (.val (.long v))) (k : own_Wins p e below A T (mkF m pc' L (.long v :: st))) : own_Wins p e below A T (mkF m pc L st) := by
  obtain ⟨i', d, rfl, rfl⟩ | ⟨d, rfl⟩ := d
  · exact own_by (fun _ q => XS.lloadN X.here X.ex rfl (hb X.cd d) hl q) k
  · exact own_by (fun _ q => XS.lload X.here X.ex rfl (hb X.cd d) hl q) k
theorem own_aload (X : own_St p l e R s m args below meth c Z n0 bs maxL own T h cells slots) {i : Nat} {v : Addr} (d : own_al bs pc i pc') (hl : L[i]? = some (.val (.ref v))) (k : own_Wins p e below A T (mkF m pc' L (.ref v :: st))) : own_Wins p e below A T (mkF m pc L st) := by
  obtain ⟨i', d, rfl, rfl⟩ | ⟨d, rfl⟩ := d
  · exact own_by (fun _ q => XS.aloadN X.here X.ex rfl (hb X.cd d) hl rfl q) k
  · exact own_by (fun _ q => XS.aload X.here X.ex rfl (hb X.cd d) hl rfl q) k
theorem own_aloadN (X : own_St p l e R s m args below meth c Z n0 bs maxL own T h cells slots) {i : Nat} (d : own_al bs pc i pc') (hl : L[i]? = some (.val .null)) (k : own_Wins p e below A T (mkF m pc' L (.null :: st))) : own_Wins p e below A T (mkF m pc L st) := by
  obtain ⟨i', d, rfl, rfl⟩ | ⟨d, rfl⟩ := d
  · exact own_by (fun _ q => XS.aloadN X.here X.ex rfl (hb X.cd d) hl rfl q) k
  · exact own_by (fun _ q => XS.aload X.here X.ex rfl (hb X.cd d) hl rfl q) k
theorem own_istore (X : own_St p l e R s m args below meth c Z n0 bs maxL own T h cells slots) {i : Nat} {v : Int32} (L' : Array Slot) (d : own_si bs pc i pc') (hl : storeLocals L i (.int v) = some L') (k : own_Wins p e below A T (mkF m pc' L' st)) : own_Wins p e below A T (mkF m pc L (.int v :: st)) := by
  obtain ⟨i', d, rfl, rfl⟩ | ⟨d, rfl⟩ := d
  · exact own_by (fun _ q => XS.istoreN X.here X.ex rfl (hb X.cd d) rfl hl q) k
  · exact own_by (fun _ q => XS.istore X.here X.ex rfl (hb X.cd d) rfl hl q) k
theorem own_lstore (X : own_St p l e R s m args below meth c Z n0 bs maxL own T h cells slots) {i : Nat} {v : Int64} (L' : Array Slot) (d : own_sl bs pc i pc') (hl : storeLocals L i (.long v) = some L') (k : own_Wins p e below A T (mkF m pc' L' st)) : own_Wins p e below A T (mkF m pc L (.long v :: st)) := by
  obtain ⟨i', d, rfl, rfl⟩ | ⟨d, rfl⟩ := d
  · exact own_by (fun _ q => XS.lstoreN X.here X.ex rfl (hb X.cd d) rfl hl q) k
  · exact own_by (fun _ q => XS.lstore X.here X.ex rfl (hb X.cd d) rfl hl q) k
theorem own_astore (X : own_St p l e R s m args below meth c Z n0 bs maxL own T h cells slots) {i : Nat} {v : Addr} (L' : Array Slot) (d : own_sa bs pc i pc') (hl : storeLocals L i (.ref v) = some L') (k : own_Wins p e below A T (mkF m pc' L' st)) : own_Wins p e below A T (mkF m pc L (.ref v :: st)) := by
  obtain ⟨i', d, rfl, rfl⟩ | ⟨d, rfl⟩ := d
  · exact own_by (fun _ q => XS.astoreN X.here X.ex rfl (hb X.cd d) rfl rfl hl q) k
  · exact own_by (fun _ q => XS.astore X.here X.ex rfl (hb X.cd d) rfl rfl hl q) k
theorem own_iinc (X : own_St p l e R s m args below meth c Z n0 bs maxL own T h cells slots) {i : Nat} {x w : Int32} (L' : Array Slot) (d : own_ii bs pc i w pc') (hl : L[i]? = some (.val (.int x))) (hl' : storeLocals L i (.int (x + w)) = some L') (k : own_Wins p e below A T (mkF m pc' L' st)) : own_Wins p e below A T (mkF m pc L st) := by
  obtain ⟨i', d, rfl, rfl⟩ := d
  exact own_by (fun _ q => XS.iinc X.here X.ex rfl (hb X.cd d) hl hl' q) k
theorem own_goto (X : own_St p l e R s m args below meth c Z n0 bs maxL own T h cells slots) (d : own_gt bs pc pc') (k : own_Wins p e below A T (mkF m pc' L st)) : own_Wins p e below A T (mkF m pc L st) := by
  obtain ⟨o, d, h1, h2⟩ := d
  exact own_by (fun _ q => XS.goto X.here X.ex rfl rfl (hb X.cd d) h1 h2 q) k
theorem own_ifYes (X : own_St p l e R s m args below meth c Z n0 bs maxL own T h cells slots) {cd : ClassFile.Cond} {x : Int32} {nx : Nat} (d : own_ifc bs pc cd nx pc') (hc : ifCond.holds cd x = true) (k : own_Wins p e below A T (mkF m pc' L st)) : own_Wins p e below A T (mkF m pc L (.int x :: st)) := by
  obtain ⟨o, d, -, h1, h2⟩ := d
  exact own_by (fun _ q => XS.ifYes X.here X.ex rfl rfl (hb X.cd d) rfl hc h1 h2 q) k
theorem own_ifNo (X : own_St p l e R s m args below meth c Z n0 bs maxL own T h cells slots) {cd : ClassFile.Cond} {x : Int32} {tg : Nat} (d : own_ifc bs pc cd pc' tg) (hc : ifCond.holds cd x = false) (k : own_Wins p e below A T (mkF m pc' L st)) : own_Wins p e below A T (mkF m pc L (.int x :: st)) := by
  obtain ⟨o, d, rfl, h1, h2⟩ := d
  exact own_by (fun _ q => XS.ifNo X.here X.ex rfl (hb X.cd d) rfl hc q) k
theorem own_icYes (X : own_St p l e R s m args below meth c Z n0 bs maxL own T h cells slots) {cd : ClassFile.Cond} {x y : Int32} {nx : Nat} (d : own_icm bs pc cd nx pc') (hc : if_icmp.holds cd x y = true) (k : own_Wins p e below A T (mkF m pc' L st)) : own_Wins p e below A T (mkF m pc L (.int y :: .int x :: st)) := by
  obtain ⟨o, d, -, h1, h2⟩ := d
  exact own_by (fun _ q => XS.icmpYes X.here X.ex rfl rfl (hb X.cd d) rfl hc h1 h2 q) k
theorem own_icNo (X : own_St p l e R s m args below meth c Z n0 bs maxL own T h cells slots) {cd : ClassFile.Cond} {x y : Int32} {tg : Nat} (d : own_icm bs pc cd pc' tg) (hc : if_icmp.holds cd x y = false) (k : own_Wins p e below A T (mkF m pc' L st)) : own_Wins p e below A T (mkF m pc L (.int y :: .int x :: st)) := by
  obtain ⟨o, d, rfl, h1, h2⟩ := d
  exact own_by (fun _ q => XS.icmpNo X.here X.ex rfl (hb X.cd d) rfl hc q) k
theorem own_inlYes (X : own_St p l e R s m args below meth c Z n0 bs maxL own T h cells slots) {nx : Nat} (d : own_inl bs pc nx pc') (k : own_Wins p e below A T (mkF m pc' L st)) : own_Wins p e below A T (mkF m pc L (.null :: st)) := by
  obtain ⟨o, d, -, h1, h2⟩ := d
  exact own_by (fun _ q => XS.ifnullYes X.here X.ex rfl rfl (hb X.cd d) rfl h1 h2 q) k
theorem own_inlNo (X : own_St p l e R s m args below meth c Z n0 bs maxL own T h cells slots) {a : Addr} {tg : Nat} (d : own_inl bs pc pc' tg) (k : own_Wins p e below A T (mkF m pc' L st)) : own_Wins p e below A T (mkF m pc L (.ref a :: st)) := by
  obtain ⟨o, d, rfl, h1, h2⟩ := d
  exact own_by (fun _ q => XS.ifnullNo X.here X.ex rfl (hb X.cd d) rfl q) k
theorem own_innYes (X : own_St p l e R s m args below meth c Z n0 bs maxL own T h cells slots) {a : Addr} {nx : Nat} (d : own_inn bs pc nx pc') (k : own_Wins p e below A T (mkF m pc' L st)) : own_Wins p e below A T (mkF m pc L (.ref a :: st)) := by
  obtain ⟨o, d, -, h1, h2⟩ := d
  exact own_by (fun _ q => XS.ifnonnullYes X.here X.ex rfl rfl (hb X.cd d) rfl h1 h2 q) k
theorem own_innNo (X : own_St p l e R s m args below meth c Z n0 bs maxL own T h cells slots) {tg : Nat} (d : own_inn bs pc pc' tg) (k : own_Wins p e below A T (mkF m pc' L st)) : own_Wins p e below A T (mkF m pc L (.null :: st)) := by
  obtain ⟨o, d, rfl, h1, h2⟩ := d
  exact own_by (fun _ q => XS.ifnonnullNo X.here X.ex rfl (hb X.cd d) rfl q) k
theorem own_ldc (X : own_St p l e R s m args below meth c Z n0 bs maxL own T h cells slots) {i : Nat} {v : Int32} (w : (Jvm.Cond.constant own i v).before a0 Z = true) (d : own_ix bs pc (.ldc i) 2 pc') (k : own_Wins p e below A T (mkF m pc' L (.int v :: st))) : own_Wins p e below A T (mkF m pc L st) := by
  obtain ⟨locs, Y, eT, N, hn, hx, hby, hml, hown, hZ, hlk⟩ := X
  obtain ⟨d, rfl⟩ := d
  exact own_by (Y.ldcInt hx hown (mvT hZ w) (g := mkF m pc L st) rfl (hb hby d)) k
theorem own_ldc2 (X : own_St p l e R s m args below meth c Z n0 bs maxL own T h cells slots) {i : Nat} {v : Int64} (w : (Jvm.Cond.constantLong own i v).before a0 Z = true) (d : own_ix bs pc (.ldc2_w i) 3 pc') (k : own_Wins p e below A T (mkF m pc' L (.long v :: st))) : own_Wins p e below A T (mkF m pc L st) := by
  obtain ⟨locs, Y, eT, N, hn, hx, hby, hml, hown, hZ, hlk⟩ := X
  obtain ⟨d, rfl⟩ := d
  exact own_by (Y.ldc2Long hx hown (mvT hZ w) (g := mkF m pc L st) rfl (hb hby d)) k
/-- an array of primitives: its values as a list -/
def own_AL (Z : State) (h : Heap) (a : Addr) (ty : FieldType) (vs : List Value) : Prop := ∃ c : Cell, Arr Z h a c ty ∧ c.slots = vs.toArray ∧ vs.length < 2147483648
theorem own_AL.lt {a : Addr} {ty : FieldType} {vs : List Value} (V : own_AL Z h a ty vs) : a < h.size := by obtain ⟨c, A, -⟩ := V; exact A.lt
theorem own_AL.ext {a : Addr} {ty : FieldType} {vs : List Value} (V : own_AL Z h a ty vs) (E : Ext h h') : own_AL Z h' a ty vs := by obtain ⟨c, A, r⟩ := V; exact ⟨c, A.ext E, r⟩
theorem own_AL.other {a b : Addr} {sl : Nat} {v : Value} {ty : FieldType} {vs : List Value} (V : own_AL Z h b ty vs) (W : Wr h h' a sl v) (q : b ≠ a) : own_AL Z h' b ty vs := by obtain ⟨c, A, r⟩ := V; exact ⟨c, A.other W q, r⟩
theorem own_AL.keep {a : Addr} {ws : List Addr} {ty : FieldType} {vs : List Value} (V : own_AL Z h a ty vs) (K : Keep h h' ws) (q : a ∉ ws) : own_AL Z h' a ty vs := by obtain ⟨c, A, r⟩ := V; exact ⟨c, ⟨K.2.1 a c A.1 q, A.2⟩, r⟩
theorem own_AL.new {a : Addr} {k : ClassId} {ty : FieldType} {z : Int32} {n : Nat} (A : Arr Z h a (newA k ty z) ty) (hz : z.toNatClampNeg = n) (hn : n < 2147483648) : own_AL Z h a ty (List.replicate n (defaultValue ty)) :=
  ⟨_, A, by simp [newA, hz], by simpa using hn⟩
theorem own_AL.same {a : Addr} {k : Nat} {v : Value} {ty : FieldType} {vs : List Value} (V : own_AL Z h a ty vs) (W : Wr h h' a k v) : own_AL Z h' a ty (vs.set k v) := by
  obtain ⟨c, A, q, r⟩ := V
  exact ⟨_, A.same W, by simp [Cell.setSlot, q], by simpa using r⟩
/-- an index in its two forms -/
def own_idx (j : Int32) (k : Nat) : Prop := ¬ j < 0 ∧ j.toNatClampNeg = k
theorem own_in {j : Int32} {k : Nat} {cl : Cell} {vs : List Value} (hj : own_idx j k) (q : cl.slots = vs.toArray) (hk : k < vs.length) : ¬ (j < 0 ∨ cl.slots.size ≤ j.toNatClampNeg) := by
  rw [q, hj.2]; simp only [List.size_toArray]
  intro z; rcases z with z | z
  · exact hj.1 z
  · omega
theorem own_len {cl : Cell} {vs : List Value} (q : cl.slots = vs.toArray) : cl.slots.size.toInt32 = Int32.ofNat vs.length := by rw [q]; simp [Nat.toInt32]
theorem own_iaload (X : own_St p l e R s m args below meth c Z n0 bs maxL own T h cells slots) {a : Addr} {vs : List Value} (V : own_AL Z h a .int vs) {j : Int32} {i : Nat} {v : Value} (hj : own_idx j i) (hv : vs[i]? = some v) (d : own_ix bs pc .iaload 1 pc') (k : own_Wins p e below A T (mkF m pc' L (v :: st))) : own_Wins p e below A T (mkF m pc L (.int j :: .ref a :: st)) := by
  obtain ⟨locs, Y, eT, N, hn, hx, hby, hml, hown, hZ, hlk⟩ := X
  obtain ⟨d, rfl⟩ := d
  obtain ⟨cl, Ar, q, r⟩ := V
  have hk : i < vs.length := (List.getElem?_eq_some_iff.mp hv).1
  exact own_by (fun t kk => Y.iaload hx (j := j) (v := v) (by rw [eT]; exact Ar.1) (State.isArrayOf_alike hZ.alike Ar.2.1) Ar.2.2 (own_in hj q hk) (by rw [q, hj.2]; simpa using hv) (g := mkF m pc L (.int j :: .ref a :: st)) rfl rfl (hb hby d) t kk) k
theorem own_laload (X : own_St p l e R s m args below meth c Z n0 bs maxL own T h cells slots) {a : Addr} {vs : List Value} (V : own_AL Z h a .long vs) {j : Int32} {i : Nat} {v : Value} (hj : own_idx j i) (hv : vs[i]? = some v) (d : own_ix bs pc .laload 1 pc') (k : own_Wins p e below A T (mkF m pc' L (v :: st))) : own_Wins p e below A T (mkF m pc L (.int j :: .ref a :: st)) := by
  obtain ⟨locs, Y, eT, N, hn, hx, hby, hml, hown, hZ, hlk⟩ := X
  obtain ⟨d, rfl⟩ := d
  obtain ⟨cl, Ar, q, r⟩ := V
  have hk : i < vs.length := (List.getElem?_eq_some_iff.mp hv).1
  exact own_by (fun t kk => Y.laload hx (j := j) (v := v) (by rw [eT]; exact Ar.1) (State.isArrayOf_alike hZ.alike Ar.2.1) Ar.2.2 (own_in hj q hk) (by rw [q, hj.2]; simpa using hv) (g := mkF m pc L (.int j :: .ref a :: st)) rfl rfl (hb hby d) t kk) k
theorem own_baload (X : own_St p l e R s m args below meth c Z n0 bs maxL own T h cells slots) {a : Addr} {vs : List Value} (V : own_AL Z h a .byte vs) {j : Int32} {i : Nat} {v : Value} (hj : own_idx j i) (hv : vs[i]? = some v) (d : own_ix bs pc .baload 1 pc') (k : own_Wins p e below A T (mkF m pc' L (v :: st))) : own_Wins p e below A T (mkF m pc L (.int j :: .ref a :: st)) := by
  obtain ⟨locs, Y, eT, N, hn, hx, hby, hml, hown, hZ, hlk⟩ := X
  obtain ⟨d, rfl⟩ := d
  obtain ⟨cl, Ar, q, r⟩ := V
  have hk : i < vs.length := (List.getElem?_eq_some_iff.mp hv).1
  exact own_by (fun t kk => Y.baloadBytes hx (j := j) (v := v) (by rw [eT]; exact Ar.1) (State.isArrayOf_alike hZ.alike Ar.2.1) Ar.2.2 (own_in hj q hk) (by rw [q, hj.2]; simpa using hv) (g := mkF m pc L (.int j :: .ref a :: st)) rfl rfl (hb hby d) t kk) k
theorem own_alen (X : own_St p l e R s m args below meth c Z n0 bs maxL own T h cells slots) {a : Addr} {ty : FieldType} {vs : List Value} (V : own_AL Z h a ty vs) (d : own_ix bs pc .arraylength 1 pc') (k : own_Wins p e below A T (mkF m pc' L (.int (Int32.ofNat vs.length) :: st))) : own_Wins p e below A T (mkF m pc L (.ref a :: st)) := by
  obtain ⟨locs, Y, eT, N, hn, hx, hby, hml, hown, hZ, hlk⟩ := X
  obtain ⟨d, rfl⟩ := d
  obtain ⟨cl, Ar, q, r⟩ := V
  exact own_by (fun t kk => Y.arraylength hx (by rw [eT]; exact Ar.1) (State.isArrayOf_alike hZ.alike Ar.2.1) (g := mkF m pc L (.ref a :: st)) rfl rfl (hb hby d) t (by rw [own_len q]; exact kk)) k
theorem own_iastore (X : own_St p l e R s m args below meth c Z n0 bs maxL own T h cells slots) {a : Addr} {vs : List Value} (V : own_AL Z h a .int vs) (ga : n0 ≤ a) {j : Int32} {x : Int32} {i : Nat} (hj : own_idx j i) (hk : i < vs.length) (d : own_ix bs pc .iastore 1 pc') (k : ∀ T' h', own_St p l e R s m args below meth c Z n0 bs maxL own T' h' cells slots → Wr h h' a i (.int x) → own_AL Z h' a .int (vs.set i (.int x)) → own_Wins p e below A T' (mkF m pc' L st)) : own_Wins p e below A T (mkF m pc L (.int x :: .int j :: .ref a :: st)) := by
  obtain ⟨locs, Y, eT, N, hn, hx, hby, hml, hown, hZ, hlk⟩ := X
  obtain ⟨d, rfl⟩ := d
  have V0 := V
  obtain ⟨cl, Ar, q, r⟩ := V
  obtain ⟨T', h', Y', e', W', st'⟩ := stI Y hx hZ eT Ar (j := j) (x := x) (own_in hj q hk) (g := mkF m pc L (.int x :: .int j :: .ref a :: st)) rfl rfl (hb hby d)
  have W2 : Wr h h' a i (.int x) := hj.2 ▸ W'
  exact own_by st' (k T' h' ⟨_, Y', e', Fr.snoc Y' N ga, W'.size ▸ hn, hx, hby, hml, hown, hZ, hlk⟩ W2 (V0.same W2))
theorem own_lastore (X : own_St p l e R s m args below meth c Z n0 bs maxL own T h cells slots) {a : Addr} {vs : List Value} (V : own_AL Z h a .long vs) (ga : n0 ≤ a) {j : Int32} {x : Int64} {i : Nat} (hj : own_idx j i) (hk : i < vs.length) (d : own_ix bs pc .lastore 1 pc') (k : ∀ T' h', own_St p l e R s m args below meth c Z n0 bs maxL own T' h' cells slots → Wr h h' a i (.long x) → own_AL Z h' a .long (vs.set i (.long x)) → own_Wins p e below A T' (mkF m pc' L st)) : own_Wins p e below A T (mkF m pc L (.long x :: .int j :: .ref a :: st)) := by
  obtain ⟨locs, Y, eT, N, hn, hx, hby, hml, hown, hZ, hlk⟩ := X
  obtain ⟨d, rfl⟩ := d
  have V0 := V
  obtain ⟨cl, Ar, q, r⟩ := V
  obtain ⟨T', h', Y', e', W', st'⟩ := stJ Y hx hZ eT Ar (j := j) (x := x) (own_in hj q hk) (g := mkF m pc L (.long x :: .int j :: .ref a :: st)) rfl rfl (hb hby d)
  have W2 : Wr h h' a i (.long x) := hj.2 ▸ W'
  exact own_by st' (k T' h' ⟨_, Y', e', Fr.snoc Y' N ga, W'.size ▸ hn, hx, hby, hml, hown, hZ, hlk⟩ W2 (V0.same W2))
theorem own_bastore (X : own_St p l e R s m args below meth c Z n0 bs maxL own T h cells slots) {a : Addr} {vs : List Value} (V : own_AL Z h a .byte vs) (ga : n0 ≤ a) {j : Int32} {x : Int32} {i : Nat} (hj : own_idx j i) (hk : i < vs.length) (d : own_ix bs pc .bastore 1 pc') (k : ∀ T' h', own_St p l e R s m args below meth c Z n0 bs maxL own T' h' cells slots → Wr h h' a i (.int x.toInt8.toInt32) → own_AL Z h' a .byte (vs.set i (.int x.toInt8.toInt32)) → own_Wins p e below A T' (mkF m pc' L st)) : own_Wins p e below A T (mkF m pc L (.int x :: .int j :: .ref a :: st)) := by
  obtain ⟨locs, Y, eT, N, hn, hx, hby, hml, hown, hZ, hlk⟩ := X
  obtain ⟨d, rfl⟩ := d
  have V0 := V
  obtain ⟨cl, Ar, q, r⟩ := V
  obtain ⟨T', h', Y', e', W', st'⟩ := stB Y hx hZ eT Ar (j := j) (x := x) (own_in hj q hk) (g := mkF m pc L (.int x :: .int j :: .ref a :: st)) rfl rfl (hb hby d)
  have W2 : Wr h h' a i (.int x.toInt8.toInt32) := hj.2 ▸ W'
  exact own_by st' (k T' h' ⟨_, Y', e', Fr.snoc Y' N ga, W'.size ▸ hn, hx, hby, hml, hown, hZ, hlk⟩ W2 (V0.same W2))
theorem own_newarr (X : own_St p l e R s m args below meth c Z n0 bs maxL own T h cells slots) {aty : ArrayType} (w : (Jvm.Cond.arrayClass (newarray.typeOf aty)).before a0 Z = true) (d : own_ix bs pc (.newarray aty) 2 pc') {z : Int32} {n : Nat} (hz : own_idx z n) (cap : Nat) (hcap : n ≤ cap) (hb1 : cap * 8 ≤ 536870912) (hc : cells + 1 ≤ R.cells) (hl : slots + cap ≤ R.slots)
    (k : ∀ T' h' a, own_St p l e R s m args below meth c Z n0 bs maxL own T' h' (cells + 1) (slots + cap) → Ext h h' → a = h.size → n0 ≤ a → own_AL Z h' a (newarray.typeOf aty) (List.replicate n (defaultValue (newarray.typeOf aty))) → own_Wins p e below A T' (mkF m pc' L (.ref a :: st))) : own_Wins p e below A T (mkF m pc L (.int z :: st)) := by
  obtain ⟨locs, Y, eT, N, hn, hx, hby, hml, hown, hZ, hlk⟩ := X
  obtain ⟨d, rfl⟩ := d
  obtain ⟨T', h', cA, Y', e', E', A', st'⟩ := newP Y hx hZ w eT (g := mkF m pc L (.int z :: st)) rfl (hb hby d) rfl hz.1 (cap := cap) (by rw [hz.2]; exact hcap) hb1 hc hl
  exact own_by st' (k T' h' _ ⟨_, Y', e', N, Nat.le_trans hn E'.1, hx, hby, hml, hown, hZ, hlk⟩ E' rfl hn (own_AL.new A' hz.2 (by omega)))
def own_up (g : Nat → Value) (k : Nat) (v : Value) : Nat → Value := fun j => if j = k then v else g j
theorem own_up_same (g : Nat → Value) (k : Nat) (v : Value) : own_up g k v k = v := if_pos rfl
theorem own_up_ne (g : Nat → Value) {k j : Nat} (v : Value) (h : j ≠ k) : own_up g k v j = g j := if_neg h
def own_AF (Z : State) (h : Heap) (a : Addr) (ty : FieldType) (n : Nat) (g : Nat → Value) : Prop := ∃ vs, own_AL Z h a ty vs ∧ vs.length = n ∧ ∀ j, j < n → vs[j]? = some (g j)
theorem own_AF.lt {a : Addr} {ty : FieldType} {n : Nat} {g : Nat → Value} (V : own_AF Z h a ty n g) : a < h.size := by obtain ⟨vs, V, -⟩ := V; exact V.lt
theorem own_AF.ext {a : Addr} {ty : FieldType} {n : Nat} {g : Nat → Value} (V : own_AF Z h a ty n g) (E : Ext h h') : own_AF Z h' a ty n g := by obtain ⟨vs, V, r⟩ := V; exact ⟨vs, V.ext E, r⟩
theorem own_AF.other {a b : Addr} {sl : Nat} {v : Value} {ty : FieldType} {n : Nat} {g : Nat → Value} (V : own_AF Z h b ty n g) (W : Wr h h' a sl v) (q : b ≠ a) : own_AF Z h' b ty n g := by obtain ⟨vs, V, r⟩ := V; exact ⟨vs, V.other W q, r⟩
theorem own_AF.keep {a : Addr} {ws : List Addr} {ty : FieldType} {n : Nat} {g : Nat → Value} (V : own_AF Z h a ty n g) (K : Keep h h' ws) (q : a ∉ ws) : own_AF Z h' a ty n g := by obtain ⟨vs, V, r⟩ := V; exact ⟨vs, V.keep K q, r⟩
theorem own_AF.same {a : Addr} {i : Nat} {v : Value} {ty : FieldType} {n : Nat} {g : Nat → Value} (V : own_AF Z h a ty n g) (W : Wr h h' a i v) : own_AF Z h' a ty n (own_up g i v) := by
  obtain ⟨vs, V, hn, hg⟩ := V
  refine ⟨_, V.same W, by simpa using hn, fun j hj => ?_⟩
  by_cases hij : j = i
  · subst hij; rw [own_up_same, List.getElem?_set_self (by omega)]
  · rw [own_up_ne _ _ hij, List.getElem?_set_ne (Ne.symm hij)]; exact hg j hj
theorem own_AF.len {a : Addr} {ty : FieldType} {n : Nat} {g : Nat → Value} (V : own_AF Z h a ty n g) : n < 2147483648 := by obtain ⟨vs, ⟨c, -, -, q⟩, hn, -⟩ := V; omega
theorem own_AL.fn {a : Addr} {ty : FieldType} {vs : List Value} (V : own_AL Z h a ty vs) (n : Nat) (hn : vs.length = n) (d : Value) : own_AF Z h a ty n (fun j => vs.getD j d) := ⟨vs, V, hn, fun j hj => by simp only [List.getD_eq_getElem?_getD]; rw [List.getElem?_eq_getElem (by omega)]; rfl⟩
theorem own_AF.to {a : Addr} {ty : FieldType} {n : Nat} {g g' : Nat → Value} (V : own_AF Z h a ty n g) (e : ∀ j, j < n → g j = g' j) : own_AF Z h a ty n g' := by obtain ⟨vs, V, hn, hg⟩ := V; exact ⟨vs, V, hn, fun j hj => by rw [hg j hj, e j hj]⟩
theorem own_ialoadF (X : own_St p l e R s m args below meth c Z n0 bs maxL own T h cells slots) {a : Addr} {n : Nat} {g : Nat → Value} (V : own_AF Z h a .int n g) {j : Int32} {i : Nat} {v : Value} (hj : own_idx j i) (hi : i < n) (hv : g i = v) (d : own_ix bs pc .iaload 1 pc') (k : own_Wins p e below A T (mkF m pc' L (v :: st))) : own_Wins p e below A T (mkF m pc L (.int j :: .ref a :: st)) := by
  obtain ⟨vs, V, hn, hg⟩ := V
  exact own_iaload X V hj (by rw [hg i hi, hv]) d k
theorem own_laloadF (X : own_St p l e R s m args below meth c Z n0 bs maxL own T h cells slots) {a : Addr} {n : Nat} {g : Nat → Value} (V : own_AF Z h a .long n g) {j : Int32} {i : Nat} {v : Value} (hj : own_idx j i) (hi : i < n) (hv : g i = v) (d : own_ix bs pc .laload 1 pc') (k : own_Wins p e below A T (mkF m pc' L (v :: st))) : own_Wins p e below A T (mkF m pc L (.int j :: .ref a :: st)) := by
  obtain ⟨vs, V, hn, hg⟩ := V
  exact own_laload X V hj (by rw [hg i hi, hv]) d k
theorem own_baloadF (X : own_St p l e R s m args below meth c Z n0 bs maxL own T h cells slots) {a : Addr} {n : Nat} {g : Nat → Value} (V : own_AF Z h a .byte n g) {j : Int32} {i : Nat} {v : Value} (hj : own_idx j i) (hi : i < n) (hv : g i = v) (d : own_ix bs pc .baload 1 pc') (k : own_Wins p e below A T (mkF m pc' L (v :: st))) : own_Wins p e below A T (mkF m pc L (.int j :: .ref a :: st)) := by
  obtain ⟨vs, V, hn, hg⟩ := V
  exact own_baload X V hj (by rw [hg i hi, hv]) d k
theorem own_alenF (X : own_St p l e R s m args below meth c Z n0 bs maxL own T h cells slots) {a : Addr} {ty : FieldType} {n : Nat} {g : Nat → Value} (V : own_AF Z h a ty n g) (d : own_ix bs pc .arraylength 1 pc') (k : own_Wins p e below A T (mkF m pc' L (.int (Int32.ofNat n) :: st))) : own_Wins p e below A T (mkF m pc L (.ref a :: st)) := by
  obtain ⟨vs, V, rfl, hg⟩ := V
  exact own_alen X V d k
theorem own_iastoreF (X : own_St p l e R s m args below meth c Z n0 bs maxL own T h cells slots) {a : Addr} {n : Nat} {g : Nat → Value} (V : own_AF Z h a .int n g) (ga : n0 ≤ a) {j : Int32} {x : Int32} {i : Nat} (hj : own_idx j i) (hi : i < n) (d : own_ix bs pc .iastore 1 pc') (k : ∀ T' h', own_St p l e R s m args below meth c Z n0 bs maxL own T' h' cells slots → Wr h h' a i (.int x) → own_AF Z h' a .int n (own_up g i (.int x)) → own_Wins p e below A T' (mkF m pc' L st)) : own_Wins p e below A T (mkF m pc L (.int x :: .int j :: .ref a :: st)) := by
  have V0 := V
  obtain ⟨vs, V, hn, hg⟩ := V
  exact own_iastore X V ga hj (by omega) d (fun T' h' X' W' _ => k T' h' X' W' (V0.same W'))
theorem own_lastoreF (X : own_St p l e R s m args below meth c Z n0 bs maxL own T h cells slots) {a : Addr} {n : Nat} {g : Nat → Value} (V : own_AF Z h a .long n g) (ga : n0 ≤ a) {j : Int32} {x : Int64} {i : Nat} (hj : own_idx j i) (hi : i < n) (d : own_ix bs pc .lastore 1 pc') (k : ∀ T' h', own_St p l e R s m args below meth c Z n0 bs maxL own T' h' cells slots → Wr h h' a i (.long x) → own_AF Z h' a .long n (own_up g i (.long x)) → own_Wins p e below A T' (mkF m pc' L st)) : own_Wins p e below A T (mkF m pc L (.long x :: .int j :: .ref a :: st)) := by
  have V0 := V
  obtain ⟨vs, V, hn, hg⟩ := V
  exact own_lastore X V ga hj (by omega) d (fun T' h' X' W' _ => k T' h' X' W' (V0.same W'))
theorem own_bastoreF (X : own_St p l e R s m args below meth c Z n0 bs maxL own T h cells slots) {a : Addr} {n : Nat} {g : Nat → Value} (V : own_AF Z h a .byte n g) (ga : n0 ≤ a) {j : Int32} {x : Int32} {i : Nat} (hj : own_idx j i) (hi : i < n) (d : own_ix bs pc .bastore 1 pc') (k : ∀ T' h', own_St p l e R s m args below meth c Z n0 bs maxL own T' h' cells slots → Wr h h' a i (.int x.toInt8.toInt32) → own_AF Z h' a .byte n (own_up g i (.int x.toInt8.toInt32)) → own_Wins p e below A T' (mkF m pc' L st)) : own_Wins p e below A T (mkF m pc L (.int x :: .int j :: .ref a :: st)) := by
  have V0 := V
  obtain ⟨vs, V, hn, hg⟩ := V
  exact own_bastore X V ga hj (by omega) d (fun T' h' X' W' _ => k T' h' X' W' (V0.same W'))
/-- an object of a class with these fields (names and descriptors), holding these values -/
def own_Obj (Z : State) (h : Heap) (a : Addr) (C : String) (ns : List (String × String)) (vs : List Value) : Prop := Exa Z h a C ∧ ns.length = vs.length ∧ ∀ (i : Nat) (n d : String) (v : Value), ns[i]? = some (n, d) → vs[i]? = some v → Fld Z h a C n d v
theorem own_Obj.lt {a : Addr} {C : String} {ns : List (String × String)} {vs : List Value} (O : own_Obj Z h a C ns vs) : a < h.size := O.1.lt
theorem own_Obj.ext {a : Addr} {C : String} {ns : List (String × String)} {vs : List Value} (O : own_Obj Z h a C ns vs) (E : Ext h h') : own_Obj Z h' a C ns vs := ⟨O.1.ext E, O.2.1, fun i n d v h1 h2 => (O.2.2 i n d v h1 h2).ext E⟩
theorem own_Obj.other {a b : Addr} {sl : Nat} {w : Value} {C : String} {ns : List (String × String)} {vs : List Value} (O : own_Obj Z h b C ns vs) (W : Wr h h' a sl w) (q : b ≠ a) : own_Obj Z h' b C ns vs := ⟨O.1.wr W, O.2.1, fun i n d v h1 h2 => (O.2.2 i n d v h1 h2).other W (Or.inl q)⟩
theorem own_Obj.keep {a : Addr} {ws : List Addr} {C : String} {ns : List (String × String)} {vs : List Value} (O : own_Obj Z h a C ns vs) (K : Keep h h' ws) (q : a ∉ ws) : own_Obj Z h' a C ns vs := ⟨O.1.keep K, O.2.1, fun i n d v h1 h2 => (O.2.2 i n d v h1 h2).keep K q⟩
def own_Laid (Z : State) (a0 : Array Value) (C : String) (ns : List (String × String)) : Prop := (∀ q ∈ ns, Laid Z a0 C C q.1 q.2 ∧ ∃ t, parseFieldDescriptor q.2 = some t) ∧ (ns.map (·.1)).Nodup
theorem own_Obj.put {a : Addr} {C n d : String} {ns : List (String × String)} {vs : List Value} {i : Nat} {v : Value} (O : own_Obj Z h a C ns vs) (La : own_Laid Z a0 C ns) (hi : ns[i]? = some (n, d)) (W : Wr h h' a (Jvm.RoadKit.slotOf Z C n d) v) : own_Obj Z h' a C ns (vs.set i v) := by
  refine ⟨O.1.wr W, by simpa using O.2.1, fun j n' d' v' h1 h2 => ?_⟩
  by_cases hij : i = j
  · subst hij
    rw [hi] at h1
    obtain ⟨rfl, rfl⟩ : n = n' ∧ d = d' := by simpa using h1
    have hlt : i < vs.length := by rw [← O.2.1]; exact (List.getElem?_eq_some_iff.mp hi).1
    rw [List.getElem?_set_self hlt] at h2
    cases h2
    exact (O.2.2 i n d vs[i] hi (List.getElem?_eq_getElem hlt)).same W
  · rw [List.getElem?_set_ne hij] at h2
    refine (O.2.2 j n' d' v' h1 h2).other W (Or.inr ?_)
    obtain ⟨L1, t1, e1⟩ := La.1 _ (List.mem_of_getElem? hi)
    obtain ⟨L2, t2, e2⟩ := La.1 _ (List.mem_of_getElem? h1)
    refine slot_ne L2 L1 ?_ e2 e1
    intro hnn
    obtain ⟨li, ei⟩ := List.getElem?_eq_some_iff.mp hi
    obtain ⟨lj, ej⟩ := List.getElem?_eq_some_iff.mp h1
    have hp := List.pairwise_iff_getElem.mp La.2
    rcases Nat.lt_or_gt_of_ne hij with hlt | hlt
    · exact hp i j (by simpa using li) (by simpa using lj) hlt (by simp [ei, ej, hnn])
    · exact hp j i (by simpa using lj) (by simpa using li) hlt (by simp [ei, ej, hnn])
theorem own_getF (X : own_St p l e R s m args below meth c Z n0 bs maxL own T h cells slots) {i k : Nat} {a : Addr} {C n dd host : String} {ns : List (String × String)} {vs : List Value} {v : Value} (w : (Jvm.Cond.fieldLink own i C n dd).before a0 Z = true) (O : own_Obj Z h a C ns vs) (hi : ns[k]? = some (n, dd)) (hv : vs[k]? = some v) (d : own_ix bs pc (.getfield i) 3 pc')
    (kk : ∀ T', own_St p l e R s m args below meth c Z n0 bs maxL own T' h cells slots → own_Wins p e below A T' (mkF m pc' L (v :: st))) : own_Wins p e below A T (mkF m pc L (.ref a :: st)) := by
  obtain ⟨locs, Y, eT, N, hn, hx, hby, hml, hown, hZ, hlk⟩ := X
  obtain ⟨d, rfl⟩ := d
  obtain ⟨T', Y', e', st'⟩ := getF Y hx hZ hown (host := "") (Or.inl w) Via.refl eT (O.2.2 k n dd v hi hv) (g := mkF m pc L (.ref a :: st)) rfl rfl (hb hby d)
  exact own_by st' (kk T' ⟨_, Y', e', N, hn, hx, hby, hml, hown, hZ, hlk⟩)
theorem own_putF (X : own_St p l e R s m args below meth c Z n0 bs maxL own T h cells slots) {i k kc : Nat} {a : Addr} {C n dd : String} {ns : List (String × String)} {vs : List Value} {v v' : Value} {ty : FieldType} (w : (Jvm.Cond.fieldLink own i C n dd).before a0 Z = true) (O : own_Obj Z h a C ns vs) (La : own_Laid Z a0 C ns) (hi : ns[k]? = some (n, dd))
    (Ly : (Jvm.Cond.lays C C n dd).before a0 Z = true ∨ ((Jvm.Cond.laysFinal C C n dd).before a0 Z = true ∧ own = C ∧ meth.name = "<init>")) (wi : (Jvm.Cond.instantiable C kc).before a0 Z = true) (hty : parseFieldDescriptor dd = some ty) (hnr : narrow ty v = v') (hf : fits ty v' = true) (ga : n0 ≤ a) (d : own_ix bs pc (.putfield i) 3 pc')
    (kk : ∀ T' h', own_St p l e R s m args below meth c Z n0 bs maxL own T' h' cells slots → Wr h h' a (Jvm.RoadKit.slotOf Z C n dd) v' → own_Obj Z h' a C ns (vs.set k v') → own_Wins p e below A T' (mkF m pc' L st)) : own_Wins p e below A T (mkF m pc L (v :: .ref a :: st)) := by
  obtain ⟨locs, Y, eT, N, hn, hx, hby, hml, hown, hZ, hlk⟩ := X
  obtain ⟨d, rfl⟩ := d
  have hlt : k < vs.length := by rw [← O.2.1]; exact (List.getElem?_eq_some_iff.mp hi).1
  obtain ⟨T', h', Y', e', W', st'⟩ := putFN Y hx hZ hown w Via.refl eT (O.2.2 k n dd vs[k] hi (List.getElem?_eq_getElem hlt)) O.1 Ly wi hty hnr hf (g := mkF m pc L (v :: .ref a :: st)) rfl rfl (hb hby d)
  exact own_by st' (kk T' h' ⟨_, Y', e', Fr.snoc Y' N ga, W'.size ▸ hn, hx, hby, hml, hown, hZ, hlk⟩ W' (O.put La hi W'))
theorem own_new (X : own_St p l e R s m args below meth c Z n0 bs maxL own T h cells slots) {i nn : Nat} {C : String} {ns : List (String × String)} (w1 : (Jvm.Cond.classLink own i C).before a0 Z = true) (w2 : (Jvm.Cond.instantiable C nn).before a0 Z = true) (w3 : (Jvm.Cond.initialized C).before a0 Z = true) (La : own_Laid Z a0 C ns) (vs : List Value) (hvs : vs = ns.map fun q => match parseFieldDescriptor q.2 with | some t => defaultValue t | none => .null) (d : own_ix bs pc (.new i) 3 pc') (hc : cells + 1 ≤ R.cells) (hl : slots + nn ≤ R.slots)
    (kk : ∀ T' h' a, own_St p l e R s m args below meth c Z n0 bs maxL own T' h' (cells + 1) (slots + nn) → Ext h h' → a = h.size → n0 ≤ a → own_Obj Z h' a C ns vs → own_Wins p e below A T' (mkF m pc' L (.ref a :: st))) : own_Wins p e below A T (mkF m pc L st) := by
  obtain ⟨locs, Y, eT, N, hn, hx, hby, hml, hown, hZ, hlk⟩ := X
  obtain ⟨d, rfl⟩ := d
  obtain ⟨T', h', Y', e', E', A', D', -, st'⟩ := newO Y hx hZ hown w1 w2 w3 eT (g := mkF m pc L st) rfl (hb hby d) hc hl
  refine own_by st' (kk T' h' _ ⟨_, Y', e', N, Nat.le_trans hn E'.1, hx, hby, hml, hown, hZ, hlk⟩ E' rfl hn ⟨A', by simp [hvs], fun j n dd v h1 h2 => ?_⟩)
  obtain ⟨Lq, t, et⟩ := La.1 _ (List.mem_of_getElem? h1)
  rw [hvs, List.getElem?_map, h1] at h2
  simp only [Option.map_some, et, Option.some.injEq] at h2
  subst h2
  exact D' Lq et
theorem own_initO (X : own_St p l e R s m args below meth c Z n0 bs maxL own T h cells slots) {i : Nat} {a : Addr} (w1 : (Jvm.Cond.methodLink own i Lib.objectInit).before a0 Z = true) (w2 : (Jvm.Cond.instanceMethod Lib.objectInit).before a0 Z = true) (w3 : (Jvm.Cond.code Lib.objectInit ⟨#[0xb1]⟩ 1 none).before a0 Z = true) (d : own_ix bs pc (.invokespecial i) 3 pc') (hsz : L.size = maxL) (hf : 1 ≤ R.frames) (Wt : Nat) (hW : 2 * 0 + (st.map fun v => v.category).sum ≤ Wt) (hl : Wt + 12 ≤ R.locals)
    (kk : ∀ T', own_St p l e R s m args below meth c Z n0 bs maxL own T' h cells slots → own_Wins p e below A T' (mkF m pc' L st)) : own_Wins p e below A T (mkF m pc L (.ref a :: st)) := by
  obtain ⟨locs, Y, eT, N, hn, hx, hby, hml, hown, hZ, hlk⟩ := X
  obtain ⟨d, rfl⟩ := d
  obtain ⟨T', Y', e', st'⟩ := initO Y hx hZ hown w1 w2 w3 eT (g := mkF m pc L (.ref a :: st)) rfl (by rw [hml]; exact hsz) rfl (hb hby d) hf (W := Wt) hW hl
  exact own_by st' (kk T' ⟨_, Y', e', N, hn, hx, hby, hml, hown, hZ, hlk⟩)
/-- what a body does, called with these arguments over this heap: it returns v and leaves a heap with P v h' -/
def own_Con (l : Launch) (Z : State) (n0 : Nat) (y : MethodName) (bs : ByteArray) (maxL : Nat) (ret : Option FieldType) (rm : Room) (ws : List Jvm.Cond) (av : Array Value) (h0 : Heap) (P : Option Value → Heap → Prop) : Prop :=
  MetFree l y (head1 (Jvm.Cond.code y bs maxL ret :: ws) rm) (fun a U => a = av ∧ Z.Warmed39 U.vm ∧ U.heap = h0) (fun _ _ _ _ _ => True) (fun _ U o U' => ∃ v L, o = .returned v ∧ (Fr n0 L ∧ n0 ≤ U'.heap.size ∧ P v U'.heap) ∧ FrameEnd U o U' L rm.cells rm.slots)
def own_G (s : State) (below : List Frame) (n0 : Nat) (rm : Room) (P : Option Value → Heap → Prop) (U : State) (o : Outcome) : Prop :=
  U.status = .running ∧ Ended U below o ∧ ∃ v L, o = .returned v ∧ (Fr n0 L ∧ n0 ≤ U.heap.size ∧ P v U.heap) ∧ FrameEnd s o U L rm.cells rm.slots
theorem own_enter {l : Launch} {Z : State} {n0 : Nat} {y : MethodName} {bs : ByteArray} {maxL : Nat} {ret : Option FieldType} {rm : Room} {ws : List Jvm.Cond} {av : Array Value} {h0 : Heap} {P : Option Value → Heap → Prop} (hpl : plainFor y = true) (Z0 : n0 ≤ h0.size) (L0 : Array Slot) (ef : ∀ m, entryFrame m av maxL = mkF m 0 L0 [])
    (body : ∀ (p : Program) (e : Env) (s : State) (m : MethodId) (below : List Frame) (meth : Method) (c : Code) (T : State) (A : State → Outcome → Prop), own_St p l e rm s m av below meth c Z n0 bs maxL y.cls T h0 0 0 → meth.sig.returnType = ret → meth.name = y.name → (∀ U o, own_G s below n0 rm P U o → A U o) → own_Wins p e below A T (mkF m 0 L0 [])) :
    own_Con l Z n0 y bs maxL ret rm ws av h0 P := by
  refine MetFree.of_bodySF hpl hisR ?_
  intro p e s m args below meth c s₁ Bd hml0 hP hK
  obtain ⟨rfl, hZ, hh⟩ := hP
  have hnm := (name_of_methodNamed Bd.named Bd.method).1
  have X0 : own_St p l e rm s m _ below meth c Z n0 bs maxL y.cls s₁ h0 0 0 := ⟨[], Stand.of_body Bd, by rw [← hh, Bd.state]; rfl, Fr.nil n0, Z0, Bd.exec, Bd.bytes, hml0, findClass_of_methodNamed Bd.named, hZ, BodyLoose.notSynchronized Bd⟩
  obtain ⟨U, o, h1, h2⟩ := body p e s m below meth c s₁ (own_G s below n0 rm P) X0 Bd.returns hnm (fun _ _ g => g)
  exact ⟨U, o, castTop (ef m) h1, h2⟩
theorem own_ret0 (X : own_St p l e R s m args below meth c Z n0 bs maxL own T h cells slots) (hret : meth.sig.returnType = none) {P : Option Value → Heap → Prop} (fin : ∀ U o, own_G s below n0 R P U o → A U o) (hc : cells ≤ R.cells) (hs : slots ≤ R.slots) (hP : P none h) (d : own_ix bs pc .return_ 1 pc') : own_Wins p e below A T (mkF m pc L []) := by
  obtain ⟨locs, Y, eT, N, hn, hx, hby, hml, hown, hZ, hlk⟩ := X
  obtain ⟨fs, hr, hrun, hended, hW, hsame⟩ := Y.leave (v := none) (fun _ => rfl) hlk
  have eF : (T.setFrames fs).heap = h := eT
  exact ⟨_, _, Y.returnOut hx hret (hb hby d.1) hr, fin _ _ ⟨hrun, hended, _, _, rfl, ⟨N, by rw [eF]; exact hn, by rw [eF]; exact hP⟩, ⟨_, rfl⟩, hW, hsame.mono hc hs⟩⟩
theorem own_retJ (X : own_St p l e R s m args below meth c Z n0 bs maxL own T h cells slots) {z : Int64} (hret : meth.sig.returnType = some .long) {P : Option Value → Heap → Prop} (fin : ∀ U o, own_G s below n0 R P U o → A U o) (hc : cells ≤ R.cells) (hs : slots ≤ R.slots) (hP : P (some (.long z)) h) (d : own_ix bs pc .lreturn 1 pc') : own_Wins p e below A T (mkF m pc L (.long z :: st)) := by
  obtain ⟨locs, Y, eT, N, hn, hx, hby, hml, hown, hZ, hlk⟩ := X
  obtain ⟨fs, hr, hrun, hended, hW, hsame⟩ := Y.leave (v := (some (.long z))) (fun q => by rw [hret] at q; cases q) hlk
  have eF : (T.setFrames fs).heap = h := eT
  exact ⟨_, _, retOut Y hx hret rfl (Or.inr (Or.inl ⟨rfl, rfl, z, rfl⟩)) (hb hby d.1) hr, fin _ _ ⟨hrun, hended, _, _, rfl, ⟨N, by rw [eF]; exact hn, by rw [eF]; exact hP⟩, ⟨_, rfl⟩, hW, hsame.mono hc hs⟩⟩
theorem own_retI (X : own_St p l e R s m args below meth c Z n0 bs maxL own T h cells slots) {z : Int32} (hret : meth.sig.returnType = some .int) {P : Option Value → Heap → Prop} (fin : ∀ U o, own_G s below n0 R P U o → A U o) (hc : cells ≤ R.cells) (hs : slots ≤ R.slots) (hP : P (some (.int z)) h) (d : own_ix bs pc .ireturn 1 pc') : own_Wins p e below A T (mkF m pc L (.int z :: st)) := by
  obtain ⟨locs, Y, eT, N, hn, hx, hby, hml, hown, hZ, hlk⟩ := X
  obtain ⟨fs, hr, hrun, hended, hW, hsame⟩ := Y.leave (v := (some (.int z))) (fun q => by rw [hret] at q; cases q) hlk
  have eF : (T.setFrames fs).heap = h := eT
  exact ⟨_, _, retOut Y hx hret rfl (Or.inl ⟨rfl, Or.inl rfl, z, rfl⟩) (hb hby d.1) hr, fin _ _ ⟨hrun, hended, _, _, rfl, ⟨N, by rw [eF]; exact hn, by rw [eF]; exact hP⟩, ⟨_, rfl⟩, hW, hsame.mono hc hs⟩⟩
theorem own_retZ (X : own_St p l e R s m args below meth c Z n0 bs maxL own T h cells slots) {z : Int32} (hret : meth.sig.returnType = some .boolean) (hz : narrow .boolean (.int z) = .int z) {P : Option Value → Heap → Prop} (fin : ∀ U o, own_G s below n0 R P U o → A U o) (hc : cells ≤ R.cells) (hs : slots ≤ R.slots) (hP : P (some (.int z)) h) (d : own_ix bs pc .ireturn 1 pc') : own_Wins p e below A T (mkF m pc L (.int z :: st)) := by
  obtain ⟨locs, Y, eT, N, hn, hx, hby, hml, hown, hZ, hlk⟩ := X
  obtain ⟨fs, hr, hrun, hended, hW, hsame⟩ := Y.leave (v := (some (.int z))) (fun q => by rw [hret] at q; cases q) hlk
  have eF : (T.setFrames fs).heap = h := eT
  exact ⟨_, _, retOut Y hx hret hz (Or.inl ⟨rfl, Or.inr (Or.inl rfl), z, rfl⟩) (hb hby d.1) hr, fin _ _ ⟨hrun, hended, _, _, rfl, ⟨N, by rw [eF]; exact hn, by rw [eF]; exact hP⟩, ⟨_, rfl⟩, hW, hsame.mono hc hs⟩⟩
theorem own_retB (X : own_St p l e R s m args below meth c Z n0 bs maxL own T h cells slots) {z : Int32} (hret : meth.sig.returnType = some .byte) (hz : narrow .byte (.int z) = .int z) {P : Option Value → Heap → Prop} (fin : ∀ U o, own_G s below n0 R P U o → A U o) (hc : cells ≤ R.cells) (hs : slots ≤ R.slots) (hP : P (some (.int z)) h) (d : own_ix bs pc .ireturn 1 pc') : own_Wins p e below A T (mkF m pc L (.int z :: st)) := by
  obtain ⟨locs, Y, eT, N, hn, hx, hby, hml, hown, hZ, hlk⟩ := X
  obtain ⟨fs, hr, hrun, hended, hW, hsame⟩ := Y.leave (v := (some (.int z))) (fun q => by rw [hret] at q; cases q) hlk
  have eF : (T.setFrames fs).heap = h := eT
  exact ⟨_, _, retOut Y hx hret hz (Or.inl ⟨rfl, Or.inr (Or.inr (Or.inl rfl)), z, rfl⟩) (hb hby d.1) hr, fin _ _ ⟨hrun, hended, _, _, rfl, ⟨N, by rw [eF]; exact hn, by rw [eF]; exact hP⟩, ⟨_, rfl⟩, hW, hsame.mono hc hs⟩⟩
theorem own_retA (X : own_St p l e R s m args below meth c Z n0 bs maxL own T h cells slots) {z : Addr} {t : FieldType} (hret : meth.sig.returnType = some t) (ht : t.isReference = true) (hn' : narrow t (.ref z) = .ref z) {P : Option Value → Heap → Prop} (fin : ∀ U o, own_G s below n0 R P U o → A U o) (hc : cells ≤ R.cells) (hs : slots ≤ R.slots) (hP : P (some (.ref z)) h) (d : own_ix bs pc .areturn 1 pc') : own_Wins p e below A T (mkF m pc L (.ref z :: st)) := by
  obtain ⟨locs, Y, eT, N, hn, hx, hby, hml, hown, hZ, hlk⟩ := X
  obtain ⟨fs, hr, hrun, hended, hW, hsame⟩ := Y.leave (v := (some (.ref z))) (fun q => by rw [hret] at q; cases q) hlk
  have eF : (T.setFrames fs).heap = h := eT
  exact ⟨_, _, retOut Y hx hret hn' (Or.inr (Or.inr (Or.inr (Or.inr ⟨rfl, ht, rfl⟩)))) (hb hby d.1) hr, fin _ _ ⟨hrun, hended, _, _, rfl, ⟨N, by rw [eF]; exact hn, by rw [eF]; exact hP⟩, ⟨_, rfl⟩, hW, hsame.mono hc hs⟩⟩
theorem own_callS (X : own_St p l e R s m args below meth c Z n0 bs maxL own T h cells slots) {y : MethodName} {bs' : ByteArray} {maxL' : Nat} {ret' : Option FieldType} {rm : Room} {P : Option Value → Heap → Prop} {i : Nat} (argsL rest : List Value) {ps : List FieldType} {r : Option FieldType} (Wt : Nat) (hstk : st = argsL.reverse ++ rest) (w1 : (Jvm.Cond.methodLink own i y).before a0 Z = true) (w2 : (Jvm.Cond.static y).before a0 Z = true) (w3 : (Jvm.Cond.initialized y.cls).before a0 Z = true) (w4 : (Jvm.Cond.code y bs' maxL' ret').before a0 Z = true) (hy : y.cls ≠ "java/lang/invoke/MethodHandle" ∧ y.cls ≠ "java/lang/invoke/VarHandle")
    (C : own_Con l Z n0 y bs' maxL' ret' rm [] argsL.toArray h P) (d : own_ix bs pc (.invokestatic i) 3 pc') (hlen : parseMethodDescriptor y.desc = some ⟨ps, r⟩) (hl2 : argsL.length = ps.length) (hsz : L.size = maxL) (hW : 2 * 0 + (rest.map fun v => v.category).sum ≤ Wt) (hf : rm.frames + 1 ≤ R.frames) (hl : Wt + (maxL' + 11) + rm.locals ≤ R.locals) (hc : cells + rm.cells ≤ R.cells) (hs : slots + rm.slots ≤ R.slots)
    (kk : ∀ T' h' v, own_St p l e R s m args below meth c Z n0 bs maxL own T' h' (cells + rm.cells) (slots + rm.slots) → P v h' → own_Wins p e below A T' (mkF m pc' L (v.toList ++ rest))) : own_Wins p e below A T (mkF m pc L st) := by
  obtain ⟨locs, Y, eT, N, hn, hx, hby, hml, hown, hZ, hlk⟩ := X
  obtain ⟨d, rfl⟩ := d
  obtain ⟨v, _, ⟨T1, L1, k1, n1⟩, -, X1, ⟨Lc, hQ, l1, y1, z1⟩, st1⟩ := Jvm.LawKit.callS Y hx (y := y) hown (mvT hZ w1) (mvT hZ w2) (mvT hZ w3) (mvT hZ w4) hy (backOf (W := Wt) (bytes := bs') (maxL := maxL') (rm := rm) (Q := fun v h' L => Fr n0 L ∧ n0 ≤ h'.size ∧ P v h') C hZ w4 w3 hf hl) (g := mkF m pc L st) rfl (by rw [hml]; exact hsz) (argsL := argsL) (rest := rest) (lenOf hlen hl2) hstk hW (hb hby d) (fun _ _ => ⟨rfl, eT, hc, hs⟩)
  dsimp only [Pt.U, Pt.locs, Pt.cells, Pt.slots] at X1 l1 y1 z1 st1 hQ
  subst l1 y1 z1
  obtain ⟨N1, n1, hP⟩ := hQ
  exact own_by st1 (kk T1 _ v ⟨_, X1, rfl, Fr.app N N1, n1, hx, hby, hml, hown, hZ, hlk⟩ hP)
theorem own_callI (X : own_St p l e R s m args below meth c Z n0 bs maxL own T h cells slots) {y : MethodName} {bs' : ByteArray} {maxL' : Nat} {rm : Room} {P : Option Value → Heap → Prop} {i : Nat} (argsL rest : List Value) {ps : List FieldType} {r : Option FieldType} (Wt : Nat) {a : Addr} (hstk : st = argsL.reverse ++ .ref a :: rest) (hy1 : y.name = "<init>") (w1 : (Jvm.Cond.methodLink own i y).before a0 Z = true) (w2 : (Jvm.Cond.instanceMethod y).before a0 Z = true) (w3 : (Jvm.Cond.initialized y.cls).before a0 Z = true) (w4 : (Jvm.Cond.code y bs' maxL' none).before a0 Z = true) (hy : y.cls ≠ "java/lang/invoke/MethodHandle" ∧ y.cls ≠ "java/lang/invoke/VarHandle")
    (C : own_Con l Z n0 y bs' maxL' none rm [] (.ref a :: argsL).toArray h P) (d : own_ix bs pc (.invokespecial i) 3 pc') (hlen : parseMethodDescriptor y.desc = some ⟨ps, r⟩) (hl2 : argsL.length = ps.length) (hsz : L.size = maxL) (hW : 2 * 0 + (rest.map fun v => v.category).sum ≤ Wt) (hf : rm.frames + 1 ≤ R.frames) (hl : Wt + (maxL' + 11) + rm.locals ≤ R.locals) (hc : cells + rm.cells ≤ R.cells) (hs : slots + rm.slots ≤ R.slots)
    (kk : ∀ T' h' v, own_St p l e R s m args below meth c Z n0 bs maxL own T' h' (cells + rm.cells) (slots + rm.slots) → P v h' → own_Wins p e below A T' (mkF m pc' L (v.toList ++ rest))) : own_Wins p e below A T (mkF m pc L st) := by
  obtain ⟨locs, Y, eT, N, hn, hx, hby, hml, hown, hZ, hlk⟩ := X
  obtain ⟨d, rfl⟩ := d
  obtain ⟨v, _, ⟨T1, L1, k1, n1⟩, -, X1, ⟨Lc, hQ, l1, y1, z1⟩, st1⟩ := Y.specialBack hx (y := y) hy1 hown (mvT hZ w1) (mvT hZ w2) (mvT hZ w4) hy (backOf (W := Wt) (bytes := bs') (maxL := maxL') (rm := rm) (Q := fun v h' L => Fr n0 L ∧ n0 ≤ h'.size ∧ P v h') C hZ w4 w3 hf hl) (g := mkF m pc L st) rfl (by rw [hml]; exact hsz) (Steps.refl _) (a := a) (argsL := argsL) (rest := rest) (lenOf hlen hl2) hstk hW (hb hby d) (fun _ _ => ⟨rfl, eT, hc, hs⟩)
  dsimp only [Pt.U, Pt.locs, Pt.cells, Pt.slots] at X1 l1 y1 z1 st1 hQ
  subst l1 y1 z1
  obtain ⟨N1, n1, hP⟩ := hQ
  exact own_by (fun _ q => st1.trans q) (kk T1 _ v ⟨_, X1, rfl, Fr.app N N1, n1, hx, hby, hml, hown, hZ, hlk⟩ hP)
theorem own_callV (X : own_St p l e R s m args below meth c Z n0 bs maxL own T h cells slots) {y : MethodName} {bs' : ByteArray} {maxL' : Nat} {ret' : Option FieldType} {rm : Room} {P : Option Value → Heap → Prop} {i : Nat} (argsL rest : List Value) {ps : List FieldType} {r : Option FieldType} (Wt : Nat) {a : Addr} (hstk : st = argsL.reverse ++ .ref a :: rest) (w1 : (Jvm.Cond.methodLink own i y).before a0 Z = true) (w2 : (Jvm.Cond.declares y).before a0 Z = true) (w5 : (Jvm.Cond.selects y.cls y y).before a0 Z = true) (w6 : (Jvm.Cond.instanceMethod y).before a0 Z = true) (w3 : (Jvm.Cond.initialized y.cls).before a0 Z = true) (w4 : (Jvm.Cond.code y bs' maxL' ret').before a0 Z = true) (hy : y.cls ≠ "java/lang/invoke/MethodHandle" ∧ y.cls ≠ "java/lang/invoke/VarHandle") (E : Exa Z h a y.cls)
    (C : own_Con l Z n0 y bs' maxL' ret' rm [] (.ref a :: argsL).toArray h P) (d : own_ix bs pc (.invokevirtual i) 3 pc') (hlen : parseMethodDescriptor y.desc = some ⟨ps, r⟩) (hl2 : argsL.length = ps.length) (hsz : L.size = maxL) (hW : 2 * 0 + (rest.map fun v => v.category).sum ≤ Wt) (hf : rm.frames + 1 ≤ R.frames) (hl : Wt + (maxL' + 11) + rm.locals ≤ R.locals) (hc : cells + rm.cells ≤ R.cells) (hs : slots + rm.slots ≤ R.slots)
    (kk : ∀ T' h' v, own_St p l e R s m args below meth c Z n0 bs maxL own T' h' (cells + rm.cells) (slots + rm.slots) → P v h' → own_Wins p e below A T' (mkF m pc' L (v.toList ++ rest))) : own_Wins p e below A T (mkF m pc L st) := by
  obtain ⟨locs, Y, eT, N, hn, hx, hby, hml, hown, hZ, hlk⟩ := X
  obtain ⟨d, rfl⟩ := d
  obtain ⟨cq, kq, qa, qb, qc⟩ := isOf hZ eT E
  obtain ⟨v, _, ⟨T1, L1, k1, n1⟩, -, X1, ⟨Lc, hQ, l1, y1, z1⟩, st1⟩ := Y.virtualBack hx (y := y) (z := y) hown (mvT hZ w1) (mvT hZ w2) (notFace_of_selects (args := #[]) (mvT hZ w5)) (mvT hZ w5) (mvT hZ w6) hy (backOf (W := Wt) (bytes := bs') (maxL := maxL') (rm := rm) (Q := fun v h' L => Fr n0 L ∧ n0 ≤ h'.size ∧ P v h') C hZ w4 w3 hf hl) qa qc (g := mkF m pc L st) rfl (by rw [hml]; exact hsz) (Steps.refl _) (argsL := argsL) (rest := rest) (lenOf hlen hl2) hstk hW (hb hby d) (fun _ _ => ⟨rfl, eT, hc, hs⟩)
  dsimp only [Pt.U, Pt.locs, Pt.cells, Pt.slots] at X1 l1 y1 z1 st1 hQ
  subst l1 y1 z1
  obtain ⟨N1, n1, hP⟩ := hQ
  exact own_by (fun _ q => st1.trans q) (kk T1 _ v ⟨_, X1, rfl, Fr.app N N1, n1, hx, hby, hml, hown, hZ, hlk⟩ hP)
theorem own_callP (X : own_St p l e R s m args below meth c Z n0 bs maxL own T h cells slots) {y : MethodName} {bs' : ByteArray} {maxL' : Nat} {ret' : Option FieldType} {rm : Room} {P : Option Value → Heap → Prop} {i : Nat} (argsL rest : List Value) {ps : List FieldType} {r : Option FieldType} (Wt : Nat) {a : Addr} {kk' : Nat} (hstk : st = argsL.reverse ++ .ref a :: rest) (w1 : (Jvm.Cond.methodLink own i y).before a0 Z = true) (w2 : (Jvm.Cond.privateMethod y).before a0 Z = true) (w6 : (Jvm.Cond.instanceMethod y).before a0 Z = true) (w3 : (Jvm.Cond.initialized y.cls).before a0 Z = true) (w4 : (Jvm.Cond.code y bs' maxL' ret').before a0 Z = true) (wi : (Jvm.Cond.instantiable y.cls kk').before a0 Z = true) (hy : y.cls ≠ "java/lang/invoke/MethodHandle" ∧ y.cls ≠ "java/lang/invoke/VarHandle") (E : Exa Z h a y.cls)
    (C : own_Con l Z n0 y bs' maxL' ret' rm [] (.ref a :: argsL).toArray h P) (d : own_ix bs pc (.invokevirtual i) 3 pc') (hlen : parseMethodDescriptor y.desc = some ⟨ps, r⟩) (hl2 : argsL.length = ps.length) (hsz : L.size = maxL) (hW : 2 * 0 + (rest.map fun v => v.category).sum ≤ Wt) (hf : rm.frames + 1 ≤ R.frames) (hl : Wt + (maxL' + 11) + rm.locals ≤ R.locals) (hc : cells + rm.cells ≤ R.cells) (hs : slots + rm.slots ≤ R.slots)
    (kk : ∀ T' h' v, own_St p l e R s m args below meth c Z n0 bs maxL own T' h' (cells + rm.cells) (slots + rm.slots) → P v h' → own_Wins p e below A T' (mkF m pc' L (v.toList ++ rest))) : own_Wins p e below A T (mkF m pc L st) := by
  obtain ⟨locs, Y, eT, N, hn, hx, hby, hml, hown, hZ, hlk⟩ := X
  obtain ⟨d, rfl⟩ := d
  obtain ⟨cq, q1, q2⟩ := E.cell
  have hpr : s.PrivateAt y := Cond.privateMethod_at (mvP hZ w2 (args := #[]))
  obtain ⟨cI, kI, e1, e2, -, e3, -⟩ := Cond.instantiable_spec (mv (args := #[]) hZ wi)
  have hsel : (Jvm.Cond.selects y.cls y y).before args s = true := Jvm.Stand.selects_self_of_private e1 e2 (by cases hq : kI.isInterface <;> simp_all) hpr (mvT hZ w6) hy
  obtain ⟨v, _, ⟨T1, L1, k1, n1⟩, -, X1, ⟨Lc, hQ, l1, y1, z1⟩, st1⟩ := Y.privateBack hx (y := y) hown (mvT hZ w1) (mvT hZ w6) hsel hpr (mvT hZ w4) hy (backOf (W := Wt) (bytes := bs') (maxL := maxL') (rm := rm) (Q := fun v h' L => Fr n0 L ∧ n0 ≤ h'.size ∧ P v h') C hZ w4 w3 hf hl) (g := mkF m pc L st) rfl (by rw [hml]; exact hsz) (Steps.refl _) (a := a) (by rw [eT]; exact q1) q2 (argsL := argsL) (rest := rest) (lenOf hlen hl2) hstk hW (hb hby d) (fun _ _ => ⟨rfl, eT, hc, hs⟩)
  dsimp only [Pt.U, Pt.locs, Pt.cells, Pt.slots] at X1 l1 y1 z1 st1 hQ
  subst l1 y1 z1
  obtain ⟨N1, n1, hP⟩ := hQ
  exact own_by (fun _ q => st1.trans q) (kk T1 _ v ⟨_, X1, rfl, Fr.app N N1, n1, hx, hby, hml, hown, hZ, hlk⟩ hP)
end OwnLayer
theorem own_Lushr_bv (x : Int64) (q : Int32) (k : Nat) (hk : q.toBitVec.toNat % 64 = k) : (own_Lushr x q).toBitVec = x.toBitVec >>> k := by
  have h5 := (sm64 q k hk).2
  show x.toBitVec >>> ((q &&& 0x3f).toInt64.toBitVec % 64) = _
  rw [BitVec.ushiftRight_eq', BitVec.toNat_umod, (sm64 q k hk).1, BitVec.toNat_ofNat]
  congr 1
  show k % 2 ^ 64 % 64 = k
  omega
theorem own_Lshl_bv (x : Int64) (q : Int32) (k : Nat) (hk : q.toBitVec.toNat % 64 = k) : (own_Lshl x q).toBitVec = x.toBitVec <<< k := by
  show x.toBitVec <<< ((q &&& 0x3f).toInt64.toBitVec.smod 64) = _
  rw [BitVec.shiftLeft_eq', (sm64 q k hk).1, smod64 k (sm64 q k hk).2]
theorem own_Iushr_bv (x q : Int32) (k : Nat) (hk : q.toBitVec.toNat % 32 = k) : (own_Iushr x q).toBitVec = x.toBitVec >>> k := by
  have h1 : (q &&& 31).toBitVec.toNat = k := by
    show (q.toBitVec &&& (31 : Int32).toBitVec).toNat = _
    rw [BitVec.toNat_and, show (31 : Int32).toBitVec.toNat = 2 ^ 5 - 1 from by decide, Nat.and_two_pow_sub_one_eq_mod]; exact hk
  show x.toBitVec >>> ((q &&& 31).toBitVec % 32) = _
  rw [BitVec.ushiftRight_eq', BitVec.toNat_umod, h1]
  congr 1
  show k % 32 = k
  omega

theorem own_idx_iff {j : Int32} {k : Nat} : own_idx j k ↔ j.toInt = (k : Int) := by
  have h0 : (0 : Int32).toInt = 0 := by decide
  have h1 : j.toNatClampNeg = j.toInt.toNat := rfl
  rw [own_idx, Int32.lt_iff_toInt_lt, h0, h1]
  omega
theorem own_idx_nat {k : Nat} (h : k < 2147483648) : own_idx (Int32.ofNat k) k := own_idx_iff.mpr (Int32.toInt_ofNat_of_lt h)
theorem own_idx_add {a b : Int32} {m n : Nat} (ha : own_idx a m) (hb : own_idx b n) (h : m + n < 2147483648) : own_idx (a + b) (m + n) := by
  rw [own_idx_iff] at *
  have h1 := c_iadd a b
  have h2 := rng32 (a + b)
  omega
theorem own_idx_sub {a b : Int32} {m n : Nat} (ha : own_idx a m) (hb : own_idx b n) (h : n ≤ m) : own_idx (a - b) (m - n) := by
  rw [own_idx_iff] at *
  have h1 := c_isub a b
  have h2 := rng32 (a - b)
  have h3 := rng32 a
  omega
theorem own_idx_lt {a b : Int32} {m n : Nat} (ha : own_idx a m) (hb : own_idx b n) : a < b ↔ m < n := by
  rw [own_idx_iff] at *
  rw [Int32.lt_iff_toInt_lt]
  omega
theorem own_idx_eq {a b : Int32} {m n : Nat} (ha : own_idx a m) (hb : own_idx b n) : a = b ↔ m = n := by
  rw [own_idx_iff] at *
  rw [← Int32.toInt_inj]
  omega
theorem own_idx_range {a : Int32} {m : Nat} (ha : own_idx a m) : m < 2147483648 := by
  rw [own_idx_iff] at ha
  have := rng32 a
  omega
theorem own_idx_val {a : Int32} {m : Nat} (ha : own_idx a m) : a = Int32.ofNat m := (own_idx_eq ha (own_idx_nat (own_idx_range ha))).mpr rfl
theorem own_succ (i : Nat) : Int32.ofNat i + 1 = Int32.ofNat (i + 1) := by
  rw [Int32.ofNat_add]; rfl
theorem own_mod_idx (z : Int32) (d : Int32) (n : Nat) (hd : own_idx d n) (hn : 0 < n) : ∃ k, k < n ∧ own_idx ((z &&& 2147483647) % d) k := by
  have h1 := c_mask z 2147483647 31 (by decide) (by decide)
  have hd' := own_idx_iff.mp hd
  have h2 := (c_irem (z &&& 2147483647) d n hd').1 (by rw [h1]; omega)
  refine ⟨((z &&& 2147483647).toInt % (n : Int)).toNat, ?_, ?_⟩
  · have := Int.emod_lt_of_pos (z &&& 2147483647).toInt (show (0 : Int) < n by omega)
    have := Int.emod_nonneg (z &&& 2147483647).toInt (show (n : Int) ≠ 0 by omega)
    omega
  · rw [own_idx_iff, h2]
    have := Int.emod_nonneg (z &&& 2147483647).toInt (show (n : Int) ≠ 0 by omega)
    omega

/-- a byte out of a long's bits, as an int in 0 .. 255 and as a long -/
theorem own_bb (x : Int64) : ((x.toInt32.toInt8.toInt32) &&& 255).toInt64.toBitVec = x.toBitVec &&& 255#64 := by
  apply BitVec.eq_of_getLsbD_eq
  intro i hi
  simp only [Int32.toBitVec_toInt64, Int32.toBitVec_and, Int8.toBitVec_toInt32, Int32.toBitVec_toInt8, Int64.toBitVec_toInt32]
  have h255 : (255 : Int32).toBitVec = 255#32 := by decide
  rw [h255]
  simp only [BitVec.getLsbD_signExtend, BitVec.getLsbD_and, BitVec.msb_eq_getLsbD_last, BitVec.getLsbD_ofNat]
  have hm : ∀ j : Nat, Nat.testBit 255 j = decide (j < 8) := fun j => by
    rw [show (255 : Nat) = 2 ^ 8 - 1 by decide, Nat.testBit_two_pow_sub_one]
  simp only [hm]
  by_cases h8 : i < 8
  · simp [h8, show i < 32 by omega, show i < 64 by omega]
  · by_cases h32 : i < 32
    · simp [h8, h32]
    · simp [h8, h32]
theorem own_b8 (x : Int32) : x.toInt8.toInt32.toInt8.toInt32 = x.toInt8.toInt32 := by
  rw [Int8.toInt8_toInt32]
def own_be (f : Nat → Int32) : Nat → Int64
  | 0 => 0
  | i + 1 => own_Lshl (own_be f i) 8 ||| (f i &&& 255).toInt64
theorem own_glue (w : BitVec 64) : (w >>> 8) <<< 8 ||| (w &&& 255#64) = w := by
  apply BitVec.eq_of_getLsbD_eq
  intro i hi
  simp only [BitVec.getLsbD_or, BitVec.getLsbD_shiftLeft, BitVec.getLsbD_ushiftRight, BitVec.getLsbD_and, BitVec.getLsbD_ofNat]
  have hm : Nat.testBit 255 i = decide (i < 8) := by
    rw [show (255 : Nat) = 2 ^ 8 - 1 by decide, Nat.testBit_two_pow_sub_one]
  rw [hm]
  by_cases h8 : i < 8
  · simp [h8, hi]
  · simp [h8, hi, show 8 + (i - 8) = i by omega]
/-- eight bytes, big-endian, give back the long out of which they were taken -/
theorem own_be_bv (f : Nat → Int32) (x : Int64) (hf : ∀ i, i < 8 → f i = (Int64.ofBitVec (x.toBitVec >>> (56 - 8 * i))).toInt32.toInt8.toInt32) : ∀ i, i ≤ 8 → (own_be f i).toBitVec = x.toBitVec >>> (64 - 8 * i) := by
  intro i
  induction i with
  | zero => intro _; rw [own_be, BitVec.ushiftRight_eq_zero (by omega)]; rfl
  | succ i ih =>
    intro hi
    rw [own_be, Int64.toBitVec_or, own_Lshl_bv _ 8 8 (by decide), ih (by omega), hf i (by omega), own_bb]
    have e1 : x.toBitVec >>> (64 - 8 * i) = (x.toBitVec >>> (56 - 8 * i)) >>> 8 := by
      rw [← BitVec.shiftRight_add]; congr 1; omega
    rw [e1, show 64 - 8 * (i + 1) = 56 - 8 * i by omega]
    exact own_glue _
theorem own_be_eq (f : Nat → Int32) (x : Int64) (hf : ∀ i, i < 8 → f i = (Int64.ofBitVec (x.toBitVec >>> (56 - 8 * i))).toInt32.toInt8.toInt32) : own_be f 8 = x := by
  apply Int64.toBitVec_inj.mp
  rw [own_be_bv f x hf 8 (by omega)]
  simp
theorem own_sh (x : Int64) (q : Int32) (k : Nat) (hk : q.toBitVec.toNat % 64 = k) : own_Lushr x q = Int64.ofBitVec (x.toBitVec >>> k) := by
  apply Int64.toBitVec_inj.mp
  rw [own_Lushr_bv x q k hk, Int64.toBitVec_ofBitVec]

theorem own_idx_bv {j : Int32} {k : Nat} (h : own_idx j k) : j.toBitVec.toNat = k := by
  have h1 := own_idx_iff.mp h
  have h2 := own_idx_range h
  have h3 : j.toInt = j.toBitVec.toInt := rfl
  rw [h3, BitVec.toInt_eq_toNat_cond] at h1
  split at h1 <;> omega
theorem own_idx_sh {j : Int32} {k : Nat} (h : own_idx j k) (hk : k < 64) : j.toBitVec.toNat % 64 = k := by rw [own_idx_bv h]; omega
theorem own_not (x : Int64) : (x ^^^ (-1 : Int64)).toBitVec = ~~~ x.toBitVec := by
  rw [Int64.toBitVec_xor, show (-1 : Int64).toBitVec = BitVec.allOnes 64 by decide, BitVec.xor_allOnes]
/-- one bit of a long, as a long -/
theorem own_bit1 (x : Int64) (j : Int32) (k : Nat) (h : own_idx j k) (hk : k < 64) : (own_Lushr x j) &&& (1 : Int64) = if x.toBitVec.getLsbD k then 1 else 0 := by
  apply Int64.toBitVec_inj.mp
  rw [Int64.toBitVec_and, own_Lushr_bv x j k (own_idx_sh h hk), show (1 : Int64).toBitVec = 1#64 by decide]
  have e : (if x.toBitVec.getLsbD k then (1 : Int64) else 0).toBitVec = if x.toBitVec.getLsbD k then 1#64 else 0#64 := by split <;> rfl
  rw [e]
  apply BitVec.eq_of_getLsbD_eq
  intro i hi
  rw [BitVec.getLsbD_and, BitVec.getLsbD_ushiftRight, BitVec.getLsbD_one]
  by_cases h0 : i = 0
  · subst h0; cases hx : x.toBitVec.getLsbD k <;> simp [hx]
  · cases hx : x.toBitVec.getLsbD k <;> simp [h0]
theorem own_div64 {j : Int32} {k : Nat} (h : own_idx j k) : own_idx (j / (64 : Int32)) (k / 64) ∧ own_idx (j % (64 : Int32)) (k % 64) := by
  have h1 := own_idx_iff.mp h
  have h2 := (c_idiv j 64 64 (by decide) (by decide)).1 (by omega)
  have h3 := (c_irem j 64 64 (by decide)).1 (by omega)
  exact ⟨own_idx_iff.mpr (by omega), own_idx_iff.mpr (by omega)⟩
theorem own_and_idx (z m : Int32) (b : Nat) (hb : b ≤ 31) (hm : m.toBitVec.toNat = 2 ^ b - 1) : ∃ k, k < 2 ^ b ∧ own_idx (z &&& m) k := by
  have h1 := c_mask z m b hb hm
  have h2 : (0 : Int) < ((2 ^ b : Nat) : Int) := by have := Nat.two_pow_pos b; omega
  have h3 := Int.emod_nonneg z.toInt (show ((2 ^ b : Nat) : Int) ≠ 0 by omega)
  have h4 := Int.emod_lt_of_pos z.toInt h2
  exact ⟨(z &&& m).toInt.toNat, by omega, own_idx_iff.mpr (by omega)⟩
theorem own_ushr_idx {j q : Int32} {k : Nat} (n : Nat) (h : own_idx j k) (hq : q.toBitVec.toNat % 32 = n) (hn : 0 < n) : own_idx (own_Iushr j q) (k / 2 ^ n) := by
  have h1 := own_idx_iff.mp h
  have h2 := own_idx_range h
  have h3 := c_iushr j q n hq hn
  rw [own_idx_iff]
  show ((j.toUInt32 >>> (q &&& 31).toUInt32).toInt32).toInt = _
  rw [h3, h1, show (k : Int) % 4294967296 = (k : Int) by omega]
  exact (Int.natCast_ediv _ _).symm
theorem own_mul64 {j : Int32} {k : Nat} (h : own_idx j k) (hk : 64 * k < 2147483648) : own_idx (j * (64 : Int32)) (64 * k) := by
  rw [own_idx_iff] at *
  have h1 := c_imul j 64
  have h2 := rng32 (j * 64)
  have h3 : (64 : Int32).toInt = 64 := by decide
  rw [h3, h] at h1
  omega
def own_gT (v : Nat) : Nat := (v >>> 1) ^^^ (if v.testBit 0 then 299076299051606071403356588563077529600 else 0)
def own_gI : Nat → Nat → Nat
  | 0, v => v
  | n + 1, v => own_gT (own_gI n v)
def own_gS (x y : Nat) : Nat → Nat
  | 0 => 0
  | n + 1 => own_gS x y n ^^^ (if x.testBit (127 - n) then own_gI n y else 0)
def own_gM (x y : Nat) : Nat := own_gS x y 128
/-- the same as the machine reckons it: the product so far, y times a power -/
def own_gL (x : Nat) : Nat → Nat → Nat → Nat
  | 0, acc, _ => acc
  | n + 1, acc, v => own_gL x n (acc ^^^ (if x.testBit n then v else 0)) (own_gT v)
theorem own_gL_eq (x y : Nat) : ∀ n, n ≤ 128 → own_gL x n (own_gS x y (128 - n)) (own_gI (128 - n) y) = own_gM x y := by
  intro n
  induction n with
  | zero => intro _; rfl
  | succ n ih =>
    intro hn
    have e : 128 - n = (128 - (n + 1)) + 1 := by omega
    have e2 : 127 - (128 - (n + 1)) = n := by omega
    have := ih (by omega)
    rw [e, own_gS, own_gI, e2] at this
    rw [own_gL]
    exact this
theorem own_x4 (a b c d : Nat) : (a ^^^ b) ^^^ (c ^^^ d) = (a ^^^ c) ^^^ (b ^^^ d) := by
  rw [Nat.xor_assoc, ← Nat.xor_assoc b c d, Nat.xor_comm b c, Nat.xor_assoc c b d, ← Nat.xor_assoc]
theorem own_gT_add (a b : Nat) : own_gT (a ^^^ b) = own_gT a ^^^ own_gT b := by
  simp only [own_gT, Nat.shiftRight_xor_distrib, Nat.testBit_xor]
  rw [own_x4]
  congr 1
  cases a.testBit 0 <;> cases b.testBit 0 <;> simp
theorem own_gT_0 : own_gT 0 = 0 := by decide
theorem own_gT_lt (a : Nat) (h : a < 2 ^ 128) : own_gT a < 2 ^ 128 := by
  refine Nat.xor_lt_two_pow ?_ ?_
  · rw [Nat.shiftRight_eq_div_pow]; omega
  · split <;> decide
theorem own_gI_lt (n a : Nat) (h : a < 2 ^ 128) : own_gI n a < 2 ^ 128 := by
  induction n with
  | zero => exact h
  | succ n ih => exact own_gT_lt _ ih
theorem own_gI_add (n a b : Nat) : own_gI n (a ^^^ b) = own_gI n a ^^^ own_gI n b := by
  induction n with
  | zero => rfl
  | succ n ih => rw [own_gI, ih, own_gT_add]; rfl
theorem own_gI_0 (n : Nat) : own_gI n 0 = 0 := by
  induction n with
  | zero => rfl
  | succ n ih => rw [own_gI, ih, own_gT_0]
theorem own_gI_T (n a : Nat) : own_gI n (own_gT a) = own_gT (own_gI n a) := by
  induction n with
  | zero => rfl
  | succ n ih => rw [own_gI, ih]; rfl
theorem own_gS_lt (x y n : Nat) (h : y < 2 ^ 128) : own_gS x y n < 2 ^ 128 := by
  induction n with
  | zero => exact (by decide : (0 : Nat) < 2 ^ 128)
  | succ n ih =>
    refine Nat.xor_lt_two_pow ih ?_
    split
    · exact own_gI_lt n y h
    · decide
/-- an additive map that bears with T goes through a product -/
theorem own_gS_map (f : Nat → Nat) (f0 : f 0 = 0) (fa : ∀ a b, f (a ^^^ b) = f a ^^^ f b) (x y : Nat) (g : Nat → Nat) (fT : ∀ n, f (own_gI n y) = g n) : ∀ n, f (own_gS x y n) = (n.fold (fun i _ r => r ^^^ (if x.testBit (127 - i) then g i else 0)) 0) := by
  intro n
  induction n with
  | zero => exact f0
  | succ n ih =>
    rw [own_gS, fa, ih, Nat.fold_succ]
    congr 1
    split
    · exact fT n
    · exact f0
theorem own_gS_fold (x y : Nat) : ∀ n, own_gS x y n = (n.fold (fun i _ r => r ^^^ (if x.testBit (127 - i) then own_gI i y else 0)) 0) := own_gS_map id rfl (fun _ _ => rfl) x y _ (fun _ => rfl)
theorem own_gS_addY (x a b n : Nat) : own_gS x (a ^^^ b) n = own_gS x a n ^^^ own_gS x b n := by
  induction n with
  | zero => simp [own_gS]
  | succ n ih =>
    simp only [own_gS, ih, own_gI_add]
    rw [own_x4]
    congr 1
    split <;> simp
theorem own_gS_addX (a b y n : Nat) : own_gS (a ^^^ b) y n = own_gS a y n ^^^ own_gS b y n := by
  induction n with
  | zero => simp [own_gS]
  | succ n ih =>
    simp only [own_gS, ih, Nat.testBit_xor]
    rw [own_x4]
    congr 1
    cases a.testBit (127 - n) <;> cases b.testBit (127 - n) <;> simp
theorem own_gS_0Y (x n : Nat) : own_gS x 0 n = 0 := by
  induction n with
  | zero => rfl
  | succ n ih => rw [own_gS, ih, own_gI_0]; simp
theorem own_gS_0X (y n : Nat) : own_gS 0 y n = 0 := by
  induction n with
  | zero => rfl
  | succ n ih => rw [own_gS, ih]; simp
theorem own_gS_T (x y n : Nat) : own_gS x (own_gT y) n = own_gT (own_gS x y n) := by
  induction n with
  | zero => exact own_gT_0.symm
  | succ n ih =>
    rw [own_gS, own_gS, ih, own_gT_add]
    congr 1
    split
    · exact own_gI_T n y
    · exact own_gT_0.symm
theorem own_gS_I (x y n k : Nat) : own_gS x (own_gI k y) n = own_gI k (own_gS x y n) := by
  induction k with
  | zero => rfl
  | succ k ih => rw [own_gI, own_gS_T, ih]; rfl
/-- two products over one third factor change places -/
theorem own_gM_swap (x y z : Nat) : own_gM x (own_gM y z) = own_gM y (own_gM x z) := by
  unfold own_gM
  rw [own_gS_map (fun w => own_gS x w 128) (own_gS_0Y x 128) (fun a b => own_gS_addY x a b 128) y z _ (fun n => own_gS_I x z 128 n), own_gS_fold y]
/-- the unit: the block whose first bit alone is set -/
def own_g1 : Nat := 170141183460469231731687303715884105728
theorem own_gI_1 : ∀ i, i < 128 → own_gI i own_g1 = 2 ^ (127 - i) := by
  have h : (List.range 128).all (fun i => own_gI i own_g1 == 2 ^ (127 - i)) = true := by decide +kernel
  intro i hi
  have := List.all_eq_true.mp h i (List.mem_range.mpr hi)
  exact eq_of_beq this
theorem own_gS_1 (y : Nat) : ∀ n, n ≤ 128 → ∀ j, (own_gS y own_g1 n).testBit j = (decide (128 - n ≤ j ∧ j < 128) && y.testBit j) := by
  intro n
  induction n with
  | zero => intro _ j; simp [own_gS]; omega
  | succ n ih =>
    intro hn j
    rw [own_gS, Nat.testBit_xor, ih (by omega), own_gI_1 n (by omega)]
    by_cases hj : j = 127 - n
    · subst hj
      cases y.testBit (127 - n) <;> simp [Nat.testBit_two_pow] <;> omega
    · have h1 : (if y.testBit (127 - n) = true then 2 ^ (127 - n) else 0).testBit j = false := by
        split
        · simp [Nat.testBit_two_pow]; omega
        · simp
      rw [h1, Bool.xor_false]
      congr 1
      rw [decide_eq_decide]
      omega
theorem own_gM_1 (y : Nat) (hy : y < 2 ^ 128) : own_gM y own_g1 = y := by
  apply Nat.eq_of_testBit_eq
  intro j
  rw [own_gM, own_gS_1 y 128 (by omega) j]
  by_cases hj : j < 128
  · simp [hj]
  · have : y.testBit j = false := Nat.testBit_lt_two_pow (Nat.lt_of_lt_of_le hy (Nat.pow_le_pow_right (by decide) (by omega)))
    simp [this]
theorem own_gM_lt (x y : Nat) (h : y < 2 ^ 128) : own_gM x y < 2 ^ 128 := own_gS_lt x y 128 h
theorem own_g1_lt : own_g1 < 2 ^ 128 := by decide
theorem own_gM_comm (x y : Nat) (hx : x < 2 ^ 128) (hy : y < 2 ^ 128) : own_gM x y = own_gM y x := by
  have h1 : own_gM x y = own_gM x (own_gM y own_g1) := by rw [own_gM_1 y hy]
  rw [h1, own_gM_swap, own_gM_1 x hx]
theorem own_gM_assoc (x y z : Nat) (hx : x < 2 ^ 128) (hy : y < 2 ^ 128) (hz : z < 2 ^ 128) : own_gM (own_gM x y) z = own_gM x (own_gM y z) := by
  rw [own_gM_comm (own_gM x y) z (own_gM_lt x y hy) hz, own_gM_swap, own_gM_comm z y hz hy]
theorem own_gM_addY (x a b : Nat) : own_gM x (a ^^^ b) = own_gM x a ^^^ own_gM x b := own_gS_addY x a b 128
theorem own_gM_addX (a b y : Nat) : own_gM (a ^^^ b) y = own_gM a y ^^^ own_gM b y := own_gS_addX a b y 128
/-- an additive map is known by what it makes of the unit's shifts -/
theorem own_g_lin (f g : Nat → Nat) (f0 : f 0 = 0) (g0 : g 0 = 0) (fa : ∀ a b, f (a ^^^ b) = f a ^^^ f b) (ga : ∀ a b, g (a ^^^ b) = g a ^^^ g b) (h : ∀ i, i < 128 → f (2 ^ i) = g (2 ^ i)) (y : Nat) (hy : y < 2 ^ 128) : f y = g y := by
  have key : ∀ n, n ≤ 128 → f (own_gS y own_g1 n) = g (own_gS y own_g1 n) := by
    intro n
    induction n with
    | zero => intro _; exact f0.trans g0.symm
    | succ n ih =>
      intro hn
      rw [own_gS, fa, ga, ih (by omega), own_gI_1 n (by omega)]
      congr 1
      split
      · exact h _ (by omega)
      · exact f0.trans g0.symm
  have := key 128 (by omega)
  have e : own_gS y own_g1 128 = y := own_gM_1 y hy
  rwa [e] at this
/-! squares -/
def own_gQ (x : Nat) : Nat := own_gM x x
def own_gF : Nat → Nat → Nat
  | 0, x => x
  | n + 1, x => own_gQ (own_gF n x)
theorem own_gQ_lt (x : Nat) (h : x < 2 ^ 128) : own_gQ x < 2 ^ 128 := own_gM_lt x x h
theorem own_gF_lt (n x : Nat) (h : x < 2 ^ 128) : own_gF n x < 2 ^ 128 := by
  induction n with
  | zero => exact h
  | succ n ih => exact own_gQ_lt _ ih
theorem own_xor_lt {a b : Nat} (ha : a < 2 ^ 128) (hb : b < 2 ^ 128) : a ^^^ b < 2 ^ 128 := Nat.xor_lt_two_pow ha hb
theorem own_gQ_add (a b : Nat) (ha : a < 2 ^ 128) (hb : b < 2 ^ 128) : own_gQ (a ^^^ b) = own_gQ a ^^^ own_gQ b := by
  simp only [own_gQ, own_gM_addY, own_gM_addX]
  rw [own_gM_comm b a hb ha, own_x4, Nat.xor_comm (own_gM a b), ← own_x4, Nat.xor_self]
  simp
theorem own_gQ_mul (a b : Nat) (ha : a < 2 ^ 128) (hb : b < 2 ^ 128) : own_gQ (own_gM a b) = own_gM (own_gQ a) (own_gQ b) := by
  have hab := own_gM_lt a b hb
  simp only [own_gQ]
  rw [own_gM_assoc a b _ ha hb hab, own_gM_swap b a b, ← own_gM_assoc a a _ ha ha (own_gM_lt b b hb)]
theorem own_gF_mul (n a b : Nat) (ha : a < 2 ^ 128) (hb : b < 2 ^ 128) : own_gF n (own_gM a b) = own_gM (own_gF n a) (own_gF n b) := by
  induction n with
  | zero => rfl
  | succ n ih => rw [own_gF, ih, own_gQ_mul _ _ (own_gF_lt n a ha) (own_gF_lt n b hb)]; rfl
theorem own_gF_add (n a b : Nat) (ha : a < 2 ^ 128) (hb : b < 2 ^ 128) : own_gF n (a ^^^ b) = own_gF n a ^^^ own_gF n b := by
  induction n with
  | zero => rfl
  | succ n ih => rw [own_gF, ih, own_gQ_add _ _ (own_gF_lt n a ha) (own_gF_lt n b hb)]; rfl
theorem own_gQ_0 : own_gQ 0 = 0 := own_gS_0X 0 128
theorem own_gF_0 (n : Nat) : own_gF n 0 = 0 := by
  induction n with
  | zero => rfl
  | succ n ih => rw [own_gF, ih, own_gQ_0]
/-- the product as the machine reckons it, for reckoning -/
theorem own_gM_L (x y : Nat) : own_gM x y = own_gL x 128 0 y := (own_gL_eq x y 128 (by omega)).symm
def own_gFL : Nat → Nat → Nat
  | 0, x => x
  | n + 1, x => own_gL (own_gFL n x) 128 0 (own_gFL n x)
theorem own_gFL_eq (n x : Nat) : own_gFL n x = own_gF n x := by
  induction n with
  | zero => rfl
  | succ n ih => rw [own_gFL, ih, ← own_gM_L]; rfl
/-- x (the block whose second bit alone is set), squared 128 times, is x -/
theorem own_gX : own_gF 128 85070591730234615865843651857942052864 = 85070591730234615865843651857942052864 := by
  rw [← own_gFL_eq]
  decide +kernel
theorem own_gX_T (y : Nat) : own_gM 85070591730234615865843651857942052864 y = own_gT y := by
  have key : ∀ n, 2 ≤ n → n ≤ 128 → own_gS 85070591730234615865843651857942052864 y n = own_gT y := by
    intro n h2
    induction n with
    | zero => omega
    | succ n ih =>
      intro hn
      by_cases h : n = 1
      · subst h
        simp [own_gS, own_gI, show Nat.testBit 85070591730234615865843651857942052864 127 = false by decide, show Nat.testBit 85070591730234615865843651857942052864 126 = true by decide]
      · rw [own_gS, ih (by omega) (by omega)]
        have : Nat.testBit 85070591730234615865843651857942052864 (127 - n) = false := by
          rw [show (85070591730234615865843651857942052864 : Nat) = 2 ^ 126 by decide, Nat.testBit_two_pow]; simp; omega
        rw [this]; simp
  exact key 128 (by omega) (by omega)
theorem own_gF_fix2 : ∀ i, i < 128 → own_gF 128 (own_gI i own_g1) = own_gI i own_g1 := by
  intro i
  induction i with
  | zero =>
    intro _
    have : ∀ n, own_gF n own_g1 = own_g1 := by
      intro n
      induction n with
      | zero => rfl
      | succ n ih => rw [own_gF, ih]; exact own_gM_1 own_g1 own_g1_lt
    exact this 128
  | succ i ih =>
    intro hi
    rw [own_gI, ← own_gX_T, own_gF_mul 128 _ _ (by decide) (own_gI_lt i _ own_g1_lt), ih (by omega), own_gX]
theorem own_gF_fix (y : Nat) (hy : y < 2 ^ 128) : own_gF 128 y = y := by
  have key : ∀ n, n ≤ 128 → own_gF 128 (own_gS y own_g1 n) = own_gS y own_g1 n := by
    intro n
    induction n with
    | zero => intro _; exact own_gF_0 128
    | succ n ih =>
      intro hn
      rw [own_gS, own_gF_add 128 _ _ (own_gS_lt y _ n own_g1_lt) (by split; exact own_gI_lt n _ own_g1_lt; decide), ih (by omega)]
      congr 1
      split
      · exact own_gF_fix2 n (by omega)
      · exact own_gF_0 128
  have e : own_gS y own_g1 128 = y := own_gM_1 y hy
  have := key 128 (by omega)
  rwa [e] at this
/-! what is its own square is zero or the unit: a left inverse of 'square plus itself', given by its values on the basis -/
def own_gTab : List Nat := [0, 6161591008139076202154902373133594561, 71430717218983613641036104277415506289, 87518597585245962833849474628053070758, 72921817864677867521778898634038080609, 163309321578052146879237778733101511783, 126814247099887467207929949960147586332, 133487668004820722767044853458355047125, 108887185710678174598840578861931466132, 72978216601350599296199603180564021825, 126976600203468727039316187211004055892, 49689517519420395515082114066310337331, 12764899024296983899235621676887115841, 59792954277794326371429463258526948146, 275464514806027128612938827324864, 33882886127255646541338116557250298163, 133385434108064708788808215410435911893, 153238470225796905537047657204766862374, 127777348636302309636952298273557535380, 58594334107495617071392172125656399538, 5725366257701666555538562805218717057, 159324042485362592547018579093184240551, 149021274876537960721224429182834492454, 94333773739946854309780815578084996199, 161752945482599484730126084874801441767, 115575792119390728221592460023876181333, 133436244703473040169882794575366898389, 34751610155981195849944733847405496627, 100972845268357601278728964017462078439, 44935323831972008745566419208193456946, 132003651752985294974180122299820886164, 45594221442569777339127844318073854322, 100983558286137050684044238585428660711, 140308235276559149970208740923126577813, 92325303522414418149753570460923091879, 26944628100264108509229864938392397555, 81071795988965022717357904530596407232, 58275656592719279154056000246173111091, 51613027339492204128265575524803459891, 142140898696765075202304690604976981845, 53639910565545342273528145980335791795, 4726979706490419237355323591502507968, 161542955870533464563010084267448332775, 65334779303751560239471195525024588352, 122557457634345817322758110469731963540, 79569572988994598121356082874814992321, 9537274821874957483351388617584152641, 109427184872331881977228478262674814292, 96504253903287235160744645914913229863, 35809052500294759256374056413191545715, 63089105448741488643398279942380763954, 84108490886122099842324906724524496768, 161537358671016203777973217828391545831, 49921000058860506912943830473554996979, 113870918609522322281985099445019275925, 45994406431766860863727072382817147250, 6116654749483988959971426010360459777, 88394181539591460295416373139500891046, 93226277353508642900164249188457535015, 123506241354959402090274531190302866772, 72992884249465865451566362034747193217, 123492369307601207700488716387690115284, 67288019353279926038130604499846823936, 96617416833907240315124182200439430055, 6161591008139076220601646446843146177, 87518597585245962796955986480633967526, 163309321578052146805450802438263305319, 133487668004820722619470900868678634197, 72978216601350599591347508359916847681, 49689517519420396105377924425015989043, 59792954277794325190837842541115644722, 33882886127255648902521357992072905011, 153238470225796900814681174335121648678, 58594334107495626516125137864946826930, 159324042485362573657552647614603385767, 94333773739946892088712678535246705767, 115575792119390803779456185938199600469, 34751610155981346965672185676052334899, 44935323831971706514111515550899780402, 45594221442570381802037651632661207410, 140308235276560358896028355552301283989, 26944628100266526360869094196741809907, 58275656592714443450777541729474286387, 142140898696755403795747773571579332437, 4726979706471076424241489524707209152, 65334779303712874613243527391433990720, 79569572989071969373811419141996187585, 109427184872177139472317805728312423764, 35809052500604244266195401481916326771, 84108490886741069861967596861974058880, 49921000057622566873658450198655872755, 45994406429290980785156311833018898802, 88394181544543220452557894239097387942, 123506241345055881775991488991109872980, 123492369287794167071922631989304127700, 96617416873521321572256350997211405223, 87518597506017800282691648887090017190, 133487668163277047647999576055766534869, 49689517202507746048320574050840187699, 33882886761080949016636058740424507699, 58594332839845026287895736368243621554, 94333771204645691632253875541840295015, 34751615226583747878589791662865156403, 45594211301365579976202439659035564402, 26944648382676130012539518143993095923, 142140858131936196492406925677076760405, 65334698174074460006561831602428846656, 109427022612900310258954414150302135636, 84108166368187411435240813705953482624, 45993757392183663931702745520977746290, 123504943270841248069084356367027567956, 96614820725092054158442085749046795175, 133492860460135582475628106552095754965, 33893271354798018671893119733082947891, 94354540392079830942767997527157175399, 45552672926497301355174195688401803634, 142223934881672753734463413618344281941, 109593176112373424743067390032837178708, 46326064391129892899928697286047832434, 95950206727199596221990182218906622887, 32564043359013102798989312672802603315, 42894216934927469609366581567841114482, 114910088095513088234682618273958557012, 85316382760920269238759725736663866279, 64161864867486123575827494532326627698, 127851678626037577171681551665634892711, 42781086895802961305837899807692839847, 22349210433241643211303706255459310228]
def own_gK (z : Nat) : Nat → Nat
  | 0 => 0
  | n + 1 => own_gK z n ^^^ (if z.testBit n then own_gTab.getD n 0 else 0)
theorem own_gK_add (a b n : Nat) : own_gK (a ^^^ b) n = own_gK a n ^^^ own_gK b n := by
  induction n with
  | zero => simp [own_gK]
  | succ n ih =>
    simp only [own_gK, ih, Nat.testBit_xor]
    rw [own_x4]
    congr 1
    cases a.testBit n <;> cases b.testBit n <;> simp
theorem own_gK_0 (n : Nat) : own_gK 0 n = 0 := by
  induction n with
  | zero => rfl
  | succ n ih => rw [own_gK, ih]; simp
theorem own_gK_basis : (List.range 128).all (fun j => own_gK (own_gL (2 ^ j) 128 0 (2 ^ j) ^^^ 2 ^ j) 128 == 2 ^ j ^^^ (if (2 ^ j).testBit 127 then own_g1 else 0)) = true := by decide +kernel
theorem own_gIdem (y : Nat) (hy : y < 2 ^ 128) (h : own_gQ y = y) : y = 0 ∨ y = own_g1 := by
  have key : ∀ n, n ≤ 128 → own_gK (own_gQ (own_gS y own_g1 n) ^^^ own_gS y own_g1 n) 128 = own_gS y own_g1 n ^^^ (if (own_gS y own_g1 n).testBit 127 then own_g1 else 0) := by
    intro n
    induction n with
    | zero => intro _; simp [own_gS, own_gQ_0, own_gK_0]
    | succ n ih =>
      intro hn
      have h1 := own_gS_lt y _ n own_g1_lt
      have h2 : (if y.testBit (127 - n) then own_gI n own_g1 else 0) < 2 ^ 128 := by split; exact own_gI_lt n _ own_g1_lt; decide
      have h3 : own_gK (own_gQ (if y.testBit (127 - n) then own_gI n own_g1 else 0) ^^^ (if y.testBit (127 - n) then own_gI n own_g1 else 0)) 128 = (if y.testBit (127 - n) then own_gI n own_g1 else 0) ^^^ (if (if y.testBit (127 - n) then own_gI n own_g1 else 0).testBit 127 then own_g1 else 0) := by
        split
        · rw [own_gI_1 n (by omega)]
          have := eq_of_beq (List.all_eq_true.mp own_gK_basis (127 - n) (List.mem_range.mpr (by omega)))
          rw [← own_gM_L] at this
          exact this
        · simp [own_gQ_0, own_gK_0]
      rw [own_gS, own_gQ_add _ _ h1 h2, own_x4, own_gK_add, ih (by omega), h3, own_x4]
      congr 1
      rw [Nat.testBit_xor]
      cases (own_gS y own_g1 n).testBit 127 <;> cases (if y.testBit (127 - n) then own_gI n own_g1 else 0).testBit 127 <;> simp
  have e : own_gS y own_g1 128 = y := own_gM_1 y hy
  have k := key 128 (by omega)
  rw [e, h, Nat.xor_self, own_gK_0] at k
  by_cases hb : y.testBit 127 = true
  · rw [if_pos hb] at k
    right
    have : y ^^^ own_g1 ^^^ own_g1 = 0 ^^^ own_g1 := by rw [← k]
    rw [Nat.xor_assoc, Nat.xor_self] at this
    simpa using this
  · rw [if_neg hb] at k
    left
    simpa using k.symm
/-! the inverse: the power 2^128 - 2 -/
def own_gP (x : Nat) : Nat → Nat
  | 0 => own_g1
  | k + 1 => own_gM (own_gQ (own_gP x k)) x
theorem own_gP_lt (x k : Nat) (hx : x < 2 ^ 128) : own_gP x k < 2 ^ 128 := by
  cases k with
  | zero => exact own_g1_lt
  | succ k => exact own_gM_lt _ _ hx
theorem own_gQ_1 : own_gQ own_g1 = own_g1 := own_gM_1 own_g1 own_g1_lt
theorem own_gP_1 (x : Nat) (hx : x < 2 ^ 128) : own_gP x 1 = x := by
  show own_gM (own_gQ own_g1) x = x
  rw [own_gQ_1, own_gM_comm _ _ own_g1_lt hx, own_gM_1 x hx]
theorem own_gP_join (x a b : Nat) (hx : x < 2 ^ 128) : own_gM (own_gF b (own_gP x a)) (own_gP x b) = own_gP x (a + b) := by
  induction b with
  | zero => exact own_gM_1 _ (own_gP_lt x a hx)
  | succ b ih =>
    show own_gM (own_gQ (own_gF b (own_gP x a))) (own_gM (own_gQ (own_gP x b)) x) = own_gM (own_gQ (own_gP x (a + b))) x
    have h1 := own_gF_lt b _ (own_gP_lt x a hx)
    rw [← own_gM_assoc _ _ _ (own_gQ_lt _ h1) (own_gQ_lt _ (own_gP_lt x b hx)) hx, ← own_gQ_mul _ _ h1 (own_gP_lt x b hx), ih]
theorem own_gP_x (x k : Nat) (hx : x < 2 ^ 128) : own_gM (own_gP x k) x = own_gF k x := by
  induction k with
  | zero => show own_gM own_g1 x = x; rw [own_gM_comm _ _ own_g1_lt hx, own_gM_1 x hx]
  | succ k ih =>
    show own_gM (own_gM (own_gQ (own_gP x k)) x) x = own_gQ (own_gF k x)
    rw [← ih, own_gQ_mul _ _ (own_gP_lt x k hx) hx, own_gM_assoc _ _ _ (own_gQ_lt _ (own_gP_lt x k hx)) hx hx]
    rfl
def own_gInv (x : Nat) : Nat := own_gQ (own_gP x 127)
theorem own_gInv_lt (x : Nat) (hx : x < 2 ^ 128) : own_gInv x < 2 ^ 128 := own_gQ_lt _ (own_gP_lt x 127 hx)
theorem own_gInv_mul (x : Nat) (hx : x < 2 ^ 128) (h0 : x ≠ 0) : own_gM (own_gInv x) x = own_g1 := by
  have e1 : own_gM (own_gInv x) x = own_gP x 128 := rfl
  have hlt := own_gP_lt x 128 hx
  have e2 : own_gM (own_gP x 128) x = x := by rw [own_gP_x x 128 hx, own_gF_fix x hx]
  have e3 : own_gQ (own_gP x 128) = own_gP x 128 := by
    show own_gM (own_gP x 128) (own_gP x 128) = own_gP x 128
    have h1 := own_gInv_lt x hx
    rw [← e1, own_gM_swap (own_gM (own_gInv x) x) (own_gInv x) x, e1, e2]
    exact e1
  rw [e1]
  rcases own_gIdem _ hlt e3 with h | h
  · exfalso
    rw [h, own_gM, own_gS_0X] at e2
    exact h0 e2.symm
  · exact h
theorem own_gQ_ne (x : Nat) (hx : x < 2 ^ 128) (h0 : x ≠ 0) : own_gQ x ≠ 0 := by
  intro h
  have h1 := own_gInv_mul x hx h0
  have h2 : own_gM (own_gInv x) (own_gQ x) = x := by
    show own_gM (own_gInv x) (own_gM x x) = x
    rw [← own_gM_assoc _ _ _ (own_gInv_lt x hx) hx hx, h1, own_gM_comm _ _ own_g1_lt hx, own_gM_1 x hx]
  rw [h, own_gM, own_gS_0Y] at h2
  exact h0 h2.symm
/-- dividing by the square, then multiplying twice -/
theorem own_gDiv (w x : Nat) (hw : w < 2 ^ 128) (hx : x < 2 ^ 128) (h0 : x ≠ 0) : own_gM (own_gM (own_gM w (own_gInv (own_gQ x))) x) x = w := by
  have hq := own_gQ_lt x hx
  have hi := own_gInv_lt _ hq
  rw [own_gM_assoc _ x x (own_gM_lt _ _ hi) hx hx, own_gM_assoc _ _ _ hw hi (own_gM_lt x x hx)]
  show own_gM w (own_gM (own_gInv (own_gQ x)) (own_gQ x)) = w
  rw [own_gInv_mul _ hq (own_gQ_ne x hx h0), own_gM_1 w hw]

/-- a block of two longs as a number -/
def own_pk (hi lo : Int64) : Nat := hi.toBitVec.toNat * 2 ^ 64 + lo.toBitVec.toNat
theorem own_pk_bit (hi lo : Int64) (j : Nat) : (own_pk hi lo).testBit j = if j < 64 then lo.toBitVec.getLsbD j else hi.toBitVec.getLsbD (j - 64) := by
  have h := lo.toBitVec.isLt
  rw [own_pk, Nat.mul_comm, Nat.testBit_two_pow_mul_add _ h]
  rfl
theorem own_pk_lt (hi lo : Int64) : own_pk hi lo < 2 ^ 128 := by
  have h1 := lo.toBitVec.isLt
  have h2 := hi.toBitVec.isLt
  unfold own_pk
  omega
theorem own_pk_inj {a b c d : Int64} (h : own_pk a b = own_pk c d) : a = c ∧ b = d := by
  have h1 := b.toBitVec.isLt
  have h2 := d.toBitVec.isLt
  unfold own_pk at h
  constructor
  · exact Int64.toBitVec_inj.mp (BitVec.eq_of_toNat_eq (by omega))
  · exact Int64.toBitVec_inj.mp (BitVec.eq_of_toNat_eq (by omega))
theorem own_pk_xor (a b c d : Int64) : own_pk (a ^^^ c) (b ^^^ d) = own_pk a b ^^^ own_pk c d := by
  apply Nat.eq_of_testBit_eq
  intro j
  rw [Nat.testBit_xor, own_pk_bit, own_pk_bit, own_pk_bit]
  split <;> simp [Int64.toBitVec_xor]
theorem own_pk_0 : own_pk 0 0 = 0 := by decide
/-- the mask of one bit: all ones, or zero -/
theorem own_take (x : Int64) (j : Int32) (k : Nat) (h : own_idx j k) (hk : k < 64) : -((own_Lushr x j) &&& (1 : Int64)) = if x.toBitVec.getLsbD k then -1 else 0 := by
  rw [own_bit1 x j k h hk]; split <;> rfl
theorem own_and_m (x : Int64) (b : Bool) : x &&& (if b then (-1 : Int64) else 0) = if b then x else 0 := by
  cases b
  · simp
  · apply Int64.toBitVec_inj.mp
    simp only [if_true, Int64.toBitVec_and]
    rw [show (-1 : Int64).toBitVec = BitVec.allOnes 64 by decide, BitVec.and_allOnes]
theorem own_add_step (ph pl vh vl bits : Int64) (j : Int32) (k : Nat) (h : own_idx j k) (hk : k < 64) :
    own_pk (ph ^^^ (vh &&& (-((own_Lushr bits j) &&& (1 : Int64))))) (pl ^^^ (vl &&& (-((own_Lushr bits j) &&& (1 : Int64))))) = own_pk ph pl ^^^ (if bits.toBitVec.toNat.testBit k then own_pk vh vl else 0) := by
  rw [own_take bits j k h hk, own_and_m, own_and_m, own_pk_xor]
  have e : bits.toBitVec.toNat.testBit k = bits.toBitVec.getLsbD k := rfl
  rw [e]
  cases bits.toBitVec.getLsbD k
  · simp [own_pk_0]
  · simp
theorem own_shift_step (vh vl : Int64) :
    own_pk ((own_Lushr vh 1) ^^^ ((-2233785415175766016 : Int64) &&& (-(vl &&& (1 : Int64))))) ((own_Lushr vl 1) ||| (own_Lshl vh 63)) = own_gT (own_pk vh vl) := by
  have e1 : -(vl &&& (1 : Int64)) = if vl.toBitVec.getLsbD 0 then -1 else 0 := by
    have := own_take vl 0 0 ⟨by decide, by decide⟩ (by decide)
    have e0 : own_Lushr vl 0 = vl := by
      apply Int64.toBitVec_inj.mp
      rw [own_Lushr_bv vl 0 0 (by decide)]; simp
    rwa [e0] at this
  rw [e1, own_and_m, own_gT]
  have eb : (own_pk vh vl).testBit 0 = vl.toBitVec.getLsbD 0 := by rw [own_pk_bit]; rfl
  rw [eb]
  apply Nat.eq_of_testBit_eq
  intro j
  rw [own_pk_bit, Nat.testBit_xor, Nat.testBit_shiftRight, own_pk_bit, Int64.toBitVec_or, Int64.toBitVec_xor, own_Lushr_bv vl 1 1 (by decide), own_Lushr_bv vh 1 1 (by decide), own_Lshl_bv vh 63 63 (by decide)]
  have hR : ∀ i, (if vl.toBitVec.getLsbD 0 = true then (299076299051606071403356588563077529600 : Nat) else 0).testBit i = if i < 64 then false else (if vl.toBitVec.getLsbD 0 = true then (-2233785415175766016 : Int64) else 0).toBitVec.getLsbD (i - 64) := by
    intro i
    have hp : (299076299051606071403356588563077529600 : Nat) = own_pk (-2233785415175766016) 0 := by decide
    cases vl.toBitVec.getLsbD 0
    · simp
    · simp only [if_true]; rw [hp, own_pk_bit]; split <;> simp
  rw [hR]
  by_cases h1 : j < 63
  · simp [h1, show j < 64 by omega, show 1 + j < 64 by omega, BitVec.getLsbD_shiftLeft, BitVec.getLsbD_ushiftRight]
  · by_cases h2 : j = 63
    · subst h2
      have : vl.toBitVec.getLsbD 64 = false := BitVec.getLsbD_of_ge _ _ (by omega)
      simp [BitVec.getLsbD_shiftLeft, BitVec.getLsbD_ushiftRight, this]
    · have e2 : 1 + j - 64 = 1 + (j - 64) := by omega
      simp [show ¬ j < 64 by omega, show ¬ 1 + j < 64 by omega, BitVec.getLsbD_ushiftRight, e2]
/-- the turns over one half of the first factor -/
def own_gW (b : Nat) : Nat → Nat × Nat → Nat × Nat
  | 0, s => s
  | n + 1, s => own_gW b n (s.1 ^^^ (if b.testBit n then s.2 else 0), own_gT s.2)
theorem own_gW_s (b n p q : Nat) : own_gW b (n + 1) (p, q) = own_gW b n (p ^^^ (if b.testBit n then q else 0), own_gT q) := rfl
theorem own_gW_lo (x : Nat) (hi lo : Int64) (hx : x = own_pk hi lo) : ∀ n acc v, n ≤ 64 → (own_gW lo.toBitVec.toNat n (acc, v)).1 = own_gL x n acc v := by
  intro n
  induction n with
  | zero => intros; rfl
  | succ n ih =>
    intro acc v hn
    rw [own_gW, own_gL, ih _ _ (by omega), hx, own_pk_bit, if_pos (show n < 64 by omega)]
    rfl
theorem own_gW_hi (x : Nat) (hi lo : Int64) (hx : x = own_pk hi lo) : ∀ n acc v, n ≤ 64 → own_gL x (64 + n) acc v = own_gL x 64 (own_gW hi.toBitVec.toNat n (acc, v)).1 (own_gW hi.toBitVec.toNat n (acc, v)).2 := by
  intro n
  induction n with
  | zero => intros; rfl
  | succ n ih =>
    intro acc v hn
    rw [show 64 + (n + 1) = (64 + n) + 1 by omega, own_gL, ih _ _ (by omega), hx, own_pk_bit, if_neg (show ¬ 64 + n < 64 by omega), show 64 + n - 64 = n by omega]
    rfl
theorem own_gW_mul (xh xl : Int64) (y : Nat) : (own_gW xl.toBitVec.toNat 64 (own_gW xh.toBitVec.toNat 64 (0, y))).1 = own_gM (own_pk xh xl) y := by
  rw [own_gM_L, show (128 : Nat) = 64 + 64 by decide, own_gW_hi _ xh xl rfl 64 0 y (by omega), ← own_gW_lo _ xh xl rfl 64 _ _ (by omega)]
/-- counting down -/
def own_dn (n : Nat) : Int32 := Int32.ofNat n + (-1 : Int32)
theorem own_dn_lt (n : Nat) (hn : n ≤ 64) : own_dn n < (0 : Int32) ↔ n = 0 := by
  have h1 := c_iadd (Int32.ofNat n) (-1)
  have h2 := rng32 (Int32.ofNat n + (-1))
  have h3 : (Int32.ofNat n).toInt = n := Int32.toInt_ofNat_of_lt (by omega)
  have h4 : (-1 : Int32).toInt = -1 := by decide
  rw [own_dn, Int32.lt_iff_toInt_lt, show (0 : Int32).toInt = 0 by decide]
  omega
theorem own_dn_idx (n : Nat) (hn : n < 64) : own_idx (own_dn (n + 1)) n := by
  have h1 := c_iadd (Int32.ofNat (n + 1)) (-1)
  have h2 := rng32 (Int32.ofNat (n + 1) + (-1))
  have h3 : (Int32.ofNat (n + 1)).toInt = (n + 1 : Nat) := Int32.toInt_ofNat_of_lt (by omega)
  have h4 : (-1 : Int32).toInt = -1 := by decide
  rw [own_dn, own_idx_iff]
  omega
theorem own_dn_succ (n : Nat) (hn : n < 64) : own_dn (n + 1) + (-1 : Int32) = own_dn n := by
  rw [own_dn, own_dn, ← own_succ n, Int32.add_assoc, Int32.add_assoc, ← Int32.add_assoc 1]
  rfl
def own_clean (a b : Slot) : Prop := (a = .unset ∧ b = .unset) ∨ ∃ w : Int64, a = .val (.long w) ∧ b = .second
/-- the i-th byte of a long, the highest first -/
def own_bt (x : Int64) (i : Nat) : Int32 := (Int64.ofBitVec (x.toBitVec >>> (56 - 8 * i))).toInt32.toInt8.toInt32
/-- a block's bytes -/
def own_b16 (hi lo : Int64) (j : Nat) : Value := if j < 8 then .int (own_bt hi j) else .int (own_bt lo (j - 8))
theorem own_bt8 (x : Int64) (q : Int32) (i : Nat) (hi : i < 8) (h : q.toBitVec.toNat % 64 = 56 - 8 * i) : (own_Lushr x q).toInt32.toInt8.toInt32.toInt8.toInt32 = own_bt x i := by
  rw [own_b8, own_sh x q _ h]; rfl
theorem own_bt7 (x : Int64) : x.toInt32.toInt8.toInt32.toInt8.toInt32 = own_bt x 7 := by
  rw [own_b8, own_bt]; simp
theorem own_b16_be (hi lo : Int64) : own_be (own_bt hi) 8 = hi ∧ own_be (own_bt lo) 8 = lo := ⟨own_be_eq _ hi (fun _ _ => rfl), own_be_eq _ lo (fun _ _ => rfl)⟩
/-- eight bytes put together by shifts -/
theorem own_get8 (x : Int64) : (((((((own_Lshl ((own_bt x 0 &&& 255).toInt64) 56) ||| (own_Lshl ((own_bt x 1 &&& 255).toInt64) 48)) ||| (own_Lshl ((own_bt x 2 &&& 255).toInt64) 40)) ||| (own_Lshl ((own_bt x 3 &&& 255).toInt64) 32)) ||| (own_Lshl ((own_bt x 4 &&& 255).toInt64) 24)) ||| (own_Lshl ((own_bt x 5 &&& 255).toInt64) 16)) ||| (own_Lshl ((own_bt x 6 &&& 255).toInt64) 8)) ||| (own_bt x 7 &&& 255).toInt64 = x := by
  have hb : ∀ i, ((own_bt x i &&& 255).toInt64).toBitVec = (x.toBitVec >>> (56 - 8 * i)) &&& 255#64 := fun i => own_bb _
  have step : ∀ s : Nat, (x.toBitVec >>> (s + 8)) <<< (s + 8) ||| ((x.toBitVec >>> s) &&& 255#64) <<< s = (x.toBitVec >>> s) <<< s := by
    intro s
    have g := own_glue (x.toBitVec >>> s)
    have := congrArg (fun z : BitVec 64 => z <<< s) g
    simp only [BitVec.shiftLeft_or_distrib] at this
    rw [← BitVec.shiftRight_add, ← BitVec.shiftLeft_add, Nat.add_comm 8 s] at this
    exact this
  apply Int64.toBitVec_inj.mp
  simp only [Int64.toBitVec_or, own_Lshl_bv _ 56 56 (by decide), own_Lshl_bv _ 48 48 (by decide), own_Lshl_bv _ 40 40 (by decide), own_Lshl_bv _ 32 32 (by decide), own_Lshl_bv _ 24 24 (by decide), own_Lshl_bv _ 16 16 (by decide), own_Lshl_bv _ 8 8 (by decide), hb]
  have s0 : ((x.toBitVec >>> (56 - 8 * 0)) &&& 255#64) <<< 56 = (x.toBitVec >>> 56) <<< 56 := by
    have := step 56
    rwa [show x.toBitVec >>> (56 + 8) = 0#64 from BitVec.eq_of_getLsbD_eq (fun i hi => by rw [BitVec.getLsbD_ushiftRight, BitVec.getLsbD_of_ge _ _ (by omega)]; simp), show (0#64 : BitVec 64) <<< (56 + 8) = 0#64 by decide, BitVec.zero_or] at this
  rw [s0, show 56 - 8 * 1 = 48 by decide, step 48, show 56 - 8 * 2 = 40 by decide, step 40, show 56 - 8 * 3 = 32 by decide, step 32, show 56 - 8 * 4 = 24 by decide, step 24, show 56 - 8 * 5 = 16 by decide, step 16, show 56 - 8 * 6 = 8 by decide, step 8]
  have := step 0
  simpa using this

def own_b16i (hi lo : Int64) (i j : Nat) : Value := if j < i then .int (own_bt hi j) else if 8 ≤ j ∧ j < i + 8 then .int (own_bt lo (j - 8)) else .int 0
theorem own_hsh (i : Nat) (h : i < 8) : ((56 : Int32) - ((8 : Int32) * (Int32.ofNat i))).toBitVec.toNat % 64 = 56 - 8 * i :=
  (by decide +kernel : ∀ i : Fin 8, ((56 : Int32) - ((8 : Int32) * (Int32.ofNat i.val))).toBitVec.toNat % 64 = 56 - 8 * i.val) ⟨i, h⟩
theorem own_z16d (j : Nat) : (List.replicate 16 (Value.int 0)).getD j (.int 0) = .int 0 := by
  rw [List.getD_eq_getElem?_getD]
  rcases h : (List.replicate 16 (Value.int 0))[j]? with _ | v
  · rfl
  · exact List.eq_of_mem_replicate (List.mem_of_getElem? h)
theorem own_b16i_0 (hi lo : Int64) (j : Nat) (hj : j < 16) : ([(.int (0 : Int32)), (.int (0 : Int32)), (.int (0 : Int32)), (.int (0 : Int32)), (.int (0 : Int32)), (.int (0 : Int32)), (.int (0 : Int32)), (.int (0 : Int32)), (.int (0 : Int32)), (.int (0 : Int32)), (.int (0 : Int32)), (.int (0 : Int32)), (.int (0 : Int32)), (.int (0 : Int32)), (.int (0 : Int32)), (.int (0 : Int32))] : List Value).getD j (.int 0) = own_b16i hi lo 0 j := by
  rw [own_b16i, if_neg (by omega), if_neg (by omega)]
  exact own_z16d j
theorem own_b16i_8 (hi lo : Int64) (j : Nat) (hj : j < 16) : own_b16i hi lo 8 j = own_b16 hi lo j := by
  simp only [own_b16i, own_b16]
  by_cases h : j < 8
  · rw [if_pos h, if_pos h]
  · rw [if_neg h, if_pos (by omega), if_neg h]
theorem own_b16i_up (hi lo : Int64) (i j : Nat) (hi8 : i < 8) (hj : j < 16) : own_up (own_up (own_b16i hi lo i) i (.int (own_bt hi i))) (i + 8) (.int (own_bt lo i)) j = own_b16i hi lo (i + 1) j := by
  simp only [own_up, own_b16i]
  by_cases h1 : j = i + 8
  · rw [if_pos h1, if_neg (by omega), if_pos (by omega), show j - 8 = i by omega]
  · rw [if_neg h1]
    by_cases h2 : j = i
    · rw [if_pos h2, if_pos (by omega), h2]
    · rw [if_neg h2]
      by_cases h3 : j < i
      · rw [if_pos h3, if_pos (by omega)]
      · rw [if_neg h3, if_neg (show ¬ j < i + 1 by omega)]
        by_cases h4 : 8 ≤ j ∧ j < i + 8
        · rw [if_pos h4, if_pos (by omega)]
        · rw [if_neg h4, if_neg (by omega)]

theorem own_gM_0 (y : Nat) : own_gM 0 y = 0 := own_gS_0X y 128
theorem own_gU : own_pk (-9223372036854775808) 0 = own_g1 := by decide
theorem own_g1M (y : Nat) (h : y < 2 ^ 128) : own_gM own_g1 y = y := by rw [own_gM_comm _ _ own_g1_lt h, own_gM_1 y h]

theorem own_mod2 {j : Int32} {k : Nat} (h : own_idx j k) : own_idx (j % (2 : Int32)) (k % 2) := by
  have h1 := own_idx_iff.mp h
  have h3 := (c_irem j 2 2 (by decide)).1 (by omega)
  exact own_idx_iff.mpr (by omega)

theorem own_nz1 (x : Int64) : own_pk (-9223372036854775808) x ≠ 0 := by
  have h : (-9223372036854775808 : Int64).toBitVec.toNat = 9223372036854775808 := by decide
  unfold own_pk; rw [h]; omega
theorem own_nz2 (x y : Int64) (h : ¬ (x ||| y) = (0 : Int64)) : own_pk x y ≠ 0 := by
  intro q
  have := own_pk_inj (q.trans own_pk_0.symm)
  apply h; rw [this.1, this.2]; rfl
/-- the two sums part by the wanted block -/
theorem own_law3 (H J iv LT L LL S1 S2 S3 F0 F1 R1 R2 R3 : Nat) (hH : H < 2 ^ 128) (hJ : J < 2 ^ 128) (hLT : LT < 2 ^ 128) (hnz : H ≠ 0)
    (hL : LT = own_gM L H) (hiv : iv = own_gM (J ^^^ LT) (own_gInv (own_gQ H)))
    (s1 : S1 = iv ^^^ LT) (s2 : S2 = own_gM S1 H ^^^ L ^^^ LT) (s3 : S3 = own_gM S2 H ^^^ 0 ^^^ LT) (f1 : F1 = S3 ^^^ LL)
    (r1 : R1 = 0 ^^^ LT) (r2 : R2 = own_gM R1 H ^^^ 0 ^^^ LT) (r3 : R3 = own_gM R2 H ^^^ 0 ^^^ LT) (f0 : F0 = R3 ^^^ LL) : F1 ^^^ F0 = J := by
  have hd := own_gDiv (J ^^^ LT) H (Nat.xor_lt_two_pow hJ hLT) hH hnz
  rw [← hiv] at hd
  have e1 : own_gM S1 H = own_gM iv H ^^^ own_gM LT H := by rw [s1, own_gM_addX]
  have e2 : own_gM S2 H = own_gM (own_gM iv H) H ^^^ own_gM (own_gM LT H) H ^^^ own_gM L H ^^^ own_gM LT H := by rw [s2, e1, own_gM_addX, own_gM_addX, own_gM_addX]
  have e3 : own_gM R2 H = own_gM (own_gM LT H) H ^^^ own_gM LT H := by rw [r2, r1, own_gM_addX, own_gM_addX]; simp [own_gM_0]
  rw [f1, f0, s3, r3, e2, e3, hd, ← hL]
  generalize own_gM (own_gM LT H) H = P
  generalize own_gM LT H = Q
  apply Nat.eq_of_testBit_eq
  intro j
  simp only [Nat.testBit_xor]
  generalize J.testBit j = b1; generalize LT.testBit j = b2; generalize P.testBit j = b3; generalize Q.testBit j = b4; generalize LL.testBit j = b5; generalize (0 : Nat).testBit j = b6
  cases b1 <;> cases b2 <;> cases b3 <;> cases b4 <;> cases b5 <;> cases b6 <;> rfl
def own_ns_Gh : List (String × String) := [("subkeyHigh", "J"), ("subkeyLow", "J"), ("ivLengthTerm", "[J"), ("ended", "Z"), ("length", "J"), ("sumHigh", "J"), ("sumLow", "J"), ("termLength", "J"), ("lengthTerm", "[J"), ("power", "[J"), ("inverseSquare", "[J")]
theorem own_laid_Gh {Z : State} {a0 : Array Value} (hw : ∀ d ∈ tables_1, d.before a0 Z = true) : own_Laid Z a0 "com/example/libcachet/libcachet/Ghash" own_ns_Gh := by
  refine ⟨?_, by decide +kernel⟩
  intro q hq
  simp only [own_ns_Gh, List.mem_cons, List.not_mem_nil, or_false] at hq
  rcases hq with rfl | rfl | rfl | rfl | rfl | rfl | rfl | rfl | rfl | rfl | rfl
  · exact ⟨Or.inr (hw _ (List.mem_of_getElem? (i := 19) rfl)), .long, by decide +kernel⟩
  · exact ⟨Or.inr (hw _ (List.mem_of_getElem? (i := 21) rfl)), .long, by decide +kernel⟩
  · exact ⟨Or.inr (hw _ (List.mem_of_getElem? (i := 29) rfl)), (.array .long), by decide +kernel⟩
  · exact ⟨Or.inl (hw _ (List.mem_of_getElem? (i := 50) rfl)), .boolean, by decide +kernel⟩
  · exact ⟨Or.inl (hw _ (List.mem_of_getElem? (i := 69) rfl)), .long, by decide +kernel⟩
  · exact ⟨Or.inl (hw _ (List.mem_of_getElem? (i := 65) rfl)), .long, by decide +kernel⟩
  · exact ⟨Or.inl (hw _ (List.mem_of_getElem? (i := 67) rfl)), .long, by decide +kernel⟩
  · exact ⟨Or.inl (hw _ (List.mem_of_getElem? (i := 52) rfl)), .long, by decide +kernel⟩
  · exact ⟨Or.inl (hw _ (List.mem_of_getElem? (i := 55) rfl)), (.array .long), by decide +kernel⟩
  · exact ⟨Or.inl (hw _ (List.mem_of_getElem? (i := 63) rfl)), (.array .long), by decide +kernel⟩
  · exact ⟨Or.inl (hw _ (List.mem_of_getElem? (i := 36) rfl)), (.array .long), by decide +kernel⟩
theorem own_d_prog_70_method_9_code_0 : own_lk prog_70_method_9_code 0 0 1 := ⟨0, by decide +kernel, by decide, rfl⟩
theorem own_d_prog_70_method_9_code_1 : own_sl prog_70_method_9_code 1 2 2 := Or.inl ⟨2, by decide +kernel, rfl, rfl⟩
theorem own_d_prog_70_method_9_code_2 : own_ik prog_70_method_9_code 2 0 3 := ⟨0, Or.inl ⟨by decide +kernel, by decide, rfl⟩⟩
theorem own_d_prog_70_method_9_code_3 : own_si prog_70_method_9_code 3 4 5 := Or.inr ⟨by decide +kernel, rfl⟩
theorem own_d_prog_70_method_9_code_5 : own_il prog_70_method_9_code 5 4 7 := Or.inr ⟨by decide +kernel, rfl⟩
theorem own_d_prog_70_method_9_code_7 : own_ik prog_70_method_9_code 7 8 9 := ⟨8, Or.inr (Or.inl ⟨by decide +kernel, by decide, rfl⟩)⟩
theorem own_d_prog_70_method_9_code_9 : own_icm prog_70_method_9_code 9 .ge 12 35 := ⟨26, by decide +kernel, rfl, by decide, by decide⟩
theorem own_d_prog_70_method_9_code_35 : own_ll prog_70_method_9_code 35 2 36 := Or.inl ⟨2, by decide +kernel, rfl, rfl⟩
theorem own_d_prog_70_method_9_code_36 : own_ix prog_70_method_9_code 36 .lreturn 1 37 := ⟨by decide +kernel, rfl⟩
theorem own_d_prog_70_method_9_code_12 : own_ll prog_70_method_9_code 12 2 13 := Or.inl ⟨2, by decide +kernel, rfl, rfl⟩
theorem own_d_prog_70_method_9_code_13 : own_ik prog_70_method_9_code 13 8 15 := ⟨8, Or.inr (Or.inl ⟨by decide +kernel, by decide, rfl⟩)⟩
theorem own_d_prog_70_method_9_code_15 : own_ix prog_70_method_9_code 15 .lshl 1 16 := ⟨by decide +kernel, rfl⟩
theorem own_d_prog_70_method_9_code_16 : own_al prog_70_method_9_code 16 0 17 := Or.inl ⟨0, by decide +kernel, rfl, rfl⟩
theorem own_d_prog_70_method_9_code_17 : own_il prog_70_method_9_code 17 1 18 := Or.inl ⟨1, by decide +kernel, rfl, rfl⟩
theorem own_d_prog_70_method_9_code_18 : own_il prog_70_method_9_code 18 4 20 := Or.inr ⟨by decide +kernel, rfl⟩
theorem own_d_prog_70_method_9_code_20 : own_ix prog_70_method_9_code 20 .iadd 1 21 := ⟨by decide +kernel, rfl⟩
theorem own_d_prog_70_method_9_code_21 : own_ix prog_70_method_9_code 21 .baload 1 22 := ⟨by decide +kernel, rfl⟩
theorem own_d_prog_70_method_9_code_22 : own_ik prog_70_method_9_code 22 255 25 := ⟨255, Or.inr (Or.inr ⟨by decide +kernel, by decide, rfl⟩)⟩
theorem own_d_prog_70_method_9_code_25 : own_ix prog_70_method_9_code 25 .iand 1 26 := ⟨by decide +kernel, rfl⟩
theorem own_d_prog_70_method_9_code_26 : own_ix prog_70_method_9_code 26 .i2l 1 27 := ⟨by decide +kernel, rfl⟩
theorem own_d_prog_70_method_9_code_27 : own_ix prog_70_method_9_code 27 .lor 1 28 := ⟨by decide +kernel, rfl⟩
theorem own_d_prog_70_method_9_code_28 : own_sl prog_70_method_9_code 28 2 29 := Or.inl ⟨2, by decide +kernel, rfl, rfl⟩
theorem own_d_prog_70_method_9_code_29 : own_ii prog_70_method_9_code 29 4 1 32 := ⟨1, by decide +kernel, by decide, rfl⟩
theorem own_d_prog_70_method_9_code_32 : own_gt prog_70_method_9_code 32 5 := ⟨(-27), by decide +kernel, by decide, by decide⟩
theorem own_pn_com_example_libcachet_libcachet_Ghash : plainName "com/example/libcachet/libcachet/Ghash" = true := by first | (simp [plainName, overriddenIn]; done) | decide +kernel
theorem own_d_prog_70_method_8_code_39 : own_il prog_70_method_8_code 39 19 41 := Or.inr ⟨by decide +kernel, rfl⟩
theorem own_d_prog_70_method_8_code_41 : own_ifc prog_70_method_8_code 41 .lt 44 112 := ⟨71, by decide +kernel, rfl, by decide, by decide⟩
theorem own_d_prog_70_method_8_code_44 : own_ll prog_70_method_8_code 44 17 46 := Or.inr ⟨by decide +kernel, rfl⟩
theorem own_d_prog_70_method_8_code_46 : own_il prog_70_method_8_code 46 19 48 := Or.inr ⟨by decide +kernel, rfl⟩
theorem own_d_prog_70_method_8_code_48 : own_ix prog_70_method_8_code 48 .lushr 1 49 := ⟨by decide +kernel, rfl⟩
theorem own_d_prog_70_method_8_code_49 : own_lk prog_70_method_8_code 49 1 50 := ⟨1, by decide +kernel, by decide, rfl⟩
theorem own_d_prog_70_method_8_code_50 : own_ix prog_70_method_8_code 50 .land 1 51 := ⟨by decide +kernel, rfl⟩
theorem own_d_prog_70_method_8_code_51 : own_ix prog_70_method_8_code 51 .lneg 1 52 := ⟨by decide +kernel, rfl⟩
theorem own_d_prog_70_method_8_code_52 : own_sl prog_70_method_8_code 52 20 54 := Or.inr ⟨by decide +kernel, rfl⟩
theorem own_d_prog_70_method_8_code_54 : own_ll prog_70_method_8_code 54 8 56 := Or.inr ⟨by decide +kernel, rfl⟩
theorem own_d_prog_70_method_8_code_56 : own_ll prog_70_method_8_code 56 12 58 := Or.inr ⟨by decide +kernel, rfl⟩
theorem own_d_prog_70_method_8_code_58 : own_ll prog_70_method_8_code 58 20 60 := Or.inr ⟨by decide +kernel, rfl⟩
theorem own_d_prog_70_method_8_code_60 : own_ix prog_70_method_8_code 60 .land 1 61 := ⟨by decide +kernel, rfl⟩
theorem own_d_prog_70_method_8_code_61 : own_ix prog_70_method_8_code 61 .lxor 1 62 := ⟨by decide +kernel, rfl⟩
theorem own_d_prog_70_method_8_code_62 : own_sl prog_70_method_8_code 62 8 64 := Or.inr ⟨by decide +kernel, rfl⟩
theorem own_d_prog_70_method_8_code_64 : own_ll prog_70_method_8_code 64 10 66 := Or.inr ⟨by decide +kernel, rfl⟩
theorem own_d_prog_70_method_8_code_66 : own_ll prog_70_method_8_code 66 14 68 := Or.inr ⟨by decide +kernel, rfl⟩
theorem own_d_prog_70_method_8_code_68 : own_ll prog_70_method_8_code 68 20 70 := Or.inr ⟨by decide +kernel, rfl⟩
theorem own_d_prog_70_method_8_code_70 : own_ix prog_70_method_8_code 70 .land 1 71 := ⟨by decide +kernel, rfl⟩
theorem own_d_prog_70_method_8_code_71 : own_ix prog_70_method_8_code 71 .lxor 1 72 := ⟨by decide +kernel, rfl⟩
theorem own_d_prog_70_method_8_code_72 : own_sl prog_70_method_8_code 72 10 74 := Or.inr ⟨by decide +kernel, rfl⟩
theorem own_d_prog_70_method_8_code_74 : own_ll prog_70_method_8_code 74 14 76 := Or.inr ⟨by decide +kernel, rfl⟩
theorem own_d_prog_70_method_8_code_76 : own_lk prog_70_method_8_code 76 1 77 := ⟨1, by decide +kernel, by decide, rfl⟩
theorem own_d_prog_70_method_8_code_77 : own_ix prog_70_method_8_code 77 .land 1 78 := ⟨by decide +kernel, rfl⟩
theorem own_d_prog_70_method_8_code_78 : own_ix prog_70_method_8_code 78 .lneg 1 79 := ⟨by decide +kernel, rfl⟩
theorem own_d_prog_70_method_8_code_79 : own_sl prog_70_method_8_code 79 22 81 := Or.inr ⟨by decide +kernel, rfl⟩
theorem own_d_prog_70_method_8_code_81 : own_ll prog_70_method_8_code 81 14 83 := Or.inr ⟨by decide +kernel, rfl⟩
theorem own_d_prog_70_method_8_code_83 : own_ik prog_70_method_8_code 83 1 84 := ⟨1, Or.inl ⟨by decide +kernel, by decide, rfl⟩⟩
theorem own_d_prog_70_method_8_code_84 : own_ix prog_70_method_8_code 84 .lushr 1 85 := ⟨by decide +kernel, rfl⟩
theorem own_d_prog_70_method_8_code_85 : own_ll prog_70_method_8_code 85 12 87 := Or.inr ⟨by decide +kernel, rfl⟩
theorem own_d_prog_70_method_8_code_87 : own_ik prog_70_method_8_code 87 63 89 := ⟨63, Or.inr (Or.inl ⟨by decide +kernel, by decide, rfl⟩)⟩
theorem own_d_prog_70_method_8_code_89 : own_ix prog_70_method_8_code 89 .lshl 1 90 := ⟨by decide +kernel, rfl⟩
theorem own_d_prog_70_method_8_code_90 : own_ix prog_70_method_8_code 90 .lor 1 91 := ⟨by decide +kernel, rfl⟩
theorem own_d_prog_70_method_8_code_91 : own_sl prog_70_method_8_code 91 14 93 := Or.inr ⟨by decide +kernel, rfl⟩
theorem own_d_prog_70_method_8_code_93 : own_ll prog_70_method_8_code 93 12 95 := Or.inr ⟨by decide +kernel, rfl⟩
theorem own_d_prog_70_method_8_code_95 : own_ik prog_70_method_8_code 95 1 96 := ⟨1, Or.inl ⟨by decide +kernel, by decide, rfl⟩⟩
theorem own_d_prog_70_method_8_code_96 : own_ix prog_70_method_8_code 96 .lushr 1 97 := ⟨by decide +kernel, rfl⟩
theorem own_d_prog_70_method_8_code_97 : own_ix prog_70_method_8_code 97 (.ldc2_w 81) 3 100 := ⟨by decide +kernel, rfl⟩
theorem own_d_prog_70_method_8_code_100 : own_ll prog_70_method_8_code 100 22 102 := Or.inr ⟨by decide +kernel, rfl⟩
theorem own_d_prog_70_method_8_code_102 : own_ix prog_70_method_8_code 102 .land 1 103 := ⟨by decide +kernel, rfl⟩
theorem own_d_prog_70_method_8_code_103 : own_ix prog_70_method_8_code 103 .lxor 1 104 := ⟨by decide +kernel, rfl⟩
theorem own_d_prog_70_method_8_code_104 : own_sl prog_70_method_8_code 104 12 106 := Or.inr ⟨by decide +kernel, rfl⟩
theorem own_d_prog_70_method_8_code_106 : own_ii prog_70_method_8_code 106 19 (-1) 109 := ⟨(-1), by decide +kernel, by decide, rfl⟩
theorem own_d_prog_70_method_8_code_109 : own_gt prog_70_method_8_code 109 39 := ⟨(-70), by decide +kernel, by decide, by decide⟩
theorem own_d_prog_70_method_8_code_0 : own_lk prog_70_method_8_code 0 0 1 := ⟨0, by decide +kernel, by decide, rfl⟩
theorem own_d_prog_70_method_8_code_1 : own_sl prog_70_method_8_code 1 8 3 := Or.inr ⟨by decide +kernel, rfl⟩
theorem own_d_prog_70_method_8_code_3 : own_lk prog_70_method_8_code 3 0 4 := ⟨0, by decide +kernel, by decide, rfl⟩
theorem own_d_prog_70_method_8_code_4 : own_sl prog_70_method_8_code 4 10 6 := Or.inr ⟨by decide +kernel, rfl⟩
theorem own_d_prog_70_method_8_code_6 : own_ll prog_70_method_8_code 6 4 8 := Or.inr ⟨by decide +kernel, rfl⟩
theorem own_d_prog_70_method_8_code_8 : own_sl prog_70_method_8_code 8 12 10 := Or.inr ⟨by decide +kernel, rfl⟩
theorem own_d_prog_70_method_8_code_10 : own_ll prog_70_method_8_code 10 6 12 := Or.inr ⟨by decide +kernel, rfl⟩
theorem own_d_prog_70_method_8_code_12 : own_sl prog_70_method_8_code 12 14 14 := Or.inr ⟨by decide +kernel, rfl⟩
theorem own_d_prog_70_method_8_code_14 : own_ik prog_70_method_8_code 14 0 15 := ⟨0, Or.inl ⟨by decide +kernel, by decide, rfl⟩⟩
theorem own_d_prog_70_method_8_code_15 : own_si prog_70_method_8_code 15 16 17 := Or.inr ⟨by decide +kernel, rfl⟩
theorem own_d_prog_70_method_8_code_17 : own_il prog_70_method_8_code 17 16 19 := Or.inr ⟨by decide +kernel, rfl⟩
theorem own_d_prog_70_method_8_code_19 : own_ik prog_70_method_8_code 19 2 20 := ⟨2, Or.inl ⟨by decide +kernel, by decide, rfl⟩⟩
theorem own_d_prog_70_method_8_code_20 : own_icm prog_70_method_8_code 20 .ge 23 118 := ⟨98, by decide +kernel, rfl, by decide, by decide⟩
theorem own_d_prog_70_method_8_code_23 : own_il prog_70_method_8_code 23 16 25 := Or.inr ⟨by decide +kernel, rfl⟩
theorem own_d_prog_70_method_8_code_25 : own_ifc prog_70_method_8_code 25 .ne 28 32 := ⟨7, by decide +kernel, rfl, by decide, by decide⟩
theorem own_d_prog_70_method_8_code_28 : own_ll prog_70_method_8_code 28 0 29 := Or.inl ⟨0, by decide +kernel, rfl, rfl⟩
theorem own_d_prog_70_method_8_code_29 : own_gt prog_70_method_8_code 29 33 := ⟨4, by decide +kernel, by decide, by decide⟩
theorem own_d_prog_70_method_8_code_33 : own_sl prog_70_method_8_code 33 17 35 := Or.inr ⟨by decide +kernel, rfl⟩
theorem own_d_prog_70_method_8_code_35 : own_ik prog_70_method_8_code 35 63 37 := ⟨63, Or.inr (Or.inl ⟨by decide +kernel, by decide, rfl⟩)⟩
theorem own_d_prog_70_method_8_code_37 : own_si prog_70_method_8_code 37 19 39 := Or.inr ⟨by decide +kernel, rfl⟩
theorem own_d_prog_70_method_8_code_112 : own_ii prog_70_method_8_code 112 16 1 115 := ⟨1, by decide +kernel, by decide, rfl⟩
theorem own_d_prog_70_method_8_code_115 : own_gt prog_70_method_8_code 115 17 := ⟨(-98), by decide +kernel, by decide, by decide⟩
theorem own_d_prog_70_method_8_code_32 : own_ll prog_70_method_8_code 32 2 33 := Or.inl ⟨2, by decide +kernel, rfl, rfl⟩
theorem own_d_prog_70_method_8_code_118 : own_ik prog_70_method_8_code 118 2 119 := ⟨2, Or.inl ⟨by decide +kernel, by decide, rfl⟩⟩
theorem own_d_prog_70_method_8_code_119 : own_ix prog_70_method_8_code 119 (.newarray .long) 2 121 := ⟨by decide +kernel, rfl⟩
theorem own_d_prog_70_method_8_code_121 : own_ix prog_70_method_8_code 121 .dup 1 122 := ⟨by decide +kernel, rfl⟩
theorem own_d_prog_70_method_8_code_122 : own_ik prog_70_method_8_code 122 0 123 := ⟨0, Or.inl ⟨by decide +kernel, by decide, rfl⟩⟩
theorem own_d_prog_70_method_8_code_123 : own_ll prog_70_method_8_code 123 8 125 := Or.inr ⟨by decide +kernel, rfl⟩
theorem own_d_prog_70_method_8_code_125 : own_ix prog_70_method_8_code 125 .lastore 1 126 := ⟨by decide +kernel, rfl⟩
theorem own_d_prog_70_method_8_code_126 : own_ix prog_70_method_8_code 126 .dup 1 127 := ⟨by decide +kernel, rfl⟩
theorem own_d_prog_70_method_8_code_127 : own_ik prog_70_method_8_code 127 1 128 := ⟨1, Or.inl ⟨by decide +kernel, by decide, rfl⟩⟩
theorem own_d_prog_70_method_8_code_128 : own_ll prog_70_method_8_code 128 10 130 := Or.inr ⟨by decide +kernel, rfl⟩
theorem own_d_prog_70_method_8_code_130 : own_ix prog_70_method_8_code 130 .lastore 1 131 := ⟨by decide +kernel, rfl⟩
theorem own_d_prog_70_method_8_code_131 : own_ix prog_70_method_8_code 131 .areturn 1 132 := ⟨by decide +kernel, rfl⟩
theorem own_d_prog_70_method_10_code_0 : own_ik prog_70_method_10_code 0 16 2 := ⟨16, Or.inr (Or.inl ⟨by decide +kernel, by decide, rfl⟩)⟩
theorem own_d_prog_70_method_10_code_2 : own_ix prog_70_method_10_code 2 (.newarray .byte) 2 4 := ⟨by decide +kernel, rfl⟩
theorem own_d_prog_70_method_10_code_4 : own_sa prog_70_method_10_code 4 4 6 := Or.inr ⟨by decide +kernel, rfl⟩
theorem own_d_prog_70_method_10_code_6 : own_ik prog_70_method_10_code 6 0 7 := ⟨0, Or.inl ⟨by decide +kernel, by decide, rfl⟩⟩
theorem own_d_prog_70_method_10_code_7 : own_si prog_70_method_10_code 7 5 9 := Or.inr ⟨by decide +kernel, rfl⟩
theorem own_d_prog_70_method_10_code_9 : own_il prog_70_method_10_code 9 5 11 := Or.inr ⟨by decide +kernel, rfl⟩
theorem own_d_prog_70_method_10_code_11 : own_ik prog_70_method_10_code 11 8 13 := ⟨8, Or.inr (Or.inl ⟨by decide +kernel, by decide, rfl⟩)⟩
theorem own_d_prog_70_method_10_code_13 : own_icm prog_70_method_10_code 13 .ge 16 59 := ⟨46, by decide +kernel, rfl, by decide, by decide⟩
theorem own_d_prog_70_method_10_code_59 : own_al prog_70_method_10_code 59 4 61 := Or.inr ⟨by decide +kernel, rfl⟩
theorem own_d_prog_70_method_10_code_61 : own_ix prog_70_method_10_code 61 .areturn 1 62 := ⟨by decide +kernel, rfl⟩
theorem own_d_prog_70_method_10_code_16 : own_al prog_70_method_10_code 16 4 18 := Or.inr ⟨by decide +kernel, rfl⟩
theorem own_d_prog_70_method_10_code_18 : own_il prog_70_method_10_code 18 5 20 := Or.inr ⟨by decide +kernel, rfl⟩
theorem own_d_prog_70_method_10_code_20 : own_ll prog_70_method_10_code 20 0 21 := Or.inl ⟨0, by decide +kernel, rfl, rfl⟩
theorem own_d_prog_70_method_10_code_21 : own_ik prog_70_method_10_code 21 56 23 := ⟨56, Or.inr (Or.inl ⟨by decide +kernel, by decide, rfl⟩)⟩
theorem own_d_prog_70_method_10_code_23 : own_ik prog_70_method_10_code 23 8 25 := ⟨8, Or.inr (Or.inl ⟨by decide +kernel, by decide, rfl⟩)⟩
theorem own_d_prog_70_method_10_code_25 : own_il prog_70_method_10_code 25 5 27 := Or.inr ⟨by decide +kernel, rfl⟩
theorem own_d_prog_70_method_10_code_27 : own_ix prog_70_method_10_code 27 .imul 1 28 := ⟨by decide +kernel, rfl⟩
theorem own_d_prog_70_method_10_code_28 : own_ix prog_70_method_10_code 28 .isub 1 29 := ⟨by decide +kernel, rfl⟩
theorem own_d_prog_70_method_10_code_29 : own_ix prog_70_method_10_code 29 .lushr 1 30 := ⟨by decide +kernel, rfl⟩
theorem own_d_prog_70_method_10_code_30 : own_ix prog_70_method_10_code 30 .l2i 1 31 := ⟨by decide +kernel, rfl⟩
theorem own_d_prog_70_method_10_code_31 : own_ix prog_70_method_10_code 31 .i2b 1 32 := ⟨by decide +kernel, rfl⟩
theorem own_d_prog_70_method_10_code_32 : own_ix prog_70_method_10_code 32 .bastore 1 33 := ⟨by decide +kernel, rfl⟩
theorem own_d_prog_70_method_10_code_33 : own_al prog_70_method_10_code 33 4 35 := Or.inr ⟨by decide +kernel, rfl⟩
theorem own_d_prog_70_method_10_code_35 : own_il prog_70_method_10_code 35 5 37 := Or.inr ⟨by decide +kernel, rfl⟩
theorem own_d_prog_70_method_10_code_37 : own_ik prog_70_method_10_code 37 8 39 := ⟨8, Or.inr (Or.inl ⟨by decide +kernel, by decide, rfl⟩)⟩
theorem own_d_prog_70_method_10_code_39 : own_ix prog_70_method_10_code 39 .iadd 1 40 := ⟨by decide +kernel, rfl⟩
theorem own_d_prog_70_method_10_code_40 : own_ll prog_70_method_10_code 40 2 41 := Or.inl ⟨2, by decide +kernel, rfl, rfl⟩
theorem own_d_prog_70_method_10_code_41 : own_ik prog_70_method_10_code 41 56 43 := ⟨56, Or.inr (Or.inl ⟨by decide +kernel, by decide, rfl⟩)⟩
theorem own_d_prog_70_method_10_code_43 : own_ik prog_70_method_10_code 43 8 45 := ⟨8, Or.inr (Or.inl ⟨by decide +kernel, by decide, rfl⟩)⟩
theorem own_d_prog_70_method_10_code_45 : own_il prog_70_method_10_code 45 5 47 := Or.inr ⟨by decide +kernel, rfl⟩
theorem own_d_prog_70_method_10_code_47 : own_ix prog_70_method_10_code 47 .imul 1 48 := ⟨by decide +kernel, rfl⟩
theorem own_d_prog_70_method_10_code_48 : own_ix prog_70_method_10_code 48 .isub 1 49 := ⟨by decide +kernel, rfl⟩
theorem own_d_prog_70_method_10_code_49 : own_ix prog_70_method_10_code 49 .lushr 1 50 := ⟨by decide +kernel, rfl⟩
theorem own_d_prog_70_method_10_code_50 : own_ix prog_70_method_10_code 50 .l2i 1 51 := ⟨by decide +kernel, rfl⟩
theorem own_d_prog_70_method_10_code_51 : own_ix prog_70_method_10_code 51 .i2b 1 52 := ⟨by decide +kernel, rfl⟩
theorem own_d_prog_70_method_10_code_52 : own_ix prog_70_method_10_code 52 .bastore 1 53 := ⟨by decide +kernel, rfl⟩
theorem own_d_prog_70_method_10_code_53 : own_ii prog_70_method_10_code 53 5 1 56 := ⟨1, by decide +kernel, by decide, rfl⟩
theorem own_d_prog_70_method_10_code_56 : own_gt prog_70_method_10_code 56 9 := ⟨(-47), by decide +kernel, by decide, by decide⟩
theorem own_d_method_4_code_0 : own_al method_4_code 0 0 1 := Or.inl ⟨0, by decide +kernel, rfl, rfl⟩
theorem own_d_method_4_code_1 : own_il method_4_code 1 1 2 := Or.inl ⟨1, by decide +kernel, rfl, rfl⟩
theorem own_d_method_4_code_2 : own_ix method_4_code 2 .baload 1 3 := ⟨by decide +kernel, rfl⟩
theorem own_d_method_4_code_3 : own_ik method_4_code 3 255 6 := ⟨255, Or.inr (Or.inr ⟨by decide +kernel, by decide, rfl⟩)⟩
theorem own_d_method_4_code_6 : own_ix method_4_code 6 .iand 1 7 := ⟨by decide +kernel, rfl⟩
theorem own_d_method_4_code_7 : own_ix method_4_code 7 .i2l 1 8 := ⟨by decide +kernel, rfl⟩
theorem own_d_method_4_code_8 : own_ik method_4_code 8 56 10 := ⟨56, Or.inr (Or.inl ⟨by decide +kernel, by decide, rfl⟩)⟩
theorem own_d_method_4_code_10 : own_ix method_4_code 10 .lshl 1 11 := ⟨by decide +kernel, rfl⟩
theorem own_d_method_4_code_11 : own_al method_4_code 11 0 12 := Or.inl ⟨0, by decide +kernel, rfl, rfl⟩
theorem own_d_method_4_code_12 : own_il method_4_code 12 1 13 := Or.inl ⟨1, by decide +kernel, rfl, rfl⟩
theorem own_d_method_4_code_13 : own_ik method_4_code 13 1 14 := ⟨1, Or.inl ⟨by decide +kernel, by decide, rfl⟩⟩
theorem own_d_method_4_code_14 : own_ix method_4_code 14 .iadd 1 15 := ⟨by decide +kernel, rfl⟩
theorem own_d_method_4_code_15 : own_ix method_4_code 15 .baload 1 16 := ⟨by decide +kernel, rfl⟩
theorem own_d_method_4_code_16 : own_ik method_4_code 16 255 19 := ⟨255, Or.inr (Or.inr ⟨by decide +kernel, by decide, rfl⟩)⟩
theorem own_d_method_4_code_19 : own_ix method_4_code 19 .iand 1 20 := ⟨by decide +kernel, rfl⟩
theorem own_d_method_4_code_20 : own_ix method_4_code 20 .i2l 1 21 := ⟨by decide +kernel, rfl⟩
theorem own_d_method_4_code_21 : own_ik method_4_code 21 48 23 := ⟨48, Or.inr (Or.inl ⟨by decide +kernel, by decide, rfl⟩)⟩
theorem own_d_method_4_code_23 : own_ix method_4_code 23 .lshl 1 24 := ⟨by decide +kernel, rfl⟩
theorem own_d_method_4_code_24 : own_ix method_4_code 24 .lor 1 25 := ⟨by decide +kernel, rfl⟩
theorem own_d_method_4_code_25 : own_al method_4_code 25 0 26 := Or.inl ⟨0, by decide +kernel, rfl, rfl⟩
theorem own_d_method_4_code_26 : own_il method_4_code 26 1 27 := Or.inl ⟨1, by decide +kernel, rfl, rfl⟩
theorem own_d_method_4_code_27 : own_ik method_4_code 27 2 28 := ⟨2, Or.inl ⟨by decide +kernel, by decide, rfl⟩⟩
theorem own_d_method_4_code_28 : own_ix method_4_code 28 .iadd 1 29 := ⟨by decide +kernel, rfl⟩
theorem own_d_method_4_code_29 : own_ix method_4_code 29 .baload 1 30 := ⟨by decide +kernel, rfl⟩
theorem own_d_method_4_code_30 : own_ik method_4_code 30 255 33 := ⟨255, Or.inr (Or.inr ⟨by decide +kernel, by decide, rfl⟩)⟩
theorem own_d_method_4_code_33 : own_ix method_4_code 33 .iand 1 34 := ⟨by decide +kernel, rfl⟩
theorem own_d_method_4_code_34 : own_ix method_4_code 34 .i2l 1 35 := ⟨by decide +kernel, rfl⟩
theorem own_d_method_4_code_35 : own_ik method_4_code 35 40 37 := ⟨40, Or.inr (Or.inl ⟨by decide +kernel, by decide, rfl⟩)⟩
theorem own_d_method_4_code_37 : own_ix method_4_code 37 .lshl 1 38 := ⟨by decide +kernel, rfl⟩
theorem own_d_method_4_code_38 : own_ix method_4_code 38 .lor 1 39 := ⟨by decide +kernel, rfl⟩
theorem own_d_method_4_code_39 : own_al method_4_code 39 0 40 := Or.inl ⟨0, by decide +kernel, rfl, rfl⟩
theorem own_d_method_4_code_40 : own_il method_4_code 40 1 41 := Or.inl ⟨1, by decide +kernel, rfl, rfl⟩
theorem own_d_method_4_code_41 : own_ik method_4_code 41 3 42 := ⟨3, Or.inl ⟨by decide +kernel, by decide, rfl⟩⟩
theorem own_d_method_4_code_42 : own_ix method_4_code 42 .iadd 1 43 := ⟨by decide +kernel, rfl⟩
theorem own_d_method_4_code_43 : own_ix method_4_code 43 .baload 1 44 := ⟨by decide +kernel, rfl⟩
theorem own_d_method_4_code_44 : own_ik method_4_code 44 255 47 := ⟨255, Or.inr (Or.inr ⟨by decide +kernel, by decide, rfl⟩)⟩
theorem own_d_method_4_code_47 : own_ix method_4_code 47 .iand 1 48 := ⟨by decide +kernel, rfl⟩
theorem own_d_method_4_code_48 : own_ix method_4_code 48 .i2l 1 49 := ⟨by decide +kernel, rfl⟩
theorem own_d_method_4_code_49 : own_ik method_4_code 49 32 51 := ⟨32, Or.inr (Or.inl ⟨by decide +kernel, by decide, rfl⟩)⟩
theorem own_d_method_4_code_51 : own_ix method_4_code 51 .lshl 1 52 := ⟨by decide +kernel, rfl⟩
theorem own_d_method_4_code_52 : own_ix method_4_code 52 .lor 1 53 := ⟨by decide +kernel, rfl⟩
theorem own_d_method_4_code_53 : own_al method_4_code 53 0 54 := Or.inl ⟨0, by decide +kernel, rfl, rfl⟩
theorem own_d_method_4_code_54 : own_il method_4_code 54 1 55 := Or.inl ⟨1, by decide +kernel, rfl, rfl⟩
theorem own_d_method_4_code_55 : own_ik method_4_code 55 4 56 := ⟨4, Or.inl ⟨by decide +kernel, by decide, rfl⟩⟩
theorem own_d_method_4_code_56 : own_ix method_4_code 56 .iadd 1 57 := ⟨by decide +kernel, rfl⟩
theorem own_d_method_4_code_57 : own_ix method_4_code 57 .baload 1 58 := ⟨by decide +kernel, rfl⟩
theorem own_d_method_4_code_58 : own_ik method_4_code 58 255 61 := ⟨255, Or.inr (Or.inr ⟨by decide +kernel, by decide, rfl⟩)⟩
theorem own_d_method_4_code_61 : own_ix method_4_code 61 .iand 1 62 := ⟨by decide +kernel, rfl⟩
theorem own_d_method_4_code_62 : own_ix method_4_code 62 .i2l 1 63 := ⟨by decide +kernel, rfl⟩
theorem own_d_method_4_code_63 : own_ik method_4_code 63 24 65 := ⟨24, Or.inr (Or.inl ⟨by decide +kernel, by decide, rfl⟩)⟩
theorem own_d_method_4_code_65 : own_ix method_4_code 65 .lshl 1 66 := ⟨by decide +kernel, rfl⟩
theorem own_d_method_4_code_66 : own_ix method_4_code 66 .lor 1 67 := ⟨by decide +kernel, rfl⟩
theorem own_d_method_4_code_67 : own_al method_4_code 67 0 68 := Or.inl ⟨0, by decide +kernel, rfl, rfl⟩
theorem own_d_method_4_code_68 : own_il method_4_code 68 1 69 := Or.inl ⟨1, by decide +kernel, rfl, rfl⟩
theorem own_d_method_4_code_69 : own_ik method_4_code 69 5 70 := ⟨5, Or.inl ⟨by decide +kernel, by decide, rfl⟩⟩
theorem own_d_method_4_code_70 : own_ix method_4_code 70 .iadd 1 71 := ⟨by decide +kernel, rfl⟩
theorem own_d_method_4_code_71 : own_ix method_4_code 71 .baload 1 72 := ⟨by decide +kernel, rfl⟩
theorem own_d_method_4_code_72 : own_ik method_4_code 72 255 75 := ⟨255, Or.inr (Or.inr ⟨by decide +kernel, by decide, rfl⟩)⟩
theorem own_d_method_4_code_75 : own_ix method_4_code 75 .iand 1 76 := ⟨by decide +kernel, rfl⟩
theorem own_d_method_4_code_76 : own_ix method_4_code 76 .i2l 1 77 := ⟨by decide +kernel, rfl⟩
theorem own_d_method_4_code_77 : own_ik method_4_code 77 16 79 := ⟨16, Or.inr (Or.inl ⟨by decide +kernel, by decide, rfl⟩)⟩
theorem own_d_method_4_code_79 : own_ix method_4_code 79 .lshl 1 80 := ⟨by decide +kernel, rfl⟩
theorem own_d_method_4_code_80 : own_ix method_4_code 80 .lor 1 81 := ⟨by decide +kernel, rfl⟩
theorem own_d_method_4_code_81 : own_al method_4_code 81 0 82 := Or.inl ⟨0, by decide +kernel, rfl, rfl⟩
theorem own_d_method_4_code_82 : own_il method_4_code 82 1 83 := Or.inl ⟨1, by decide +kernel, rfl, rfl⟩
theorem own_d_method_4_code_83 : own_ik method_4_code 83 6 85 := ⟨6, Or.inr (Or.inl ⟨by decide +kernel, by decide, rfl⟩)⟩
theorem own_d_method_4_code_85 : own_ix method_4_code 85 .iadd 1 86 := ⟨by decide +kernel, rfl⟩
theorem own_d_method_4_code_86 : own_ix method_4_code 86 .baload 1 87 := ⟨by decide +kernel, rfl⟩
theorem own_d_method_4_code_87 : own_ik method_4_code 87 255 90 := ⟨255, Or.inr (Or.inr ⟨by decide +kernel, by decide, rfl⟩)⟩
theorem own_d_method_4_code_90 : own_ix method_4_code 90 .iand 1 91 := ⟨by decide +kernel, rfl⟩
theorem own_d_method_4_code_91 : own_ix method_4_code 91 .i2l 1 92 := ⟨by decide +kernel, rfl⟩
theorem own_d_method_4_code_92 : own_ik method_4_code 92 8 94 := ⟨8, Or.inr (Or.inl ⟨by decide +kernel, by decide, rfl⟩)⟩
theorem own_d_method_4_code_94 : own_ix method_4_code 94 .lshl 1 95 := ⟨by decide +kernel, rfl⟩
theorem own_d_method_4_code_95 : own_ix method_4_code 95 .lor 1 96 := ⟨by decide +kernel, rfl⟩
theorem own_d_method_4_code_96 : own_al method_4_code 96 0 97 := Or.inl ⟨0, by decide +kernel, rfl, rfl⟩
theorem own_d_method_4_code_97 : own_il method_4_code 97 1 98 := Or.inl ⟨1, by decide +kernel, rfl, rfl⟩
theorem own_d_method_4_code_98 : own_ik method_4_code 98 7 100 := ⟨7, Or.inr (Or.inl ⟨by decide +kernel, by decide, rfl⟩)⟩
theorem own_d_method_4_code_100 : own_ix method_4_code 100 .iadd 1 101 := ⟨by decide +kernel, rfl⟩
theorem own_d_method_4_code_101 : own_ix method_4_code 101 .baload 1 102 := ⟨by decide +kernel, rfl⟩
theorem own_d_method_4_code_102 : own_ik method_4_code 102 255 105 := ⟨255, Or.inr (Or.inr ⟨by decide +kernel, by decide, rfl⟩)⟩
theorem own_d_method_4_code_105 : own_ix method_4_code 105 .iand 1 106 := ⟨by decide +kernel, rfl⟩
theorem own_d_method_4_code_106 : own_ix method_4_code 106 .i2l 1 107 := ⟨by decide +kernel, rfl⟩
theorem own_d_method_4_code_107 : own_ix method_4_code 107 .lor 1 108 := ⟨by decide +kernel, rfl⟩
theorem own_d_method_4_code_108 : own_ix method_4_code 108 .lreturn 1 109 := ⟨by decide +kernel, rfl⟩
theorem own_pn_com_example_libcachet_libcachet_GhashIvForPinLaw : plainName "com/example/libcachet/libcachet/GhashIvForPinLaw" = true := by first | (simp [plainName, overriddenIn]; done) | decide +kernel
theorem own_d_prog_70_method_1_code_0 : own_al prog_70_method_1_code 0 0 1 := Or.inl ⟨0, by decide +kernel, rfl, rfl⟩
theorem own_d_prog_70_method_1_code_1 : own_ix prog_70_method_1_code 1 (.invokespecial 1) 3 4 := ⟨by decide +kernel, rfl⟩
theorem own_d_prog_70_method_1_code_4 : own_al prog_70_method_1_code 4 0 5 := Or.inl ⟨0, by decide +kernel, rfl, rfl⟩
theorem own_d_prog_70_method_1_code_5 : own_al prog_70_method_1_code 5 1 6 := Or.inl ⟨1, by decide +kernel, rfl, rfl⟩
theorem own_d_prog_70_method_1_code_6 : own_ik prog_70_method_1_code 6 0 7 := ⟨0, Or.inl ⟨by decide +kernel, by decide, rfl⟩⟩
theorem own_pd___BI_J : parseMethodDescriptor "([BI)J" = some ⟨[(.array .byte), .int], some .long⟩ := by decide +kernel
theorem own_d_prog_70_method_1_code_7 : own_ix prog_70_method_1_code 7 (.invokestatic 7) 3 10 := ⟨by decide +kernel, rfl⟩
theorem own_d_prog_70_method_1_code_10 : own_ix prog_70_method_1_code 10 (.putfield 13) 3 13 := ⟨by decide +kernel, rfl⟩
theorem own_d_prog_70_method_1_code_13 : own_al prog_70_method_1_code 13 0 14 := Or.inl ⟨0, by decide +kernel, rfl, rfl⟩
theorem own_d_prog_70_method_1_code_14 : own_al prog_70_method_1_code 14 1 15 := Or.inl ⟨1, by decide +kernel, rfl, rfl⟩
theorem own_d_prog_70_method_1_code_15 : own_ik prog_70_method_1_code 15 8 17 := ⟨8, Or.inr (Or.inl ⟨by decide +kernel, by decide, rfl⟩)⟩
theorem own_d_prog_70_method_1_code_17 : own_ix prog_70_method_1_code 17 (.invokestatic 7) 3 20 := ⟨by decide +kernel, rfl⟩
theorem own_d_prog_70_method_1_code_20 : own_ix prog_70_method_1_code 20 (.putfield 17) 3 23 := ⟨by decide +kernel, rfl⟩
theorem own_d_prog_70_method_1_code_23 : own_al prog_70_method_1_code 23 0 24 := Or.inl ⟨0, by decide +kernel, rfl, rfl⟩
theorem own_d_prog_70_method_1_code_24 : own_lk prog_70_method_1_code 24 0 25 := ⟨0, by decide +kernel, by decide, rfl⟩
theorem own_d_prog_70_method_1_code_25 : own_ix prog_70_method_1_code 25 (.ldc2_w 20) 3 28 := ⟨by decide +kernel, rfl⟩
theorem own_d_prog_70_method_1_code_28 : own_al prog_70_method_1_code 28 0 29 := Or.inl ⟨0, by decide +kernel, rfl, rfl⟩
theorem own_d_prog_70_method_1_code_29 : own_ix prog_70_method_1_code 29 (.getfield 13) 3 32 := ⟨by decide +kernel, rfl⟩
theorem own_d_prog_70_method_1_code_32 : own_al prog_70_method_1_code 32 0 33 := Or.inl ⟨0, by decide +kernel, rfl, rfl⟩
theorem own_d_prog_70_method_1_code_33 : own_ix prog_70_method_1_code 33 (.getfield 17) 3 36 := ⟨by decide +kernel, rfl⟩
theorem own_pd__JJJJ__J : parseMethodDescriptor "(JJJJ)[J" = some ⟨[.long, .long, .long, .long], some (.array .long)⟩ := by decide +kernel
theorem own_d_prog_70_method_1_code_36 : own_ix prog_70_method_1_code 36 (.invokestatic 22) 3 39 := ⟨by decide +kernel, rfl⟩
theorem own_d_prog_70_method_1_code_39 : own_ix prog_70_method_1_code 39 (.putfield 26) 3 42 := ⟨by decide +kernel, rfl⟩
theorem own_d_prog_70_method_1_code_42 : own_ix prog_70_method_1_code 42 .return_ 1 43 := ⟨by decide +kernel, rfl⟩
theorem own_d_method_3_code_0 : own_ik method_3_code 0 16 2 := ⟨16, Or.inr (Or.inl ⟨by decide +kernel, by decide, rfl⟩)⟩
theorem own_d_method_3_code_2 : own_ix method_3_code 2 (.newarray .byte) 2 4 := ⟨by decide +kernel, rfl⟩
theorem own_d_method_3_code_4 : own_sa method_3_code 4 4 6 := Or.inr ⟨by decide +kernel, rfl⟩
theorem own_d_method_3_code_6 : own_al method_3_code 6 4 8 := Or.inr ⟨by decide +kernel, rfl⟩
theorem own_d_method_3_code_8 : own_ik method_3_code 8 0 9 := ⟨0, Or.inl ⟨by decide +kernel, by decide, rfl⟩⟩
theorem own_d_method_3_code_9 : own_ll method_3_code 9 0 10 := Or.inl ⟨0, by decide +kernel, rfl, rfl⟩
theorem own_d_method_3_code_10 : own_ik method_3_code 10 56 12 := ⟨56, Or.inr (Or.inl ⟨by decide +kernel, by decide, rfl⟩)⟩
theorem own_d_method_3_code_12 : own_ix method_3_code 12 .lushr 1 13 := ⟨by decide +kernel, rfl⟩
theorem own_d_method_3_code_13 : own_ix method_3_code 13 .l2i 1 14 := ⟨by decide +kernel, rfl⟩
theorem own_d_method_3_code_14 : own_ix method_3_code 14 .i2b 1 15 := ⟨by decide +kernel, rfl⟩
theorem own_d_method_3_code_15 : own_ix method_3_code 15 .bastore 1 16 := ⟨by decide +kernel, rfl⟩
theorem own_d_method_3_code_16 : own_al method_3_code 16 4 18 := Or.inr ⟨by decide +kernel, rfl⟩
theorem own_d_method_3_code_18 : own_ik method_3_code 18 1 19 := ⟨1, Or.inl ⟨by decide +kernel, by decide, rfl⟩⟩
theorem own_d_method_3_code_19 : own_ll method_3_code 19 0 20 := Or.inl ⟨0, by decide +kernel, rfl, rfl⟩
theorem own_d_method_3_code_20 : own_ik method_3_code 20 48 22 := ⟨48, Or.inr (Or.inl ⟨by decide +kernel, by decide, rfl⟩)⟩
theorem own_d_method_3_code_22 : own_ix method_3_code 22 .lushr 1 23 := ⟨by decide +kernel, rfl⟩
theorem own_d_method_3_code_23 : own_ix method_3_code 23 .l2i 1 24 := ⟨by decide +kernel, rfl⟩
theorem own_d_method_3_code_24 : own_ix method_3_code 24 .i2b 1 25 := ⟨by decide +kernel, rfl⟩
theorem own_d_method_3_code_25 : own_ix method_3_code 25 .bastore 1 26 := ⟨by decide +kernel, rfl⟩
theorem own_d_method_3_code_26 : own_al method_3_code 26 4 28 := Or.inr ⟨by decide +kernel, rfl⟩
theorem own_d_method_3_code_28 : own_ik method_3_code 28 2 29 := ⟨2, Or.inl ⟨by decide +kernel, by decide, rfl⟩⟩
theorem own_d_method_3_code_29 : own_ll method_3_code 29 0 30 := Or.inl ⟨0, by decide +kernel, rfl, rfl⟩
theorem own_d_method_3_code_30 : own_ik method_3_code 30 40 32 := ⟨40, Or.inr (Or.inl ⟨by decide +kernel, by decide, rfl⟩)⟩
theorem own_d_method_3_code_32 : own_ix method_3_code 32 .lushr 1 33 := ⟨by decide +kernel, rfl⟩
theorem own_d_method_3_code_33 : own_ix method_3_code 33 .l2i 1 34 := ⟨by decide +kernel, rfl⟩
theorem own_d_method_3_code_34 : own_ix method_3_code 34 .i2b 1 35 := ⟨by decide +kernel, rfl⟩
theorem own_d_method_3_code_35 : own_ix method_3_code 35 .bastore 1 36 := ⟨by decide +kernel, rfl⟩
theorem own_d_method_3_code_36 : own_al method_3_code 36 4 38 := Or.inr ⟨by decide +kernel, rfl⟩
theorem own_d_method_3_code_38 : own_ik method_3_code 38 3 39 := ⟨3, Or.inl ⟨by decide +kernel, by decide, rfl⟩⟩
theorem own_d_method_3_code_39 : own_ll method_3_code 39 0 40 := Or.inl ⟨0, by decide +kernel, rfl, rfl⟩
theorem own_d_method_3_code_40 : own_ik method_3_code 40 32 42 := ⟨32, Or.inr (Or.inl ⟨by decide +kernel, by decide, rfl⟩)⟩
theorem own_d_method_3_code_42 : own_ix method_3_code 42 .lushr 1 43 := ⟨by decide +kernel, rfl⟩
theorem own_d_method_3_code_43 : own_ix method_3_code 43 .l2i 1 44 := ⟨by decide +kernel, rfl⟩
theorem own_d_method_3_code_44 : own_ix method_3_code 44 .i2b 1 45 := ⟨by decide +kernel, rfl⟩
theorem own_d_method_3_code_45 : own_ix method_3_code 45 .bastore 1 46 := ⟨by decide +kernel, rfl⟩
theorem own_d_method_3_code_46 : own_al method_3_code 46 4 48 := Or.inr ⟨by decide +kernel, rfl⟩
theorem own_d_method_3_code_48 : own_ik method_3_code 48 4 49 := ⟨4, Or.inl ⟨by decide +kernel, by decide, rfl⟩⟩
theorem own_d_method_3_code_49 : own_ll method_3_code 49 0 50 := Or.inl ⟨0, by decide +kernel, rfl, rfl⟩
theorem own_d_method_3_code_50 : own_ik method_3_code 50 24 52 := ⟨24, Or.inr (Or.inl ⟨by decide +kernel, by decide, rfl⟩)⟩
theorem own_d_method_3_code_52 : own_ix method_3_code 52 .lushr 1 53 := ⟨by decide +kernel, rfl⟩
theorem own_d_method_3_code_53 : own_ix method_3_code 53 .l2i 1 54 := ⟨by decide +kernel, rfl⟩
theorem own_d_method_3_code_54 : own_ix method_3_code 54 .i2b 1 55 := ⟨by decide +kernel, rfl⟩
theorem own_d_method_3_code_55 : own_ix method_3_code 55 .bastore 1 56 := ⟨by decide +kernel, rfl⟩
theorem own_d_method_3_code_56 : own_al method_3_code 56 4 58 := Or.inr ⟨by decide +kernel, rfl⟩
theorem own_d_method_3_code_58 : own_ik method_3_code 58 5 59 := ⟨5, Or.inl ⟨by decide +kernel, by decide, rfl⟩⟩
theorem own_d_method_3_code_59 : own_ll method_3_code 59 0 60 := Or.inl ⟨0, by decide +kernel, rfl, rfl⟩
theorem own_d_method_3_code_60 : own_ik method_3_code 60 16 62 := ⟨16, Or.inr (Or.inl ⟨by decide +kernel, by decide, rfl⟩)⟩
theorem own_d_method_3_code_62 : own_ix method_3_code 62 .lushr 1 63 := ⟨by decide +kernel, rfl⟩
theorem own_d_method_3_code_63 : own_ix method_3_code 63 .l2i 1 64 := ⟨by decide +kernel, rfl⟩
theorem own_d_method_3_code_64 : own_ix method_3_code 64 .i2b 1 65 := ⟨by decide +kernel, rfl⟩
theorem own_d_method_3_code_65 : own_ix method_3_code 65 .bastore 1 66 := ⟨by decide +kernel, rfl⟩
theorem own_d_method_3_code_66 : own_al method_3_code 66 4 68 := Or.inr ⟨by decide +kernel, rfl⟩
theorem own_d_method_3_code_68 : own_ik method_3_code 68 6 70 := ⟨6, Or.inr (Or.inl ⟨by decide +kernel, by decide, rfl⟩)⟩
theorem own_d_method_3_code_70 : own_ll method_3_code 70 0 71 := Or.inl ⟨0, by decide +kernel, rfl, rfl⟩
theorem own_d_method_3_code_71 : own_ik method_3_code 71 8 73 := ⟨8, Or.inr (Or.inl ⟨by decide +kernel, by decide, rfl⟩)⟩
theorem own_d_method_3_code_73 : own_ix method_3_code 73 .lushr 1 74 := ⟨by decide +kernel, rfl⟩
theorem own_d_method_3_code_74 : own_ix method_3_code 74 .l2i 1 75 := ⟨by decide +kernel, rfl⟩
theorem own_d_method_3_code_75 : own_ix method_3_code 75 .i2b 1 76 := ⟨by decide +kernel, rfl⟩
theorem own_d_method_3_code_76 : own_ix method_3_code 76 .bastore 1 77 := ⟨by decide +kernel, rfl⟩
theorem own_d_method_3_code_77 : own_al method_3_code 77 4 79 := Or.inr ⟨by decide +kernel, rfl⟩
theorem own_d_method_3_code_79 : own_ik method_3_code 79 7 81 := ⟨7, Or.inr (Or.inl ⟨by decide +kernel, by decide, rfl⟩)⟩
theorem own_d_method_3_code_81 : own_ll method_3_code 81 0 82 := Or.inl ⟨0, by decide +kernel, rfl, rfl⟩
theorem own_d_method_3_code_82 : own_ix method_3_code 82 .l2i 1 83 := ⟨by decide +kernel, rfl⟩
theorem own_d_method_3_code_83 : own_ix method_3_code 83 .i2b 1 84 := ⟨by decide +kernel, rfl⟩
theorem own_d_method_3_code_84 : own_ix method_3_code 84 .bastore 1 85 := ⟨by decide +kernel, rfl⟩
theorem own_d_method_3_code_85 : own_al method_3_code 85 4 87 := Or.inr ⟨by decide +kernel, rfl⟩
theorem own_d_method_3_code_87 : own_ik method_3_code 87 8 89 := ⟨8, Or.inr (Or.inl ⟨by decide +kernel, by decide, rfl⟩)⟩
theorem own_d_method_3_code_89 : own_ll method_3_code 89 2 90 := Or.inl ⟨2, by decide +kernel, rfl, rfl⟩
theorem own_d_method_3_code_90 : own_ik method_3_code 90 56 92 := ⟨56, Or.inr (Or.inl ⟨by decide +kernel, by decide, rfl⟩)⟩
theorem own_d_method_3_code_92 : own_ix method_3_code 92 .lushr 1 93 := ⟨by decide +kernel, rfl⟩
theorem own_d_method_3_code_93 : own_ix method_3_code 93 .l2i 1 94 := ⟨by decide +kernel, rfl⟩
theorem own_d_method_3_code_94 : own_ix method_3_code 94 .i2b 1 95 := ⟨by decide +kernel, rfl⟩
theorem own_d_method_3_code_95 : own_ix method_3_code 95 .bastore 1 96 := ⟨by decide +kernel, rfl⟩
theorem own_d_method_3_code_96 : own_al method_3_code 96 4 98 := Or.inr ⟨by decide +kernel, rfl⟩
theorem own_d_method_3_code_98 : own_ik method_3_code 98 9 100 := ⟨9, Or.inr (Or.inl ⟨by decide +kernel, by decide, rfl⟩)⟩
theorem own_d_method_3_code_100 : own_ll method_3_code 100 2 101 := Or.inl ⟨2, by decide +kernel, rfl, rfl⟩
theorem own_d_method_3_code_101 : own_ik method_3_code 101 48 103 := ⟨48, Or.inr (Or.inl ⟨by decide +kernel, by decide, rfl⟩)⟩
theorem own_d_method_3_code_103 : own_ix method_3_code 103 .lushr 1 104 := ⟨by decide +kernel, rfl⟩
theorem own_d_method_3_code_104 : own_ix method_3_code 104 .l2i 1 105 := ⟨by decide +kernel, rfl⟩
theorem own_d_method_3_code_105 : own_ix method_3_code 105 .i2b 1 106 := ⟨by decide +kernel, rfl⟩
theorem own_d_method_3_code_106 : own_ix method_3_code 106 .bastore 1 107 := ⟨by decide +kernel, rfl⟩
theorem own_d_method_3_code_107 : own_al method_3_code 107 4 109 := Or.inr ⟨by decide +kernel, rfl⟩
theorem own_d_method_3_code_109 : own_ik method_3_code 109 10 111 := ⟨10, Or.inr (Or.inl ⟨by decide +kernel, by decide, rfl⟩)⟩
theorem own_d_method_3_code_111 : own_ll method_3_code 111 2 112 := Or.inl ⟨2, by decide +kernel, rfl, rfl⟩
theorem own_d_method_3_code_112 : own_ik method_3_code 112 40 114 := ⟨40, Or.inr (Or.inl ⟨by decide +kernel, by decide, rfl⟩)⟩
theorem own_d_method_3_code_114 : own_ix method_3_code 114 .lushr 1 115 := ⟨by decide +kernel, rfl⟩
theorem own_d_method_3_code_115 : own_ix method_3_code 115 .l2i 1 116 := ⟨by decide +kernel, rfl⟩
theorem own_d_method_3_code_116 : own_ix method_3_code 116 .i2b 1 117 := ⟨by decide +kernel, rfl⟩
theorem own_d_method_3_code_117 : own_ix method_3_code 117 .bastore 1 118 := ⟨by decide +kernel, rfl⟩
theorem own_d_method_3_code_118 : own_al method_3_code 118 4 120 := Or.inr ⟨by decide +kernel, rfl⟩
theorem own_d_method_3_code_120 : own_ik method_3_code 120 11 122 := ⟨11, Or.inr (Or.inl ⟨by decide +kernel, by decide, rfl⟩)⟩
theorem own_d_method_3_code_122 : own_ll method_3_code 122 2 123 := Or.inl ⟨2, by decide +kernel, rfl, rfl⟩
theorem own_d_method_3_code_123 : own_ik method_3_code 123 32 125 := ⟨32, Or.inr (Or.inl ⟨by decide +kernel, by decide, rfl⟩)⟩
theorem own_d_method_3_code_125 : own_ix method_3_code 125 .lushr 1 126 := ⟨by decide +kernel, rfl⟩
theorem own_d_method_3_code_126 : own_ix method_3_code 126 .l2i 1 127 := ⟨by decide +kernel, rfl⟩
theorem own_d_method_3_code_127 : own_ix method_3_code 127 .i2b 1 128 := ⟨by decide +kernel, rfl⟩
theorem own_d_method_3_code_128 : own_ix method_3_code 128 .bastore 1 129 := ⟨by decide +kernel, rfl⟩
theorem own_d_method_3_code_129 : own_al method_3_code 129 4 131 := Or.inr ⟨by decide +kernel, rfl⟩
theorem own_d_method_3_code_131 : own_ik method_3_code 131 12 133 := ⟨12, Or.inr (Or.inl ⟨by decide +kernel, by decide, rfl⟩)⟩
theorem own_d_method_3_code_133 : own_ll method_3_code 133 2 134 := Or.inl ⟨2, by decide +kernel, rfl, rfl⟩
theorem own_d_method_3_code_134 : own_ik method_3_code 134 24 136 := ⟨24, Or.inr (Or.inl ⟨by decide +kernel, by decide, rfl⟩)⟩
theorem own_d_method_3_code_136 : own_ix method_3_code 136 .lushr 1 137 := ⟨by decide +kernel, rfl⟩
theorem own_d_method_3_code_137 : own_ix method_3_code 137 .l2i 1 138 := ⟨by decide +kernel, rfl⟩
theorem own_d_method_3_code_138 : own_ix method_3_code 138 .i2b 1 139 := ⟨by decide +kernel, rfl⟩
theorem own_d_method_3_code_139 : own_ix method_3_code 139 .bastore 1 140 := ⟨by decide +kernel, rfl⟩
theorem own_d_method_3_code_140 : own_al method_3_code 140 4 142 := Or.inr ⟨by decide +kernel, rfl⟩
theorem own_d_method_3_code_142 : own_ik method_3_code 142 13 144 := ⟨13, Or.inr (Or.inl ⟨by decide +kernel, by decide, rfl⟩)⟩
theorem own_d_method_3_code_144 : own_ll method_3_code 144 2 145 := Or.inl ⟨2, by decide +kernel, rfl, rfl⟩
theorem own_d_method_3_code_145 : own_ik method_3_code 145 16 147 := ⟨16, Or.inr (Or.inl ⟨by decide +kernel, by decide, rfl⟩)⟩
theorem own_d_method_3_code_147 : own_ix method_3_code 147 .lushr 1 148 := ⟨by decide +kernel, rfl⟩
theorem own_d_method_3_code_148 : own_ix method_3_code 148 .l2i 1 149 := ⟨by decide +kernel, rfl⟩
theorem own_d_method_3_code_149 : own_ix method_3_code 149 .i2b 1 150 := ⟨by decide +kernel, rfl⟩
theorem own_d_method_3_code_150 : own_ix method_3_code 150 .bastore 1 151 := ⟨by decide +kernel, rfl⟩
theorem own_d_method_3_code_151 : own_al method_3_code 151 4 153 := Or.inr ⟨by decide +kernel, rfl⟩
theorem own_d_method_3_code_153 : own_ik method_3_code 153 14 155 := ⟨14, Or.inr (Or.inl ⟨by decide +kernel, by decide, rfl⟩)⟩
theorem own_d_method_3_code_155 : own_ll method_3_code 155 2 156 := Or.inl ⟨2, by decide +kernel, rfl, rfl⟩
theorem own_d_method_3_code_156 : own_ik method_3_code 156 8 158 := ⟨8, Or.inr (Or.inl ⟨by decide +kernel, by decide, rfl⟩)⟩
theorem own_d_method_3_code_158 : own_ix method_3_code 158 .lushr 1 159 := ⟨by decide +kernel, rfl⟩
theorem own_d_method_3_code_159 : own_ix method_3_code 159 .l2i 1 160 := ⟨by decide +kernel, rfl⟩
theorem own_d_method_3_code_160 : own_ix method_3_code 160 .i2b 1 161 := ⟨by decide +kernel, rfl⟩
theorem own_d_method_3_code_161 : own_ix method_3_code 161 .bastore 1 162 := ⟨by decide +kernel, rfl⟩
theorem own_d_method_3_code_162 : own_al method_3_code 162 4 164 := Or.inr ⟨by decide +kernel, rfl⟩
theorem own_d_method_3_code_164 : own_ik method_3_code 164 15 166 := ⟨15, Or.inr (Or.inl ⟨by decide +kernel, by decide, rfl⟩)⟩
theorem own_d_method_3_code_166 : own_ll method_3_code 166 2 167 := Or.inl ⟨2, by decide +kernel, rfl, rfl⟩
theorem own_d_method_3_code_167 : own_ix method_3_code 167 .l2i 1 168 := ⟨by decide +kernel, rfl⟩
theorem own_d_method_3_code_168 : own_ix method_3_code 168 .i2b 1 169 := ⟨by decide +kernel, rfl⟩
theorem own_d_method_3_code_169 : own_ix method_3_code 169 .bastore 1 170 := ⟨by decide +kernel, rfl⟩
theorem own_d_method_3_code_170 : own_al method_3_code 170 4 172 := Or.inr ⟨by decide +kernel, rfl⟩
theorem own_d_method_3_code_172 : own_ix method_3_code 172 .areturn 1 173 := ⟨by decide +kernel, rfl⟩
theorem own_d_prog_70_method_6_code_0 : own_ik prog_70_method_6_code 0 2 1 := ⟨2, Or.inl ⟨by decide +kernel, by decide, rfl⟩⟩
theorem own_d_prog_70_method_6_code_1 : own_ix prog_70_method_6_code 1 (.newarray .long) 2 3 := ⟨by decide +kernel, rfl⟩
theorem own_d_prog_70_method_6_code_3 : own_ix prog_70_method_6_code 3 .dup 1 4 := ⟨by decide +kernel, rfl⟩
theorem own_d_prog_70_method_6_code_4 : own_ik prog_70_method_6_code 4 0 5 := ⟨0, Or.inl ⟨by decide +kernel, by decide, rfl⟩⟩
theorem own_d_prog_70_method_6_code_5 : own_ix prog_70_method_6_code 5 (.ldc2_w 79) 3 8 := ⟨by decide +kernel, rfl⟩
theorem own_d_prog_70_method_6_code_8 : own_ix prog_70_method_6_code 8 .lastore 1 9 := ⟨by decide +kernel, rfl⟩
theorem own_d_prog_70_method_6_code_9 : own_ix prog_70_method_6_code 9 .dup 1 10 := ⟨by decide +kernel, rfl⟩
theorem own_d_prog_70_method_6_code_10 : own_ik prog_70_method_6_code 10 1 11 := ⟨1, Or.inl ⟨by decide +kernel, by decide, rfl⟩⟩
theorem own_d_prog_70_method_6_code_11 : own_lk prog_70_method_6_code 11 0 12 := ⟨0, by decide +kernel, by decide, rfl⟩
theorem own_d_prog_70_method_6_code_12 : own_ix prog_70_method_6_code 12 .lastore 1 13 := ⟨by decide +kernel, rfl⟩
theorem own_d_prog_70_method_6_code_13 : own_sa prog_70_method_6_code 13 3 14 := Or.inl ⟨3, by decide +kernel, rfl, rfl⟩
theorem own_d_prog_70_method_6_code_14 : own_ik prog_70_method_6_code 14 2 15 := ⟨2, Or.inl ⟨by decide +kernel, by decide, rfl⟩⟩
theorem own_d_prog_70_method_6_code_15 : own_ix prog_70_method_6_code 15 (.newarray .long) 2 17 := ⟨by decide +kernel, rfl⟩
theorem own_d_prog_70_method_6_code_17 : own_ix prog_70_method_6_code 17 .dup 1 18 := ⟨by decide +kernel, rfl⟩
theorem own_d_prog_70_method_6_code_18 : own_ik prog_70_method_6_code 18 0 19 := ⟨0, Or.inl ⟨by decide +kernel, by decide, rfl⟩⟩
theorem own_d_prog_70_method_6_code_19 : own_al prog_70_method_6_code 19 0 20 := Or.inl ⟨0, by decide +kernel, rfl, rfl⟩
theorem own_d_prog_70_method_6_code_20 : own_ix prog_70_method_6_code 20 (.getfield 13) 3 23 := ⟨by decide +kernel, rfl⟩
theorem own_d_prog_70_method_6_code_23 : own_ix prog_70_method_6_code 23 .lastore 1 24 := ⟨by decide +kernel, rfl⟩
theorem own_d_prog_70_method_6_code_24 : own_ix prog_70_method_6_code 24 .dup 1 25 := ⟨by decide +kernel, rfl⟩
theorem own_d_prog_70_method_6_code_25 : own_ik prog_70_method_6_code 25 1 26 := ⟨1, Or.inl ⟨by decide +kernel, by decide, rfl⟩⟩
theorem own_d_prog_70_method_6_code_26 : own_al prog_70_method_6_code 26 0 27 := Or.inl ⟨0, by decide +kernel, rfl, rfl⟩
theorem own_d_prog_70_method_6_code_27 : own_ix prog_70_method_6_code 27 (.getfield 17) 3 30 := ⟨by decide +kernel, rfl⟩
theorem own_d_prog_70_method_6_code_30 : own_ix prog_70_method_6_code 30 .lastore 1 31 := ⟨by decide +kernel, rfl⟩
theorem own_d_prog_70_method_6_code_31 : own_sa prog_70_method_6_code 31 4 33 := Or.inr ⟨by decide +kernel, rfl⟩
theorem own_d_prog_70_method_6_code_33 : own_ll prog_70_method_6_code 33 1 34 := Or.inl ⟨1, by decide +kernel, rfl, rfl⟩
theorem own_d_prog_70_method_6_code_34 : own_sl prog_70_method_6_code 34 5 36 := Or.inr ⟨by decide +kernel, rfl⟩
theorem own_d_prog_70_method_6_code_36 : own_ll prog_70_method_6_code 36 5 38 := Or.inr ⟨by decide +kernel, rfl⟩
theorem own_d_prog_70_method_6_code_38 : own_lk prog_70_method_6_code 38 0 39 := ⟨0, by decide +kernel, by decide, rfl⟩
theorem own_d_prog_70_method_6_code_39 : own_ix prog_70_method_6_code 39 .lcmp 1 40 := ⟨by decide +kernel, rfl⟩
theorem own_d_prog_70_method_6_code_40 : own_ifc prog_70_method_6_code 40 .le 43 100 := ⟨60, by decide +kernel, rfl, by decide, by decide⟩
theorem own_d_prog_70_method_6_code_43 : own_ll prog_70_method_6_code 43 5 45 := Or.inr ⟨by decide +kernel, rfl⟩
theorem own_d_prog_70_method_6_code_45 : own_lk prog_70_method_6_code 45 1 46 := ⟨1, by decide +kernel, by decide, rfl⟩
theorem own_d_prog_70_method_6_code_46 : own_ix prog_70_method_6_code 46 .land 1 47 := ⟨by decide +kernel, rfl⟩
theorem own_d_prog_70_method_6_code_47 : own_lk prog_70_method_6_code 47 0 48 := ⟨0, by decide +kernel, by decide, rfl⟩
theorem own_d_prog_70_method_6_code_48 : own_ix prog_70_method_6_code 48 .lcmp 1 49 := ⟨by decide +kernel, rfl⟩
theorem own_d_prog_70_method_6_code_49 : own_ifc prog_70_method_6_code 49 .eq 52 70 := ⟨21, by decide +kernel, rfl, by decide, by decide⟩
theorem own_d_prog_70_method_6_code_52 : own_al prog_70_method_6_code 52 3 53 := Or.inl ⟨3, by decide +kernel, rfl, rfl⟩
theorem own_d_prog_70_method_6_code_53 : own_ik prog_70_method_6_code 53 0 54 := ⟨0, Or.inl ⟨by decide +kernel, by decide, rfl⟩⟩
theorem own_d_prog_70_method_6_code_54 : own_ix prog_70_method_6_code 54 .laload 1 55 := ⟨by decide +kernel, rfl⟩
theorem own_d_prog_70_method_6_code_55 : own_al prog_70_method_6_code 55 3 56 := Or.inl ⟨3, by decide +kernel, rfl, rfl⟩
theorem own_d_prog_70_method_6_code_56 : own_ik prog_70_method_6_code 56 1 57 := ⟨1, Or.inl ⟨by decide +kernel, by decide, rfl⟩⟩
theorem own_d_prog_70_method_6_code_57 : own_ix prog_70_method_6_code 57 .laload 1 58 := ⟨by decide +kernel, rfl⟩
theorem own_d_prog_70_method_6_code_58 : own_al prog_70_method_6_code 58 4 60 := Or.inr ⟨by decide +kernel, rfl⟩
theorem own_d_prog_70_method_6_code_60 : own_ik prog_70_method_6_code 60 0 61 := ⟨0, Or.inl ⟨by decide +kernel, by decide, rfl⟩⟩
theorem own_d_prog_70_method_6_code_61 : own_ix prog_70_method_6_code 61 .laload 1 62 := ⟨by decide +kernel, rfl⟩
theorem own_d_prog_70_method_6_code_62 : own_al prog_70_method_6_code 62 4 64 := Or.inr ⟨by decide +kernel, rfl⟩
theorem own_d_prog_70_method_6_code_64 : own_ik prog_70_method_6_code 64 1 65 := ⟨1, Or.inl ⟨by decide +kernel, by decide, rfl⟩⟩
theorem own_d_prog_70_method_6_code_65 : own_ix prog_70_method_6_code 65 .laload 1 66 := ⟨by decide +kernel, rfl⟩
theorem own_d_prog_70_method_6_code_66 : own_ix prog_70_method_6_code 66 (.invokestatic 22) 3 69 := ⟨by decide +kernel, rfl⟩
theorem own_d_prog_70_method_6_code_69 : own_sa prog_70_method_6_code 69 3 70 := Or.inl ⟨3, by decide +kernel, rfl, rfl⟩
theorem own_d_prog_70_method_6_code_70 : own_al prog_70_method_6_code 70 4 72 := Or.inr ⟨by decide +kernel, rfl⟩
theorem own_d_prog_70_method_6_code_72 : own_ik prog_70_method_6_code 72 0 73 := ⟨0, Or.inl ⟨by decide +kernel, by decide, rfl⟩⟩
theorem own_d_prog_70_method_6_code_73 : own_ix prog_70_method_6_code 73 .laload 1 74 := ⟨by decide +kernel, rfl⟩
theorem own_d_prog_70_method_6_code_74 : own_al prog_70_method_6_code 74 4 76 := Or.inr ⟨by decide +kernel, rfl⟩
theorem own_d_prog_70_method_6_code_76 : own_ik prog_70_method_6_code 76 1 77 := ⟨1, Or.inl ⟨by decide +kernel, by decide, rfl⟩⟩
theorem own_d_prog_70_method_6_code_77 : own_ix prog_70_method_6_code 77 .laload 1 78 := ⟨by decide +kernel, rfl⟩
theorem own_d_prog_70_method_6_code_78 : own_al prog_70_method_6_code 78 4 80 := Or.inr ⟨by decide +kernel, rfl⟩
theorem own_d_prog_70_method_6_code_80 : own_ik prog_70_method_6_code 80 0 81 := ⟨0, Or.inl ⟨by decide +kernel, by decide, rfl⟩⟩
theorem own_d_prog_70_method_6_code_81 : own_ix prog_70_method_6_code 81 .laload 1 82 := ⟨by decide +kernel, rfl⟩
theorem own_d_prog_70_method_6_code_82 : own_al prog_70_method_6_code 82 4 84 := Or.inr ⟨by decide +kernel, rfl⟩
theorem own_d_prog_70_method_6_code_84 : own_ik prog_70_method_6_code 84 1 85 := ⟨1, Or.inl ⟨by decide +kernel, by decide, rfl⟩⟩
theorem own_d_prog_70_method_6_code_85 : own_ix prog_70_method_6_code 85 .laload 1 86 := ⟨by decide +kernel, rfl⟩
theorem own_d_prog_70_method_6_code_86 : own_ix prog_70_method_6_code 86 (.invokestatic 22) 3 89 := ⟨by decide +kernel, rfl⟩
theorem own_d_prog_70_method_6_code_89 : own_sa prog_70_method_6_code 89 4 91 := Or.inr ⟨by decide +kernel, rfl⟩
theorem own_d_prog_70_method_6_code_91 : own_ll prog_70_method_6_code 91 5 93 := Or.inr ⟨by decide +kernel, rfl⟩
theorem own_d_prog_70_method_6_code_93 : own_ik prog_70_method_6_code 93 1 94 := ⟨1, Or.inl ⟨by decide +kernel, by decide, rfl⟩⟩
theorem own_d_prog_70_method_6_code_94 : own_ix prog_70_method_6_code 94 .lushr 1 95 := ⟨by decide +kernel, rfl⟩
theorem own_d_prog_70_method_6_code_95 : own_sl prog_70_method_6_code 95 5 97 := Or.inr ⟨by decide +kernel, rfl⟩
theorem own_d_prog_70_method_6_code_97 : own_gt prog_70_method_6_code 97 36 := ⟨(-61), by decide +kernel, by decide, by decide⟩
theorem own_d_prog_70_method_6_code_100 : own_al prog_70_method_6_code 100 3 101 := Or.inl ⟨3, by decide +kernel, rfl, rfl⟩
theorem own_d_prog_70_method_6_code_101 : own_ix prog_70_method_6_code 101 .areturn 1 102 := ⟨by decide +kernel, rfl⟩
theorem own_d_prog_70_method_7_code_0 : own_ik prog_70_method_7_code 0 2 1 := ⟨2, Or.inl ⟨by decide +kernel, by decide, rfl⟩⟩
theorem own_d_prog_70_method_7_code_1 : own_ix prog_70_method_7_code 1 (.newarray .long) 2 3 := ⟨by decide +kernel, rfl⟩
theorem own_d_prog_70_method_7_code_3 : own_ix prog_70_method_7_code 3 .dup 1 4 := ⟨by decide +kernel, rfl⟩
theorem own_d_prog_70_method_7_code_4 : own_ik prog_70_method_7_code 4 0 5 := ⟨0, Or.inl ⟨by decide +kernel, by decide, rfl⟩⟩
theorem own_d_prog_70_method_7_code_5 : own_ll prog_70_method_7_code 5 0 6 := Or.inl ⟨0, by decide +kernel, rfl, rfl⟩
theorem own_d_prog_70_method_7_code_6 : own_ix prog_70_method_7_code 6 .lastore 1 7 := ⟨by decide +kernel, rfl⟩
theorem own_d_prog_70_method_7_code_7 : own_ix prog_70_method_7_code 7 .dup 1 8 := ⟨by decide +kernel, rfl⟩
theorem own_d_prog_70_method_7_code_8 : own_ik prog_70_method_7_code 8 1 9 := ⟨1, Or.inl ⟨by decide +kernel, by decide, rfl⟩⟩
theorem own_d_prog_70_method_7_code_9 : own_ll prog_70_method_7_code 9 2 10 := Or.inl ⟨2, by decide +kernel, rfl, rfl⟩
theorem own_d_prog_70_method_7_code_10 : own_ix prog_70_method_7_code 10 .lastore 1 11 := ⟨by decide +kernel, rfl⟩
theorem own_d_prog_70_method_7_code_11 : own_sa prog_70_method_7_code 11 4 13 := Or.inr ⟨by decide +kernel, rfl⟩
theorem own_d_prog_70_method_7_code_13 : own_al prog_70_method_7_code 13 4 15 := Or.inr ⟨by decide +kernel, rfl⟩
theorem own_d_prog_70_method_7_code_15 : own_sa prog_70_method_7_code 15 5 17 := Or.inr ⟨by decide +kernel, rfl⟩
theorem own_d_prog_70_method_7_code_17 : own_ik prog_70_method_7_code 17 1 18 := ⟨1, Or.inl ⟨by decide +kernel, by decide, rfl⟩⟩
theorem own_d_prog_70_method_7_code_18 : own_si prog_70_method_7_code 18 6 20 := Or.inr ⟨by decide +kernel, rfl⟩
theorem own_d_prog_70_method_7_code_20 : own_il prog_70_method_7_code 20 6 22 := Or.inr ⟨by decide +kernel, rfl⟩
theorem own_d_prog_70_method_7_code_22 : own_ik prog_70_method_7_code 22 127 24 := ⟨127, Or.inr (Or.inl ⟨by decide +kernel, by decide, rfl⟩)⟩
theorem own_d_prog_70_method_7_code_24 : own_icm prog_70_method_7_code 24 .ge 27 141 := ⟨117, by decide +kernel, rfl, by decide, by decide⟩
theorem own_d_prog_70_method_7_code_141 : own_al prog_70_method_7_code 141 5 143 := Or.inr ⟨by decide +kernel, rfl⟩
theorem own_d_prog_70_method_7_code_143 : own_ik prog_70_method_7_code 143 0 144 := ⟨0, Or.inl ⟨by decide +kernel, by decide, rfl⟩⟩
theorem own_d_prog_70_method_7_code_144 : own_ix prog_70_method_7_code 144 .laload 1 145 := ⟨by decide +kernel, rfl⟩
theorem own_d_prog_70_method_7_code_145 : own_al prog_70_method_7_code 145 5 147 := Or.inr ⟨by decide +kernel, rfl⟩
theorem own_d_prog_70_method_7_code_147 : own_ik prog_70_method_7_code 147 1 148 := ⟨1, Or.inl ⟨by decide +kernel, by decide, rfl⟩⟩
theorem own_d_prog_70_method_7_code_148 : own_ix prog_70_method_7_code 148 .laload 1 149 := ⟨by decide +kernel, rfl⟩
theorem own_d_prog_70_method_7_code_149 : own_al prog_70_method_7_code 149 5 151 := Or.inr ⟨by decide +kernel, rfl⟩
theorem own_d_prog_70_method_7_code_151 : own_ik prog_70_method_7_code 151 0 152 := ⟨0, Or.inl ⟨by decide +kernel, by decide, rfl⟩⟩
theorem own_d_prog_70_method_7_code_152 : own_ix prog_70_method_7_code 152 .laload 1 153 := ⟨by decide +kernel, rfl⟩
theorem own_d_prog_70_method_7_code_153 : own_al prog_70_method_7_code 153 5 155 := Or.inr ⟨by decide +kernel, rfl⟩
theorem own_d_prog_70_method_7_code_155 : own_ik prog_70_method_7_code 155 1 156 := ⟨1, Or.inl ⟨by decide +kernel, by decide, rfl⟩⟩
theorem own_d_prog_70_method_7_code_156 : own_ix prog_70_method_7_code 156 .laload 1 157 := ⟨by decide +kernel, rfl⟩
theorem own_d_prog_70_method_7_code_157 : own_ix prog_70_method_7_code 157 (.invokestatic 22) 3 160 := ⟨by decide +kernel, rfl⟩
theorem own_d_prog_70_method_7_code_160 : own_ix prog_70_method_7_code 160 .areturn 1 161 := ⟨by decide +kernel, rfl⟩
theorem own_d_prog_70_method_7_code_27 : own_il prog_70_method_7_code 27 6 29 := Or.inr ⟨by decide +kernel, rfl⟩
theorem own_d_prog_70_method_7_code_29 : own_ik prog_70_method_7_code 29 2 30 := ⟨2, Or.inl ⟨by decide +kernel, by decide, rfl⟩⟩
theorem own_d_prog_70_method_7_code_30 : own_ix prog_70_method_7_code 30 .irem 1 31 := ⟨by decide +kernel, rfl⟩
theorem own_d_prog_70_method_7_code_31 : own_ik prog_70_method_7_code 31 1 32 := ⟨1, Or.inl ⟨by decide +kernel, by decide, rfl⟩⟩
theorem own_d_prog_70_method_7_code_32 : own_icm prog_70_method_7_code 32 .ne 35 39 := ⟨7, by decide +kernel, rfl, by decide, by decide⟩
theorem own_d_prog_70_method_7_code_35 : own_ik prog_70_method_7_code 35 1 36 := ⟨1, Or.inl ⟨by decide +kernel, by decide, rfl⟩⟩
theorem own_d_prog_70_method_7_code_36 : own_gt prog_70_method_7_code 36 40 := ⟨4, by decide +kernel, by decide, by decide⟩
theorem own_d_prog_70_method_7_code_40 : own_si prog_70_method_7_code 40 7 42 := Or.inr ⟨by decide +kernel, rfl⟩
theorem own_d_prog_70_method_7_code_42 : own_il prog_70_method_7_code 42 7 44 := Or.inr ⟨by decide +kernel, rfl⟩
theorem own_d_prog_70_method_7_code_44 : own_ifc prog_70_method_7_code 44 .eq 47 52 := ⟨8, by decide +kernel, rfl, by decide, by decide⟩
theorem own_d_prog_70_method_7_code_47 : own_il prog_70_method_7_code 47 6 49 := Or.inr ⟨by decide +kernel, rfl⟩
theorem own_d_prog_70_method_7_code_49 : own_gt prog_70_method_7_code 49 53 := ⟨4, by decide +kernel, by decide, by decide⟩
theorem own_d_prog_70_method_7_code_53 : own_si prog_70_method_7_code 53 8 55 := Or.inr ⟨by decide +kernel, rfl⟩
theorem own_d_prog_70_method_7_code_55 : own_al prog_70_method_7_code 55 5 57 := Or.inr ⟨by decide +kernel, rfl⟩
theorem own_d_prog_70_method_7_code_57 : own_sa prog_70_method_7_code 57 9 59 := Or.inr ⟨by decide +kernel, rfl⟩
theorem own_d_prog_70_method_7_code_59 : own_ik prog_70_method_7_code 59 0 60 := ⟨0, Or.inl ⟨by decide +kernel, by decide, rfl⟩⟩
theorem own_d_prog_70_method_7_code_60 : own_si prog_70_method_7_code 60 10 62 := Or.inr ⟨by decide +kernel, rfl⟩
theorem own_d_prog_70_method_7_code_62 : own_il prog_70_method_7_code 62 10 64 := Or.inr ⟨by decide +kernel, rfl⟩
theorem own_d_prog_70_method_7_code_64 : own_il prog_70_method_7_code 64 8 66 := Or.inr ⟨by decide +kernel, rfl⟩
theorem own_d_prog_70_method_7_code_66 : own_icm prog_70_method_7_code 66 .ge 69 96 := ⟨30, by decide +kernel, rfl, by decide, by decide⟩
theorem own_d_prog_70_method_7_code_96 : own_il prog_70_method_7_code 96 7 98 := Or.inr ⟨by decide +kernel, rfl⟩
theorem own_d_prog_70_method_7_code_98 : own_ifc prog_70_method_7_code 98 .eq 101 106 := ⟨8, by decide +kernel, rfl, by decide, by decide⟩
theorem own_d_prog_70_method_7_code_101 : own_al prog_70_method_7_code 101 5 103 := Or.inr ⟨by decide +kernel, rfl⟩
theorem own_d_prog_70_method_7_code_103 : own_gt prog_70_method_7_code 103 108 := ⟨5, by decide +kernel, by decide, by decide⟩
theorem own_d_prog_70_method_7_code_108 : own_sa prog_70_method_7_code 108 10 110 := Or.inr ⟨by decide +kernel, rfl⟩
theorem own_d_prog_70_method_7_code_110 : own_al prog_70_method_7_code 110 9 112 := Or.inr ⟨by decide +kernel, rfl⟩
theorem own_d_prog_70_method_7_code_112 : own_ik prog_70_method_7_code 112 0 113 := ⟨0, Or.inl ⟨by decide +kernel, by decide, rfl⟩⟩
theorem own_d_prog_70_method_7_code_113 : own_ix prog_70_method_7_code 113 .laload 1 114 := ⟨by decide +kernel, rfl⟩
theorem own_d_prog_70_method_7_code_114 : own_al prog_70_method_7_code 114 9 116 := Or.inr ⟨by decide +kernel, rfl⟩
theorem own_d_prog_70_method_7_code_116 : own_ik prog_70_method_7_code 116 1 117 := ⟨1, Or.inl ⟨by decide +kernel, by decide, rfl⟩⟩
theorem own_d_prog_70_method_7_code_117 : own_ix prog_70_method_7_code 117 .laload 1 118 := ⟨by decide +kernel, rfl⟩
theorem own_d_prog_70_method_7_code_118 : own_al prog_70_method_7_code 118 10 120 := Or.inr ⟨by decide +kernel, rfl⟩
theorem own_d_prog_70_method_7_code_120 : own_ik prog_70_method_7_code 120 0 121 := ⟨0, Or.inl ⟨by decide +kernel, by decide, rfl⟩⟩
theorem own_d_prog_70_method_7_code_121 : own_ix prog_70_method_7_code 121 .laload 1 122 := ⟨by decide +kernel, rfl⟩
theorem own_d_prog_70_method_7_code_122 : own_al prog_70_method_7_code 122 10 124 := Or.inr ⟨by decide +kernel, rfl⟩
theorem own_d_prog_70_method_7_code_124 : own_ik prog_70_method_7_code 124 1 125 := ⟨1, Or.inl ⟨by decide +kernel, by decide, rfl⟩⟩
theorem own_d_prog_70_method_7_code_125 : own_ix prog_70_method_7_code 125 .laload 1 126 := ⟨by decide +kernel, rfl⟩
theorem own_d_prog_70_method_7_code_126 : own_ix prog_70_method_7_code 126 (.invokestatic 22) 3 129 := ⟨by decide +kernel, rfl⟩
theorem own_d_prog_70_method_7_code_129 : own_sa prog_70_method_7_code 129 5 131 := Or.inr ⟨by decide +kernel, rfl⟩
theorem own_d_prog_70_method_7_code_131 : own_il prog_70_method_7_code 131 6 133 := Or.inr ⟨by decide +kernel, rfl⟩
theorem own_d_prog_70_method_7_code_133 : own_il prog_70_method_7_code 133 8 135 := Or.inr ⟨by decide +kernel, rfl⟩
theorem own_d_prog_70_method_7_code_135 : own_ix prog_70_method_7_code 135 .iadd 1 136 := ⟨by decide +kernel, rfl⟩
theorem own_d_prog_70_method_7_code_136 : own_si prog_70_method_7_code 136 6 138 := Or.inr ⟨by decide +kernel, rfl⟩
theorem own_d_prog_70_method_7_code_138 : own_gt prog_70_method_7_code 138 20 := ⟨(-118), by decide +kernel, by decide, by decide⟩
theorem own_d_prog_70_method_7_code_69 : own_al prog_70_method_7_code 69 9 71 := Or.inr ⟨by decide +kernel, rfl⟩
theorem own_d_prog_70_method_7_code_71 : own_ik prog_70_method_7_code 71 0 72 := ⟨0, Or.inl ⟨by decide +kernel, by decide, rfl⟩⟩
theorem own_d_prog_70_method_7_code_72 : own_ix prog_70_method_7_code 72 .laload 1 73 := ⟨by decide +kernel, rfl⟩
theorem own_d_prog_70_method_7_code_73 : own_al prog_70_method_7_code 73 9 75 := Or.inr ⟨by decide +kernel, rfl⟩
theorem own_d_prog_70_method_7_code_75 : own_ik prog_70_method_7_code 75 1 76 := ⟨1, Or.inl ⟨by decide +kernel, by decide, rfl⟩⟩
theorem own_d_prog_70_method_7_code_76 : own_ix prog_70_method_7_code 76 .laload 1 77 := ⟨by decide +kernel, rfl⟩
theorem own_d_prog_70_method_7_code_77 : own_al prog_70_method_7_code 77 9 79 := Or.inr ⟨by decide +kernel, rfl⟩
theorem own_d_prog_70_method_7_code_79 : own_ik prog_70_method_7_code 79 0 80 := ⟨0, Or.inl ⟨by decide +kernel, by decide, rfl⟩⟩
theorem own_d_prog_70_method_7_code_80 : own_ix prog_70_method_7_code 80 .laload 1 81 := ⟨by decide +kernel, rfl⟩
theorem own_d_prog_70_method_7_code_81 : own_al prog_70_method_7_code 81 9 83 := Or.inr ⟨by decide +kernel, rfl⟩
theorem own_d_prog_70_method_7_code_83 : own_ik prog_70_method_7_code 83 1 84 := ⟨1, Or.inl ⟨by decide +kernel, by decide, rfl⟩⟩
theorem own_d_prog_70_method_7_code_84 : own_ix prog_70_method_7_code 84 .laload 1 85 := ⟨by decide +kernel, rfl⟩
theorem own_d_prog_70_method_7_code_85 : own_ix prog_70_method_7_code 85 (.invokestatic 22) 3 88 := ⟨by decide +kernel, rfl⟩
theorem own_d_prog_70_method_7_code_88 : own_sa prog_70_method_7_code 88 9 90 := Or.inr ⟨by decide +kernel, rfl⟩
theorem own_d_prog_70_method_7_code_90 : own_ii prog_70_method_7_code 90 10 1 93 := ⟨1, by decide +kernel, by decide, rfl⟩
theorem own_d_prog_70_method_7_code_93 : own_gt prog_70_method_7_code 93 62 := ⟨(-31), by decide +kernel, by decide, by decide⟩
theorem own_d_prog_70_method_7_code_39 : own_ik prog_70_method_7_code 39 0 40 := ⟨0, Or.inl ⟨by decide +kernel, by decide, rfl⟩⟩
theorem own_d_prog_70_method_7_code_52 : own_ik prog_70_method_7_code 52 1 53 := ⟨1, Or.inl ⟨by decide +kernel, by decide, rfl⟩⟩
theorem own_d_prog_70_method_7_code_106 : own_al prog_70_method_7_code 106 4 108 := Or.inr ⟨by decide +kernel, rfl⟩
theorem own_d_prog_70_method_5_code_0 : own_al prog_70_method_5_code 0 0 1 := Or.inl ⟨0, by decide +kernel, rfl, rfl⟩
theorem own_d_prog_70_method_5_code_1 : own_ix prog_70_method_5_code 1 (.getfield 70) 3 4 := ⟨by decide +kernel, rfl⟩
theorem own_d_prog_70_method_5_code_4 : own_inn prog_70_method_5_code 4 7 40 := ⟨36, by decide +kernel, rfl, by decide, by decide⟩
theorem own_d_prog_70_method_5_code_7 : own_al prog_70_method_5_code 7 0 8 := Or.inl ⟨0, by decide +kernel, rfl, rfl⟩
theorem own_d_prog_70_method_5_code_8 : own_ix prog_70_method_5_code 8 (.getfield 13) 3 11 := ⟨by decide +kernel, rfl⟩
theorem own_d_prog_70_method_5_code_11 : own_al prog_70_method_5_code 11 0 12 := Or.inl ⟨0, by decide +kernel, rfl, rfl⟩
theorem own_d_prog_70_method_5_code_12 : own_ix prog_70_method_5_code 12 (.getfield 17) 3 15 := ⟨by decide +kernel, rfl⟩
theorem own_d_prog_70_method_5_code_15 : own_al prog_70_method_5_code 15 0 16 := Or.inl ⟨0, by decide +kernel, rfl, rfl⟩
theorem own_d_prog_70_method_5_code_16 : own_ix prog_70_method_5_code 16 (.getfield 13) 3 19 := ⟨by decide +kernel, rfl⟩
theorem own_d_prog_70_method_5_code_19 : own_al prog_70_method_5_code 19 0 20 := Or.inl ⟨0, by decide +kernel, rfl, rfl⟩
theorem own_d_prog_70_method_5_code_20 : own_ix prog_70_method_5_code 20 (.getfield 17) 3 23 := ⟨by decide +kernel, rfl⟩
theorem own_d_prog_70_method_5_code_23 : own_ix prog_70_method_5_code 23 (.invokestatic 22) 3 26 := ⟨by decide +kernel, rfl⟩
theorem own_d_prog_70_method_5_code_26 : own_sa prog_70_method_5_code 26 2 27 := Or.inl ⟨2, by decide +kernel, rfl, rfl⟩
theorem own_d_prog_70_method_5_code_27 : own_al prog_70_method_5_code 27 0 28 := Or.inl ⟨0, by decide +kernel, rfl, rfl⟩
theorem own_d_prog_70_method_5_code_28 : own_al prog_70_method_5_code 28 2 29 := Or.inl ⟨2, by decide +kernel, rfl, rfl⟩
theorem own_d_prog_70_method_5_code_29 : own_ik prog_70_method_5_code 29 0 30 := ⟨0, Or.inl ⟨by decide +kernel, by decide, rfl⟩⟩
theorem own_d_prog_70_method_5_code_30 : own_ix prog_70_method_5_code 30 .laload 1 31 := ⟨by decide +kernel, rfl⟩
theorem own_d_prog_70_method_5_code_31 : own_al prog_70_method_5_code 31 2 32 := Or.inl ⟨2, by decide +kernel, rfl, rfl⟩
theorem own_d_prog_70_method_5_code_32 : own_ik prog_70_method_5_code 32 1 33 := ⟨1, Or.inl ⟨by decide +kernel, by decide, rfl⟩⟩
theorem own_d_prog_70_method_5_code_33 : own_ix prog_70_method_5_code 33 .laload 1 34 := ⟨by decide +kernel, rfl⟩
theorem own_pd__JJ__J : parseMethodDescriptor "(JJ)[J" = some ⟨[.long, .long], some (.array .long)⟩ := by decide +kernel
theorem own_d_prog_70_method_5_code_34 : own_ix prog_70_method_5_code 34 (.invokestatic 73) 3 37 := ⟨by decide +kernel, rfl⟩
theorem own_d_prog_70_method_5_code_37 : own_ix prog_70_method_5_code 37 (.putfield 70) 3 40 := ⟨by decide +kernel, rfl⟩
theorem own_d_prog_70_method_5_code_40 : own_al prog_70_method_5_code 40 1 41 := Or.inl ⟨1, by decide +kernel, rfl, rfl⟩
theorem own_d_prog_70_method_5_code_41 : own_ik prog_70_method_5_code 41 0 42 := ⟨0, Or.inl ⟨by decide +kernel, by decide, rfl⟩⟩
theorem own_d_prog_70_method_5_code_42 : own_ix prog_70_method_5_code 42 (.invokestatic 7) 3 45 := ⟨by decide +kernel, rfl⟩
theorem own_d_prog_70_method_5_code_45 : own_al prog_70_method_5_code 45 0 46 := Or.inl ⟨0, by decide +kernel, rfl, rfl⟩
theorem own_d_prog_70_method_5_code_46 : own_ix prog_70_method_5_code 46 (.getfield 26) 3 49 := ⟨by decide +kernel, rfl⟩
theorem own_d_prog_70_method_5_code_49 : own_ik prog_70_method_5_code 49 0 50 := ⟨0, Or.inl ⟨by decide +kernel, by decide, rfl⟩⟩
theorem own_d_prog_70_method_5_code_50 : own_ix prog_70_method_5_code 50 .laload 1 51 := ⟨by decide +kernel, rfl⟩
theorem own_d_prog_70_method_5_code_51 : own_ix prog_70_method_5_code 51 .lxor 1 52 := ⟨by decide +kernel, rfl⟩
theorem own_d_prog_70_method_5_code_52 : own_al prog_70_method_5_code 52 1 53 := Or.inl ⟨1, by decide +kernel, rfl, rfl⟩
theorem own_d_prog_70_method_5_code_53 : own_ik prog_70_method_5_code 53 8 55 := ⟨8, Or.inr (Or.inl ⟨by decide +kernel, by decide, rfl⟩)⟩
theorem own_d_prog_70_method_5_code_55 : own_ix prog_70_method_5_code 55 (.invokestatic 7) 3 58 := ⟨by decide +kernel, rfl⟩
theorem own_d_prog_70_method_5_code_58 : own_al prog_70_method_5_code 58 0 59 := Or.inl ⟨0, by decide +kernel, rfl, rfl⟩
theorem own_d_prog_70_method_5_code_59 : own_ix prog_70_method_5_code 59 (.getfield 26) 3 62 := ⟨by decide +kernel, rfl⟩
theorem own_d_prog_70_method_5_code_62 : own_ik prog_70_method_5_code 62 1 63 := ⟨1, Or.inl ⟨by decide +kernel, by decide, rfl⟩⟩
theorem own_d_prog_70_method_5_code_63 : own_ix prog_70_method_5_code 63 .laload 1 64 := ⟨by decide +kernel, rfl⟩
theorem own_d_prog_70_method_5_code_64 : own_ix prog_70_method_5_code 64 .lxor 1 65 := ⟨by decide +kernel, rfl⟩
theorem own_d_prog_70_method_5_code_65 : own_al prog_70_method_5_code 65 0 66 := Or.inl ⟨0, by decide +kernel, rfl, rfl⟩
theorem own_d_prog_70_method_5_code_66 : own_ix prog_70_method_5_code 66 (.getfield 70) 3 69 := ⟨by decide +kernel, rfl⟩
theorem own_d_prog_70_method_5_code_69 : own_ik prog_70_method_5_code 69 0 70 := ⟨0, Or.inl ⟨by decide +kernel, by decide, rfl⟩⟩
theorem own_d_prog_70_method_5_code_70 : own_ix prog_70_method_5_code 70 .laload 1 71 := ⟨by decide +kernel, rfl⟩
theorem own_d_prog_70_method_5_code_71 : own_al prog_70_method_5_code 71 0 72 := Or.inl ⟨0, by decide +kernel, rfl, rfl⟩
theorem own_d_prog_70_method_5_code_72 : own_ix prog_70_method_5_code 72 (.getfield 70) 3 75 := ⟨by decide +kernel, rfl⟩
theorem own_d_prog_70_method_5_code_75 : own_ik prog_70_method_5_code 75 1 76 := ⟨1, Or.inl ⟨by decide +kernel, by decide, rfl⟩⟩
theorem own_d_prog_70_method_5_code_76 : own_ix prog_70_method_5_code 76 .laload 1 77 := ⟨by decide +kernel, rfl⟩
theorem own_d_prog_70_method_5_code_77 : own_ix prog_70_method_5_code 77 (.invokestatic 22) 3 80 := ⟨by decide +kernel, rfl⟩
theorem own_d_prog_70_method_5_code_80 : own_sa prog_70_method_5_code 80 2 81 := Or.inl ⟨2, by decide +kernel, rfl, rfl⟩
theorem own_d_prog_70_method_5_code_81 : own_al prog_70_method_5_code 81 2 82 := Or.inl ⟨2, by decide +kernel, rfl, rfl⟩
theorem own_d_prog_70_method_5_code_82 : own_ik prog_70_method_5_code 82 0 83 := ⟨0, Or.inl ⟨by decide +kernel, by decide, rfl⟩⟩
theorem own_d_prog_70_method_5_code_83 : own_ix prog_70_method_5_code 83 .laload 1 84 := ⟨by decide +kernel, rfl⟩
theorem own_d_prog_70_method_5_code_84 : own_al prog_70_method_5_code 84 2 85 := Or.inl ⟨2, by decide +kernel, rfl, rfl⟩
theorem own_d_prog_70_method_5_code_85 : own_ik prog_70_method_5_code 85 1 86 := ⟨1, Or.inl ⟨by decide +kernel, by decide, rfl⟩⟩
theorem own_d_prog_70_method_5_code_86 : own_ix prog_70_method_5_code 86 .laload 1 87 := ⟨by decide +kernel, rfl⟩
theorem own_pd__JJ__B : parseMethodDescriptor "(JJ)[B" = some ⟨[.long, .long], some (.array .byte)⟩ := by decide +kernel
theorem own_d_prog_70_method_5_code_87 : own_ix prog_70_method_5_code 87 (.invokestatic 66) 3 90 := ⟨by decide +kernel, rfl⟩
theorem own_d_prog_70_method_5_code_90 : own_ix prog_70_method_5_code 90 .areturn 1 91 := ⟨by decide +kernel, rfl⟩
theorem own_d_prog_70_method_2_code_0 : own_al prog_70_method_2_code 0 0 1 := Or.inl ⟨0, by decide +kernel, rfl, rfl⟩
theorem own_d_prog_70_method_2_code_1 : own_ix prog_70_method_2_code 1 (.getfield 30) 3 4 := ⟨by decide +kernel, rfl⟩
theorem own_d_prog_70_method_2_code_4 : own_ifc prog_70_method_2_code 4 .eq 7 17 := ⟨13, by decide +kernel, rfl, by decide, by decide⟩
theorem own_d_prog_70_method_2_code_17 : own_ll prog_70_method_2_code 17 2 18 := Or.inl ⟨2, by decide +kernel, rfl, rfl⟩
theorem own_d_prog_70_method_2_code_18 : own_lk prog_70_method_2_code 18 0 19 := ⟨0, by decide +kernel, by decide, rfl⟩
theorem own_d_prog_70_method_2_code_19 : own_ix prog_70_method_2_code 19 .lcmp 1 20 := ⟨by decide +kernel, rfl⟩
theorem own_d_prog_70_method_2_code_20 : own_ifc prog_70_method_2_code 20 .le 23 174 := ⟨154, by decide +kernel, rfl, by decide, by decide⟩
theorem own_d_prog_70_method_2_code_23 : own_ll prog_70_method_2_code 23 2 24 := Or.inl ⟨2, by decide +kernel, rfl, rfl⟩
theorem own_d_prog_70_method_2_code_24 : own_al prog_70_method_2_code 24 0 25 := Or.inl ⟨0, by decide +kernel, rfl, rfl⟩
theorem own_d_prog_70_method_2_code_25 : own_ix prog_70_method_2_code 25 (.getfield 41) 3 28 := ⟨by decide +kernel, rfl⟩
theorem own_d_prog_70_method_2_code_28 : own_ix prog_70_method_2_code 28 .lcmp 1 29 := ⟨by decide +kernel, rfl⟩
theorem own_d_prog_70_method_2_code_29 : own_ifc prog_70_method_2_code 29 .eq 32 77 := ⟨48, by decide +kernel, rfl, by decide, by decide⟩
theorem own_d_prog_70_method_2_code_32 : own_al prog_70_method_2_code 32 0 33 := Or.inl ⟨0, by decide +kernel, rfl, rfl⟩
theorem own_d_prog_70_method_2_code_33 : own_lk prog_70_method_2_code 33 0 34 := ⟨0, by decide +kernel, by decide, rfl⟩
theorem own_d_prog_70_method_2_code_34 : own_ll prog_70_method_2_code 34 2 35 := Or.inl ⟨2, by decide +kernel, rfl, rfl⟩
theorem own_d_prog_70_method_2_code_35 : own_ix prog_70_method_2_code 35 (.ldc2_w 44) 3 38 := ⟨by decide +kernel, rfl⟩
theorem own_d_prog_70_method_2_code_38 : own_ix prog_70_method_2_code 38 .lmul 1 39 := ⟨by decide +kernel, rfl⟩
theorem own_d_prog_70_method_2_code_39 : own_al prog_70_method_2_code 39 0 40 := Or.inl ⟨0, by decide +kernel, rfl, rfl⟩
theorem own_d_prog_70_method_2_code_40 : own_ix prog_70_method_2_code 40 (.getfield 13) 3 43 := ⟨by decide +kernel, rfl⟩
theorem own_d_prog_70_method_2_code_43 : own_al prog_70_method_2_code 43 0 44 := Or.inl ⟨0, by decide +kernel, rfl, rfl⟩
theorem own_d_prog_70_method_2_code_44 : own_ix prog_70_method_2_code 44 (.getfield 17) 3 47 := ⟨by decide +kernel, rfl⟩
theorem own_d_prog_70_method_2_code_47 : own_ix prog_70_method_2_code 47 (.invokestatic 22) 3 50 := ⟨by decide +kernel, rfl⟩
theorem own_d_prog_70_method_2_code_50 : own_ix prog_70_method_2_code 50 (.putfield 46) 3 53 := ⟨by decide +kernel, rfl⟩
theorem own_d_prog_70_method_2_code_53 : own_al prog_70_method_2_code 53 0 54 := Or.inl ⟨0, by decide +kernel, rfl, rfl⟩
theorem own_d_prog_70_method_2_code_54 : own_al prog_70_method_2_code 54 0 55 := Or.inl ⟨0, by decide +kernel, rfl, rfl⟩
theorem own_d_prog_70_method_2_code_55 : own_ll prog_70_method_2_code 55 2 56 := Or.inl ⟨2, by decide +kernel, rfl, rfl⟩
theorem own_d_prog_70_method_2_code_56 : own_ix prog_70_method_2_code 56 (.ldc2_w 49) 3 59 := ⟨by decide +kernel, rfl⟩
theorem own_d_prog_70_method_2_code_59 : own_ix prog_70_method_2_code 59 .ladd 1 60 := ⟨by decide +kernel, rfl⟩
theorem own_d_prog_70_method_2_code_60 : own_lk prog_70_method_2_code 60 1 61 := ⟨1, by decide +kernel, by decide, rfl⟩
theorem own_d_prog_70_method_2_code_61 : own_ix prog_70_method_2_code 61 .lsub 1 62 := ⟨by decide +kernel, rfl⟩
theorem own_d_prog_70_method_2_code_62 : own_ix prog_70_method_2_code 62 (.ldc2_w 49) 3 65 := ⟨by decide +kernel, rfl⟩
theorem own_d_prog_70_method_2_code_65 : own_ix prog_70_method_2_code 65 .ldiv 1 66 := ⟨by decide +kernel, rfl⟩
theorem own_pd__J__J : parseMethodDescriptor "(J)[J" = some ⟨[.long], some (.array .long)⟩ := by decide +kernel
theorem own_d_prog_70_method_2_code_66 : own_ix prog_70_method_2_code 66 (.invokevirtual 51) 3 69 := ⟨by decide +kernel, rfl⟩
theorem own_d_prog_70_method_2_code_69 : own_ix prog_70_method_2_code 69 (.putfield 55) 3 72 := ⟨by decide +kernel, rfl⟩
theorem own_d_prog_70_method_2_code_72 : own_al prog_70_method_2_code 72 0 73 := Or.inl ⟨0, by decide +kernel, rfl, rfl⟩
theorem own_d_prog_70_method_2_code_73 : own_ll prog_70_method_2_code 73 2 74 := Or.inl ⟨2, by decide +kernel, rfl, rfl⟩
theorem own_d_prog_70_method_2_code_74 : own_ix prog_70_method_2_code 74 (.putfield 41) 3 77 := ⟨by decide +kernel, rfl⟩
theorem own_d_prog_70_method_2_code_77 : own_al prog_70_method_2_code 77 0 78 := Or.inl ⟨0, by decide +kernel, rfl, rfl⟩
theorem own_d_prog_70_method_2_code_78 : own_ix prog_70_method_2_code 78 (.getfield 57) 3 81 := ⟨by decide +kernel, rfl⟩
theorem own_d_prog_70_method_2_code_81 : own_al prog_70_method_2_code 81 0 82 := Or.inl ⟨0, by decide +kernel, rfl, rfl⟩
theorem own_d_prog_70_method_2_code_82 : own_ix prog_70_method_2_code 82 (.getfield 60) 3 85 := ⟨by decide +kernel, rfl⟩
theorem own_d_prog_70_method_2_code_85 : own_al prog_70_method_2_code 85 0 86 := Or.inl ⟨0, by decide +kernel, rfl, rfl⟩
theorem own_d_prog_70_method_2_code_86 : own_ix prog_70_method_2_code 86 (.getfield 55) 3 89 := ⟨by decide +kernel, rfl⟩
theorem own_d_prog_70_method_2_code_89 : own_ik prog_70_method_2_code 89 0 90 := ⟨0, Or.inl ⟨by decide +kernel, by decide, rfl⟩⟩
theorem own_d_prog_70_method_2_code_90 : own_ix prog_70_method_2_code 90 .laload 1 91 := ⟨by decide +kernel, rfl⟩
theorem own_d_prog_70_method_2_code_91 : own_al prog_70_method_2_code 91 0 92 := Or.inl ⟨0, by decide +kernel, rfl, rfl⟩
theorem own_d_prog_70_method_2_code_92 : own_ix prog_70_method_2_code 92 (.getfield 55) 3 95 := ⟨by decide +kernel, rfl⟩
theorem own_d_prog_70_method_2_code_95 : own_ik prog_70_method_2_code 95 1 96 := ⟨1, Or.inl ⟨by decide +kernel, by decide, rfl⟩⟩
theorem own_d_prog_70_method_2_code_96 : own_ix prog_70_method_2_code 96 .laload 1 97 := ⟨by decide +kernel, rfl⟩
theorem own_d_prog_70_method_2_code_97 : own_ix prog_70_method_2_code 97 (.invokestatic 22) 3 100 := ⟨by decide +kernel, rfl⟩
theorem own_d_prog_70_method_2_code_100 : own_sa prog_70_method_2_code 100 4 102 := Or.inr ⟨by decide +kernel, rfl⟩
theorem own_d_prog_70_method_2_code_102 : own_al prog_70_method_2_code 102 0 103 := Or.inl ⟨0, by decide +kernel, rfl, rfl⟩
theorem own_d_prog_70_method_2_code_103 : own_al prog_70_method_2_code 103 4 105 := Or.inr ⟨by decide +kernel, rfl⟩
theorem own_d_prog_70_method_2_code_105 : own_ik prog_70_method_2_code 105 0 106 := ⟨0, Or.inl ⟨by decide +kernel, by decide, rfl⟩⟩
theorem own_d_prog_70_method_2_code_106 : own_ix prog_70_method_2_code 106 .laload 1 107 := ⟨by decide +kernel, rfl⟩
theorem own_d_prog_70_method_2_code_107 : own_al prog_70_method_2_code 107 1 108 := Or.inl ⟨1, by decide +kernel, rfl, rfl⟩
theorem own_d_prog_70_method_2_code_108 : own_ik prog_70_method_2_code 108 0 109 := ⟨0, Or.inl ⟨by decide +kernel, by decide, rfl⟩⟩
theorem own_d_prog_70_method_2_code_109 : own_ix prog_70_method_2_code 109 (.invokestatic 7) 3 112 := ⟨by decide +kernel, rfl⟩
theorem own_d_prog_70_method_2_code_112 : own_ix prog_70_method_2_code 112 .lxor 1 113 := ⟨by decide +kernel, rfl⟩
theorem own_d_prog_70_method_2_code_113 : own_al prog_70_method_2_code 113 0 114 := Or.inl ⟨0, by decide +kernel, rfl, rfl⟩
theorem own_d_prog_70_method_2_code_114 : own_ix prog_70_method_2_code 114 (.getfield 46) 3 117 := ⟨by decide +kernel, rfl⟩
theorem own_d_prog_70_method_2_code_117 : own_ik prog_70_method_2_code 117 0 118 := ⟨0, Or.inl ⟨by decide +kernel, by decide, rfl⟩⟩
theorem own_d_prog_70_method_2_code_118 : own_ix prog_70_method_2_code 118 .laload 1 119 := ⟨by decide +kernel, rfl⟩
theorem own_d_prog_70_method_2_code_119 : own_ix prog_70_method_2_code 119 .lxor 1 120 := ⟨by decide +kernel, rfl⟩
theorem own_d_prog_70_method_2_code_120 : own_ix prog_70_method_2_code 120 (.putfield 57) 3 123 := ⟨by decide +kernel, rfl⟩
theorem own_d_prog_70_method_2_code_123 : own_al prog_70_method_2_code 123 0 124 := Or.inl ⟨0, by decide +kernel, rfl, rfl⟩
theorem own_d_prog_70_method_2_code_124 : own_al prog_70_method_2_code 124 4 126 := Or.inr ⟨by decide +kernel, rfl⟩
theorem own_d_prog_70_method_2_code_126 : own_ik prog_70_method_2_code 126 1 127 := ⟨1, Or.inl ⟨by decide +kernel, by decide, rfl⟩⟩
theorem own_d_prog_70_method_2_code_127 : own_ix prog_70_method_2_code 127 .laload 1 128 := ⟨by decide +kernel, rfl⟩
theorem own_d_prog_70_method_2_code_128 : own_al prog_70_method_2_code 128 1 129 := Or.inl ⟨1, by decide +kernel, rfl, rfl⟩
theorem own_d_prog_70_method_2_code_129 : own_ik prog_70_method_2_code 129 8 131 := ⟨8, Or.inr (Or.inl ⟨by decide +kernel, by decide, rfl⟩)⟩
theorem own_d_prog_70_method_2_code_131 : own_ix prog_70_method_2_code 131 (.invokestatic 7) 3 134 := ⟨by decide +kernel, rfl⟩
theorem own_d_prog_70_method_2_code_134 : own_ix prog_70_method_2_code 134 .lxor 1 135 := ⟨by decide +kernel, rfl⟩
theorem own_d_prog_70_method_2_code_135 : own_al prog_70_method_2_code 135 0 136 := Or.inl ⟨0, by decide +kernel, rfl, rfl⟩
theorem own_d_prog_70_method_2_code_136 : own_ix prog_70_method_2_code 136 (.getfield 46) 3 139 := ⟨by decide +kernel, rfl⟩
theorem own_d_prog_70_method_2_code_139 : own_ik prog_70_method_2_code 139 1 140 := ⟨1, Or.inl ⟨by decide +kernel, by decide, rfl⟩⟩
theorem own_d_prog_70_method_2_code_140 : own_ix prog_70_method_2_code 140 .laload 1 141 := ⟨by decide +kernel, rfl⟩
theorem own_d_prog_70_method_2_code_141 : own_ix prog_70_method_2_code 141 .lxor 1 142 := ⟨by decide +kernel, rfl⟩
theorem own_d_prog_70_method_2_code_142 : own_ix prog_70_method_2_code 142 (.putfield 60) 3 145 := ⟨by decide +kernel, rfl⟩
theorem own_d_prog_70_method_2_code_145 : own_al prog_70_method_2_code 145 0 146 := Or.inl ⟨0, by decide +kernel, rfl, rfl⟩
theorem own_d_prog_70_method_2_code_146 : own_ix prog_70_method_2_code 146 .dup 1 147 := ⟨by decide +kernel, rfl⟩
theorem own_d_prog_70_method_2_code_147 : own_ix prog_70_method_2_code 147 (.getfield 63) 3 150 := ⟨by decide +kernel, rfl⟩
theorem own_d_prog_70_method_2_code_150 : own_ll prog_70_method_2_code 150 2 151 := Or.inl ⟨2, by decide +kernel, rfl, rfl⟩
theorem own_d_prog_70_method_2_code_151 : own_ix prog_70_method_2_code 151 .ladd 1 152 := ⟨by decide +kernel, rfl⟩
theorem own_d_prog_70_method_2_code_152 : own_ix prog_70_method_2_code 152 (.putfield 63) 3 155 := ⟨by decide +kernel, rfl⟩
theorem own_d_prog_70_method_2_code_155 : own_al prog_70_method_2_code 155 0 156 := Or.inl ⟨0, by decide +kernel, rfl, rfl⟩
theorem own_d_prog_70_method_2_code_156 : own_ll prog_70_method_2_code 156 2 157 := Or.inl ⟨2, by decide +kernel, rfl, rfl⟩
theorem own_d_prog_70_method_2_code_157 : own_ix prog_70_method_2_code 157 (.ldc2_w 49) 3 160 := ⟨by decide +kernel, rfl⟩
theorem own_d_prog_70_method_2_code_160 : own_ix prog_70_method_2_code 160 .lrem 1 161 := ⟨by decide +kernel, rfl⟩
theorem own_d_prog_70_method_2_code_161 : own_lk prog_70_method_2_code 161 0 162 := ⟨0, by decide +kernel, by decide, rfl⟩
theorem own_d_prog_70_method_2_code_162 : own_ix prog_70_method_2_code 162 .lcmp 1 163 := ⟨by decide +kernel, rfl⟩
theorem own_d_prog_70_method_2_code_163 : own_ifc prog_70_method_2_code 163 .eq 166 170 := ⟨7, by decide +kernel, rfl, by decide, by decide⟩
theorem own_d_prog_70_method_2_code_170 : own_ik prog_70_method_2_code 170 0 171 := ⟨0, Or.inl ⟨by decide +kernel, by decide, rfl⟩⟩
theorem own_d_prog_70_method_2_code_171 : own_ix prog_70_method_2_code 171 (.putfield 30) 3 174 := ⟨by decide +kernel, rfl⟩
theorem own_d_prog_70_method_2_code_174 : own_ix prog_70_method_2_code 174 .return_ 1 175 := ⟨by decide +kernel, rfl⟩
theorem own_d_prog_70_method_4_code_0 : own_lk prog_70_method_4_code 0 0 1 := ⟨0, by decide +kernel, by decide, rfl⟩
theorem own_d_prog_70_method_4_code_1 : own_al prog_70_method_4_code 1 0 2 := Or.inl ⟨0, by decide +kernel, rfl, rfl⟩
theorem own_d_prog_70_method_4_code_2 : own_ix prog_70_method_4_code 2 (.getfield 63) 3 5 := ⟨by decide +kernel, rfl⟩
theorem own_d_prog_70_method_4_code_5 : own_ix prog_70_method_4_code 5 (.ldc2_w 44) 3 8 := ⟨by decide +kernel, rfl⟩
theorem own_d_prog_70_method_4_code_8 : own_ix prog_70_method_4_code 8 .lmul 1 9 := ⟨by decide +kernel, rfl⟩
theorem own_d_prog_70_method_4_code_9 : own_al prog_70_method_4_code 9 0 10 := Or.inl ⟨0, by decide +kernel, rfl, rfl⟩
theorem own_d_prog_70_method_4_code_10 : own_ix prog_70_method_4_code 10 (.getfield 13) 3 13 := ⟨by decide +kernel, rfl⟩
theorem own_d_prog_70_method_4_code_13 : own_al prog_70_method_4_code 13 0 14 := Or.inl ⟨0, by decide +kernel, rfl, rfl⟩
theorem own_d_prog_70_method_4_code_14 : own_ix prog_70_method_4_code 14 (.getfield 17) 3 17 := ⟨by decide +kernel, rfl⟩
theorem own_d_prog_70_method_4_code_17 : own_ix prog_70_method_4_code 17 (.invokestatic 22) 3 20 := ⟨by decide +kernel, rfl⟩
theorem own_d_prog_70_method_4_code_20 : own_sa prog_70_method_4_code 20 1 21 := Or.inl ⟨1, by decide +kernel, rfl, rfl⟩
theorem own_d_prog_70_method_4_code_21 : own_al prog_70_method_4_code 21 0 22 := Or.inl ⟨0, by decide +kernel, rfl, rfl⟩
theorem own_d_prog_70_method_4_code_22 : own_ix prog_70_method_4_code 22 (.getfield 57) 3 25 := ⟨by decide +kernel, rfl⟩
theorem own_d_prog_70_method_4_code_25 : own_al prog_70_method_4_code 25 1 26 := Or.inl ⟨1, by decide +kernel, rfl, rfl⟩
theorem own_d_prog_70_method_4_code_26 : own_ik prog_70_method_4_code 26 0 27 := ⟨0, Or.inl ⟨by decide +kernel, by decide, rfl⟩⟩
theorem own_d_prog_70_method_4_code_27 : own_ix prog_70_method_4_code 27 .laload 1 28 := ⟨by decide +kernel, rfl⟩
theorem own_d_prog_70_method_4_code_28 : own_ix prog_70_method_4_code 28 .lxor 1 29 := ⟨by decide +kernel, rfl⟩
theorem own_d_prog_70_method_4_code_29 : own_al prog_70_method_4_code 29 0 30 := Or.inl ⟨0, by decide +kernel, rfl, rfl⟩
theorem own_d_prog_70_method_4_code_30 : own_ix prog_70_method_4_code 30 (.getfield 60) 3 33 := ⟨by decide +kernel, rfl⟩
theorem own_d_prog_70_method_4_code_33 : own_al prog_70_method_4_code 33 1 34 := Or.inl ⟨1, by decide +kernel, rfl, rfl⟩
theorem own_d_prog_70_method_4_code_34 : own_ik prog_70_method_4_code 34 1 35 := ⟨1, Or.inl ⟨by decide +kernel, by decide, rfl⟩⟩
theorem own_d_prog_70_method_4_code_35 : own_ix prog_70_method_4_code 35 .laload 1 36 := ⟨by decide +kernel, rfl⟩
theorem own_d_prog_70_method_4_code_36 : own_ix prog_70_method_4_code 36 .lxor 1 37 := ⟨by decide +kernel, rfl⟩
theorem own_d_prog_70_method_4_code_37 : own_ix prog_70_method_4_code 37 (.invokestatic 66) 3 40 := ⟨by decide +kernel, rfl⟩
theorem own_d_prog_70_method_4_code_40 : own_ix prog_70_method_4_code 40 .areturn 1 41 := ⟨by decide +kernel, rfl⟩
theorem own_d_code_0 : own_ll code 0 0 1 := Or.inl ⟨0, by decide +kernel, rfl, rfl⟩
theorem own_d_code_1 : own_sl code 1 11 3 := Or.inr ⟨by decide +kernel, rfl⟩
theorem own_d_code_3 : own_ll code 3 0 4 := Or.inl ⟨0, by decide +kernel, rfl, rfl⟩
theorem own_d_code_4 : own_ll code 4 2 5 := Or.inl ⟨2, by decide +kernel, rfl, rfl⟩
theorem own_d_code_5 : own_ix code 5 .lor 1 6 := ⟨by decide +kernel, rfl⟩
theorem own_d_code_6 : own_lk code 6 0 7 := ⟨0, by decide +kernel, by decide, rfl⟩
theorem own_d_code_7 : own_ix code 7 .lcmp 1 8 := ⟨by decide +kernel, rfl⟩
theorem own_d_code_8 : own_ifc code 8 .ne 11 16 := ⟨8, by decide +kernel, rfl, by decide, by decide⟩
theorem own_d_code_11 : own_ix code 11 (.ldc2_w 9) 3 14 := ⟨by decide +kernel, rfl⟩
theorem own_d_code_14 : own_sl code 14 11 16 := Or.inr ⟨by decide +kernel, rfl⟩
theorem own_d_code_16 : own_ll code 16 11 18 := Or.inr ⟨by decide +kernel, rfl⟩
theorem own_d_code_18 : own_ll code 18 2 19 := Or.inl ⟨2, by decide +kernel, rfl, rfl⟩
theorem own_d_code_19 : own_ix code 19 (.invokestatic 11) 3 22 := ⟨by decide +kernel, rfl⟩
theorem own_d_code_22 : own_sa code 22 13 24 := Or.inr ⟨by decide +kernel, rfl⟩
theorem own_d_code_24 : own_ll code 24 4 26 := Or.inr ⟨by decide +kernel, rfl⟩
theorem own_d_code_26 : own_ll code 26 6 28 := Or.inr ⟨by decide +kernel, rfl⟩
theorem own_d_code_28 : own_ix code 28 (.invokestatic 11) 3 31 := ⟨by decide +kernel, rfl⟩
theorem own_d_code_31 : own_sa code 31 14 33 := Or.inr ⟨by decide +kernel, rfl⟩
theorem own_d_code_33 : own_ll code 33 8 35 := Or.inr ⟨by decide +kernel, rfl⟩
theorem own_d_code_35 : own_ll code 35 6 37 := Or.inr ⟨by decide +kernel, rfl⟩
theorem own_d_code_37 : own_ll code 37 0 38 := Or.inl ⟨0, by decide +kernel, rfl, rfl⟩
theorem own_d_code_38 : own_ix code 38 .lxor 1 39 := ⟨by decide +kernel, rfl⟩
theorem own_d_code_39 : own_ix code 39 (.invokestatic 11) 3 42 := ⟨by decide +kernel, rfl⟩
theorem own_d_code_42 : own_sa code 42 15 44 := Or.inr ⟨by decide +kernel, rfl⟩
theorem own_d_code_44 : own_lk code 44 0 45 := ⟨0, by decide +kernel, by decide, rfl⟩
theorem own_d_code_45 : own_ix code 45 (.ldc2_w 17) 3 48 := ⟨by decide +kernel, rfl⟩
theorem own_d_code_48 : own_ix code 48 (.invokestatic 11) 3 51 := ⟨by decide +kernel, rfl⟩
theorem own_d_code_51 : own_sa code 51 16 53 := Or.inr ⟨by decide +kernel, rfl⟩
theorem own_d_code_53 : own_lk code 53 0 54 := ⟨0, by decide +kernel, by decide, rfl⟩
theorem own_d_code_54 : own_lk code 54 0 55 := ⟨0, by decide +kernel, by decide, rfl⟩
theorem own_d_code_55 : own_ix code 55 (.invokestatic 11) 3 58 := ⟨by decide +kernel, rfl⟩
theorem own_d_code_58 : own_sa code 58 17 60 := Or.inr ⟨by decide +kernel, rfl⟩
theorem own_d_code_60 : own_ix code 60 (.new 19) 3 63 := ⟨by decide +kernel, rfl⟩
theorem own_d_code_63 : own_ix code 63 .dup 1 64 := ⟨by decide +kernel, rfl⟩
theorem own_d_code_64 : own_al code 64 13 66 := Or.inr ⟨by decide +kernel, rfl⟩
theorem own_pd___B_V : parseMethodDescriptor "([B)V" = some ⟨[(.array .byte)], none⟩ := by decide +kernel
theorem own_d_code_66 : own_ix code 66 (.invokespecial 21) 3 69 := ⟨by decide +kernel, rfl⟩
theorem own_d_code_69 : own_sa code 69 18 71 := Or.inr ⟨by decide +kernel, rfl⟩
theorem own_d_code_71 : own_il code 71 10 73 := Or.inr ⟨by decide +kernel, rfl⟩
theorem own_d_code_73 : own_ik code 73 1 74 := ⟨1, Or.inl ⟨by decide +kernel, by decide, rfl⟩⟩
theorem own_d_code_74 : own_ix code 74 .iand 1 75 := ⟨by decide +kernel, rfl⟩
theorem own_d_code_75 : own_ifc code 75 .eq 78 86 := ⟨11, by decide +kernel, rfl, by decide, by decide⟩
theorem own_d_code_86 : own_al code 86 18 88 := Or.inr ⟨by decide +kernel, rfl⟩
theorem own_d_code_88 : own_al code 88 14 90 := Or.inr ⟨by decide +kernel, rfl⟩
theorem own_pd___B__B : parseMethodDescriptor "([B)[B" = some ⟨[(.array .byte)], some (.array .byte)⟩ := by decide +kernel
theorem own_d_code_90 : own_ix code 90 (.invokevirtual 24) 3 93 := ⟨by decide +kernel, rfl⟩
theorem own_d_code_78 : own_al code 78 18 80 := Or.inr ⟨by decide +kernel, rfl⟩
theorem own_d_code_80 : own_al code 80 15 82 := Or.inr ⟨by decide +kernel, rfl⟩
theorem own_d_code_82 : own_ix code 82 (.invokevirtual 24) 3 85 := ⟨by decide +kernel, rfl⟩
theorem own_d_code_85 : own_ix code 85 .pop 1 86 := ⟨by decide +kernel, rfl⟩
theorem own_d_code_93 : own_sa code 93 19 95 := Or.inr ⟨by decide +kernel, rfl⟩
theorem own_d_code_95 : own_al code 95 18 97 := Or.inr ⟨by decide +kernel, rfl⟩
theorem own_d_code_97 : own_al code 97 19 99 := Or.inr ⟨by decide +kernel, rfl⟩
theorem own_d_code_99 : own_ix code 99 (.ldc2_w 28) 3 102 := ⟨by decide +kernel, rfl⟩
theorem own_pd___BJ_V : parseMethodDescriptor "([BJ)V" = some ⟨[(.array .byte), .long], none⟩ := by decide +kernel
theorem own_d_code_102 : own_ix code 102 (.invokevirtual 30) 3 105 := ⟨by decide +kernel, rfl⟩
theorem own_d_code_105 : own_al code 105 18 107 := Or.inr ⟨by decide +kernel, rfl⟩
theorem own_d_code_107 : own_al code 107 16 109 := Or.inr ⟨by decide +kernel, rfl⟩
theorem own_d_code_109 : own_ix code 109 (.ldc2_w 28) 3 112 := ⟨by decide +kernel, rfl⟩
theorem own_d_code_112 : own_ix code 112 (.invokevirtual 30) 3 115 := ⟨by decide +kernel, rfl⟩
theorem own_d_code_115 : own_al code 115 18 117 := Or.inr ⟨by decide +kernel, rfl⟩
theorem own_d_code_117 : own_al code 117 17 119 := Or.inr ⟨by decide +kernel, rfl⟩
theorem own_d_code_119 : own_ix code 119 (.ldc2_w 28) 3 122 := ⟨by decide +kernel, rfl⟩
theorem own_d_code_122 : own_ix code 122 (.invokevirtual 30) 3 125 := ⟨by decide +kernel, rfl⟩
theorem own_d_code_125 : own_al code 125 18 127 := Or.inr ⟨by decide +kernel, rfl⟩
theorem own_pd____B : parseMethodDescriptor "()[B" = some ⟨[], some (.array .byte)⟩ := by decide +kernel
theorem own_d_code_127 : own_ix code 127 (.invokevirtual 34) 3 130 := ⟨by decide +kernel, rfl⟩
theorem own_d_code_130 : own_sa code 130 20 132 := Or.inr ⟨by decide +kernel, rfl⟩
theorem own_d_code_132 : own_ix code 132 (.new 19) 3 135 := ⟨by decide +kernel, rfl⟩
theorem own_d_code_135 : own_ix code 135 .dup 1 136 := ⟨by decide +kernel, rfl⟩
theorem own_d_code_136 : own_al code 136 13 138 := Or.inr ⟨by decide +kernel, rfl⟩
theorem own_d_code_138 : own_ix code 138 (.invokespecial 21) 3 141 := ⟨by decide +kernel, rfl⟩
theorem own_d_code_141 : own_sa code 141 21 143 := Or.inr ⟨by decide +kernel, rfl⟩
theorem own_d_code_143 : own_al code 143 21 145 := Or.inr ⟨by decide +kernel, rfl⟩
theorem own_d_code_145 : own_al code 145 17 147 := Or.inr ⟨by decide +kernel, rfl⟩
theorem own_d_code_147 : own_ix code 147 (.ldc2_w 28) 3 150 := ⟨by decide +kernel, rfl⟩
theorem own_d_code_150 : own_ix code 150 (.invokevirtual 30) 3 153 := ⟨by decide +kernel, rfl⟩
theorem own_d_code_153 : own_al code 153 21 155 := Or.inr ⟨by decide +kernel, rfl⟩
theorem own_d_code_155 : own_al code 155 17 157 := Or.inr ⟨by decide +kernel, rfl⟩
theorem own_d_code_157 : own_ix code 157 (.ldc2_w 28) 3 160 := ⟨by decide +kernel, rfl⟩
theorem own_d_code_160 : own_ix code 160 (.invokevirtual 30) 3 163 := ⟨by decide +kernel, rfl⟩
theorem own_d_code_163 : own_al code 163 21 165 := Or.inr ⟨by decide +kernel, rfl⟩
theorem own_d_code_165 : own_al code 165 17 167 := Or.inr ⟨by decide +kernel, rfl⟩
theorem own_d_code_167 : own_ix code 167 (.ldc2_w 28) 3 170 := ⟨by decide +kernel, rfl⟩
theorem own_d_code_170 : own_ix code 170 (.invokevirtual 30) 3 173 := ⟨by decide +kernel, rfl⟩
theorem own_d_code_173 : own_al code 173 21 175 := Or.inr ⟨by decide +kernel, rfl⟩
theorem own_d_code_175 : own_ix code 175 (.invokevirtual 34) 3 178 := ⟨by decide +kernel, rfl⟩
theorem own_d_code_178 : own_sa code 178 22 180 := Or.inr ⟨by decide +kernel, rfl⟩
theorem own_d_code_180 : own_al code 180 20 182 := Or.inr ⟨by decide +kernel, rfl⟩
theorem own_d_code_182 : own_ik code 182 0 183 := ⟨0, Or.inl ⟨by decide +kernel, by decide, rfl⟩⟩
theorem own_d_code_183 : own_ix code 183 (.invokestatic 38) 3 186 := ⟨by decide +kernel, rfl⟩
theorem own_d_code_186 : own_al code 186 22 188 := Or.inr ⟨by decide +kernel, rfl⟩
theorem own_d_code_188 : own_ik code 188 0 189 := ⟨0, Or.inl ⟨by decide +kernel, by decide, rfl⟩⟩
theorem own_d_code_189 : own_ix code 189 (.invokestatic 38) 3 192 := ⟨by decide +kernel, rfl⟩
theorem own_d_code_192 : own_ix code 192 .lxor 1 193 := ⟨by decide +kernel, rfl⟩
theorem own_d_code_193 : own_ll code 193 4 195 := Or.inr ⟨by decide +kernel, rfl⟩
theorem own_d_code_195 : own_ix code 195 .lcmp 1 196 := ⟨by decide +kernel, rfl⟩
theorem own_d_code_196 : own_ifc code 196 .ne 199 224 := ⟨28, by decide +kernel, rfl, by decide, by decide⟩
theorem own_d_code_199 : own_al code 199 20 201 := Or.inr ⟨by decide +kernel, rfl⟩
theorem own_d_code_201 : own_ik code 201 8 203 := ⟨8, Or.inr (Or.inl ⟨by decide +kernel, by decide, rfl⟩)⟩
theorem own_d_code_203 : own_ix code 203 (.invokestatic 38) 3 206 := ⟨by decide +kernel, rfl⟩
theorem own_d_code_206 : own_al code 206 22 208 := Or.inr ⟨by decide +kernel, rfl⟩
theorem own_d_code_208 : own_ik code 208 8 210 := ⟨8, Or.inr (Or.inl ⟨by decide +kernel, by decide, rfl⟩)⟩
theorem own_d_code_210 : own_ix code 210 (.invokestatic 38) 3 213 := ⟨by decide +kernel, rfl⟩
theorem own_d_code_213 : own_ix code 213 .lxor 1 214 := ⟨by decide +kernel, rfl⟩
theorem own_d_code_214 : own_ll code 214 6 216 := Or.inr ⟨by decide +kernel, rfl⟩
theorem own_d_code_216 : own_ix code 216 .lcmp 1 217 := ⟨by decide +kernel, rfl⟩
theorem own_d_code_217 : own_ifc code 217 .ne 220 224 := ⟨7, by decide +kernel, rfl, by decide, by decide⟩
theorem own_d_code_220 : own_ik code 220 1 221 := ⟨1, Or.inl ⟨by decide +kernel, by decide, rfl⟩⟩
theorem own_d_code_221 : own_gt code 221 225 := ⟨4, by decide +kernel, by decide, by decide⟩
theorem own_d_code_225 : own_ix code 225 .ireturn 1 226 := ⟨by decide +kernel, rfl⟩
set_option maxRecDepth 65536 in
set_option maxHeartbeats 40000000 in
theorem own_long8 (l : Launch) (Z : State) (a0 : Array Value) (hw : ∀ d ∈ tables_1, d.before a0 Z = true) (a : Addr) (j : Int32) (k N : Nat) (f : Nat → Int32) (g : Nat → Value) (h0 : Heap) (n0 : Nat) (Z0 : n0 ≤ h0.size) (V : own_AF Z h0 a .byte N g) (hj : own_idx j k) (hk : k + 8 ≤ N) (hN : N < 2147483648) (hf : ∀ i, i < 8 → g (k + i) = .int (f i)) :
    own_Con l Z n0 (⟨"com/example/libcachet/libcachet/Ghash", "long8", "([BI)J"⟩ : MethodName) prog_70_method_9_code 5 (some .long) ({ frames := 0, cells := 0, slots := 0, locals := 0 } : Room) [] #[(.ref a), (.int j)] h0 (fun v h' => v = some (.long (own_be f 8)) ∧ h' = h0) := by
  refine own_enter (plainFor_of_name own_pn_com_example_libcachet_libcachet_Ghash) Z0 #[.val (.ref a), .val (.int j), .unset, .unset, .unset] (fun m => by first | (simp [entryFrame, mkF, argsToLocals, Value.category]; done) | rfl) ?_
  intro p e s m below meth c T A X0 hret hnm fin
  refine own_lpush X0 own_d_prog_70_method_9_code_0 ?_
  refine own_lstore X0 #[.val (.ref a), .val (.int j), .val (.long (0 : Int64)), .second, .unset] own_d_prog_70_method_9_code_1 rfl ?_
  refine own_ipush X0 own_d_prog_70_method_9_code_2 ?_
  refine own_istore X0 #[.val (.ref a), .val (.int j), .val (.long (0 : Int64)), .second, .val (.int (0 : Int32))] own_d_prog_70_method_9_code_3 rfl ?_
  suffices LOOP : ∀ (n i : Nat), i + n = 8 → own_Wins p e below A T (mkF m 5 #[.val (.ref a), .val (.int j), .val (.long (own_be f i)), .second, .val (.int (Int32.ofNat i))] []) by
    exact LOOP 8 0 rfl
  intro n
  induction n with
  | zero =>
    intro i hi
    have hi8 : own_idx (Int32.ofNat i) i := own_idx_nat (by omega)
    refine own_iload X0 own_d_prog_70_method_9_code_5 rfl ?_
    refine own_ipush X0 own_d_prog_70_method_9_code_7 ?_
    refine own_icYes X0 own_d_prog_70_method_9_code_9 (flt (mt (own_idx_lt hi8 (n := 8) ⟨by decide, by decide⟩).mp (by omega))).2.1 ?_
    refine own_lload X0 own_d_prog_70_method_9_code_35 rfl ?_
    exact own_retJ X0 hret fin (by decide) (by decide) ⟨by rw [show i = 8 by omega], rfl⟩ own_d_prog_70_method_9_code_36
  | succ n ih =>
    intro i hi
    have hi8 : own_idx (Int32.ofNat i) i := own_idx_nat (by omega)
    refine own_iload X0 own_d_prog_70_method_9_code_5 rfl ?_
    refine own_ipush X0 own_d_prog_70_method_9_code_7 ?_
    refine own_icNo X0 own_d_prog_70_method_9_code_9 (tlt ((own_idx_lt hi8 (n := 8) ⟨by decide, by decide⟩).mpr (by omega))).2.1 ?_
    refine own_lload X0 own_d_prog_70_method_9_code_12 rfl ?_
    refine own_ipush X0 own_d_prog_70_method_9_code_13 ?_
    refine own_lshl X0 own_d_prog_70_method_9_code_15 ?_
    refine own_aload X0 own_d_prog_70_method_9_code_16 rfl ?_
    refine own_iload X0 own_d_prog_70_method_9_code_17 rfl ?_
    refine own_iload X0 own_d_prog_70_method_9_code_18 rfl ?_
    refine own_iadd X0 own_d_prog_70_method_9_code_20 ?_
    refine own_baloadF X0 V (i := (k + i)) (own_idx_add hj hi8 (by omega)) (by omega) (hf i (by omega)) own_d_prog_70_method_9_code_21 ?_
    refine own_ipush X0 own_d_prog_70_method_9_code_22 ?_
    refine own_iand X0 own_d_prog_70_method_9_code_25 ?_
    refine own_i2l X0 own_d_prog_70_method_9_code_26 ?_
    refine own_lor X0 own_d_prog_70_method_9_code_27 ?_
    refine own_lstore X0 #[.val (.ref a), .val (.int j), .val (.long ((own_Lshl (own_be f i) (8 : Int32)) ||| ((((f i) &&& (255 : Int32))).toInt64))), .second, .val (.int (Int32.ofNat i))] own_d_prog_70_method_9_code_28 rfl ?_
    refine own_iinc X0 #[.val (.ref a), .val (.int j), .val (.long ((own_Lshl (own_be f i) (8 : Int32)) ||| ((((f i) &&& (255 : Int32))).toInt64))), .second, .val (.int ((Int32.ofNat i) + (1 : Int32)))] own_d_prog_70_method_9_code_29 rfl rfl ?_
    refine own_goto X0 own_d_prog_70_method_9_code_32 ?_
    rw [own_succ]
    exact ih (i + 1) (by omega)
set_option maxRecDepth 65536 in
set_option maxHeartbeats 40000000 in
theorem own_st20 {z0 z1 z2 z3 z4 z5 z6 z7 z8 z9 z10 z11 z12 z13 z14 z15 z16 z17 z18 z19 z20 z21 z22 z23 : Slot} {v : Int64} (h : own_clean z20 z21) : storeLocals #[z0, z1, z2, z3, z4, z5, z6, z7, z8, z9, z10, z11, z12, z13, z14, z15, z16, z17, z18, z19, z20, z21, z22, z23] 20 (.long v) = some #[z0, z1, z2, z3, z4, z5, z6, z7, z8, z9, z10, z11, z12, z13, z14, z15, z16, z17, z18, z19, .val (.long v), .second, z22, z23] := by
  rcases h with ⟨rfl, rfl⟩ | ⟨w, rfl, rfl⟩ <;> rfl
set_option maxRecDepth 65536 in
set_option maxHeartbeats 40000000 in
theorem own_st22 {z0 z1 z2 z3 z4 z5 z6 z7 z8 z9 z10 z11 z12 z13 z14 z15 z16 z17 z18 z19 z20 z21 z22 z23 : Slot} {v : Int64} (h : own_clean z22 z23) : storeLocals #[z0, z1, z2, z3, z4, z5, z6, z7, z8, z9, z10, z11, z12, z13, z14, z15, z16, z17, z18, z19, z20, z21, z22, z23] 22 (.long v) = some #[z0, z1, z2, z3, z4, z5, z6, z7, z8, z9, z10, z11, z12, z13, z14, z15, z16, z17, z18, z19, z20, z21, .val (.long v), .second] := by
  rcases h with ⟨rfl, rfl⟩ | ⟨w, rfl, rfl⟩ <;> rfl
set_option maxRecDepth 65536 in
set_option maxHeartbeats 40000000 in
theorem own_mulLoop {p : Program} {l : Launch} {e : Env} {R : Room} {s : State} {m : MethodId} {args : Array Value} {below : List Frame} {meth : Method} {c : Code} {Z : State} {a0 : Array Value} {n0 : Nat} {T : State} {h : Heap} {cells slots : Nat} {A : State → Outcome → Prop} (hw : ∀ d ∈ tables_1, d.before a0 Z = true) (X0 : own_St p l e R s m args below meth c Z n0 prog_70_method_8_code 24 "com/example/libcachet/libcachet/Ghash" T h cells slots) (xh xl yh yl bits : Int64) (hf : Int32) :
    ∀ (n : Nat) (ph pl vh vl : Int64) (s20 s21 s22 s23 : Slot), n ≤ 64 → own_clean s20 s21 → own_clean s22 s23 → (∀ (ph' pl' vh' vl' : Int64) (s20' s21' s22' s23' : Slot), own_clean s20' s21' → own_clean s22' s23' → (own_pk ph' pl', own_pk vh' vl') = own_gW bits.toBitVec.toNat n (own_pk ph pl, own_pk vh vl) → own_Wins p e below A T (mkF m 112 #[.val (.long xh), .second, .val (.long xl), .second, .val (.long yh), .second, .val (.long yl), .second, .val (.long ph'), .second, .val (.long pl'), .second, .val (.long vh'), .second, .val (.long vl'), .second, .val (.int hf), .val (.long bits), .second, .val (.int (own_dn 0)), s20', s21', s22', s23'] [])) → own_Wins p e below A T (mkF m 39 #[.val (.long xh), .second, .val (.long xl), .second, .val (.long yh), .second, .val (.long yl), .second, .val (.long ph), .second, .val (.long pl), .second, .val (.long vh), .second, .val (.long vl), .second, .val (.int hf), .val (.long bits), .second, .val (.int (own_dn n)), s20, s21, s22, s23] []) := by
  intro n
  induction n with
  | zero =>
    intro ph pl vh vl s20 s21 s22 s23 hn c1 c2 K
    refine own_iload X0 own_d_prog_70_method_8_code_39 rfl ?_
    refine own_ifYes X0 own_d_prog_70_method_8_code_41 ((if0 _ _).trans (tlt ((own_dn_lt 0 (by omega)).mpr rfl)).1) ?_
    exact K ph pl vh vl s20 s21 s22 s23 c1 c2 rfl
  | succ n ih =>
    intro ph pl vh vl s20 s21 s22 s23 hn c1 c2 K
    have hi8 := own_dn_idx n (by omega)
    refine own_iload X0 own_d_prog_70_method_8_code_39 rfl ?_
    refine own_ifNo X0 own_d_prog_70_method_8_code_41 ((if0 _ _).trans (flt (mt (own_dn_lt (n + 1) hn).mp (by omega))).1) ?_
    refine own_lload X0 own_d_prog_70_method_8_code_44 rfl ?_
    refine own_iload X0 own_d_prog_70_method_8_code_46 rfl ?_
    refine own_lushr X0 own_d_prog_70_method_8_code_48 ?_
    refine own_lpush X0 own_d_prog_70_method_8_code_49 ?_
    refine own_land X0 own_d_prog_70_method_8_code_50 ?_
    refine own_lneg X0 own_d_prog_70_method_8_code_51 ?_
    generalize htk : (-((own_Lushr bits (own_dn (n + 1))) &&& (1 : Int64))) = tk
    refine own_lstore X0 #[.val (.long xh), .second, .val (.long xl), .second, .val (.long yh), .second, .val (.long yl), .second, .val (.long ph), .second, .val (.long pl), .second, .val (.long vh), .second, .val (.long vl), .second, .val (.int hf), .val (.long bits), .second, .val (.int (own_dn (n + 1))), .val (.long tk), .second, s22, s23] own_d_prog_70_method_8_code_52 (own_st20 c1) ?_
    refine own_lload X0 own_d_prog_70_method_8_code_54 rfl ?_
    refine own_lload X0 own_d_prog_70_method_8_code_56 rfl ?_
    refine own_lload X0 own_d_prog_70_method_8_code_58 rfl ?_
    refine own_land X0 own_d_prog_70_method_8_code_60 ?_
    refine own_lxor X0 own_d_prog_70_method_8_code_61 ?_
    generalize hp1 : (ph ^^^ (vh &&& tk)) = p1
    refine own_lstore X0 #[.val (.long xh), .second, .val (.long xl), .second, .val (.long yh), .second, .val (.long yl), .second, .val (.long p1), .second, .val (.long pl), .second, .val (.long vh), .second, .val (.long vl), .second, .val (.int hf), .val (.long bits), .second, .val (.int (own_dn (n + 1))), .val (.long tk), .second, s22, s23] own_d_prog_70_method_8_code_62 rfl ?_
    refine own_lload X0 own_d_prog_70_method_8_code_64 rfl ?_
    refine own_lload X0 own_d_prog_70_method_8_code_66 rfl ?_
    refine own_lload X0 own_d_prog_70_method_8_code_68 rfl ?_
    refine own_land X0 own_d_prog_70_method_8_code_70 ?_
    refine own_lxor X0 own_d_prog_70_method_8_code_71 ?_
    generalize hp2 : (pl ^^^ (vl &&& tk)) = p2
    refine own_lstore X0 #[.val (.long xh), .second, .val (.long xl), .second, .val (.long yh), .second, .val (.long yl), .second, .val (.long p1), .second, .val (.long p2), .second, .val (.long vh), .second, .val (.long vl), .second, .val (.int hf), .val (.long bits), .second, .val (.int (own_dn (n + 1))), .val (.long tk), .second, s22, s23] own_d_prog_70_method_8_code_72 rfl ?_
    refine own_lload X0 own_d_prog_70_method_8_code_74 rfl ?_
    refine own_lpush X0 own_d_prog_70_method_8_code_76 ?_
    refine own_land X0 own_d_prog_70_method_8_code_77 ?_
    refine own_lneg X0 own_d_prog_70_method_8_code_78 ?_
    generalize hcy : (-(vl &&& (1 : Int64))) = cy
    refine own_lstore X0 #[.val (.long xh), .second, .val (.long xl), .second, .val (.long yh), .second, .val (.long yl), .second, .val (.long p1), .second, .val (.long p2), .second, .val (.long vh), .second, .val (.long vl), .second, .val (.int hf), .val (.long bits), .second, .val (.int (own_dn (n + 1))), .val (.long tk), .second, .val (.long cy), .second] own_d_prog_70_method_8_code_79 (own_st22 c2) ?_
    refine own_lload X0 own_d_prog_70_method_8_code_81 rfl ?_
    refine own_ipush X0 own_d_prog_70_method_8_code_83 ?_
    refine own_lushr X0 own_d_prog_70_method_8_code_84 ?_
    refine own_lload X0 own_d_prog_70_method_8_code_85 rfl ?_
    refine own_ipush X0 own_d_prog_70_method_8_code_87 ?_
    refine own_lshl X0 own_d_prog_70_method_8_code_89 ?_
    refine own_lor X0 own_d_prog_70_method_8_code_90 ?_
    generalize hw2 : ((own_Lushr vl (1 : Int32)) ||| (own_Lshl vh (63 : Int32))) = w2
    refine own_lstore X0 #[.val (.long xh), .second, .val (.long xl), .second, .val (.long yh), .second, .val (.long yl), .second, .val (.long p1), .second, .val (.long p2), .second, .val (.long vh), .second, .val (.long w2), .second, .val (.int hf), .val (.long bits), .second, .val (.int (own_dn (n + 1))), .val (.long tk), .second, .val (.long cy), .second] own_d_prog_70_method_8_code_91 rfl ?_
    refine own_lload X0 own_d_prog_70_method_8_code_93 rfl ?_
    refine own_ipush X0 own_d_prog_70_method_8_code_95 ?_
    refine own_lushr X0 own_d_prog_70_method_8_code_96 ?_
    refine own_ldc2 X0 (hw _ (List.mem_of_getElem? (i := 26) rfl)) own_d_prog_70_method_8_code_97 ?_
    refine own_lload X0 own_d_prog_70_method_8_code_100 rfl ?_
    refine own_land X0 own_d_prog_70_method_8_code_102 ?_
    refine own_lxor X0 own_d_prog_70_method_8_code_103 ?_
    generalize hw1 : ((own_Lushr vh (1 : Int32)) ^^^ ((-2233785415175766016 : Int64) &&& cy)) = w1
    refine own_lstore X0 #[.val (.long xh), .second, .val (.long xl), .second, .val (.long yh), .second, .val (.long yl), .second, .val (.long p1), .second, .val (.long p2), .second, .val (.long w1), .second, .val (.long w2), .second, .val (.int hf), .val (.long bits), .second, .val (.int (own_dn (n + 1))), .val (.long tk), .second, .val (.long cy), .second] own_d_prog_70_method_8_code_104 rfl ?_
    refine own_iinc X0 #[.val (.long xh), .second, .val (.long xl), .second, .val (.long yh), .second, .val (.long yl), .second, .val (.long p1), .second, .val (.long p2), .second, .val (.long w1), .second, .val (.long w2), .second, .val (.int hf), .val (.long bits), .second, .val (.int ((own_dn (n + 1)) + (-1 : Int32))), .val (.long tk), .second, .val (.long cy), .second] own_d_prog_70_method_8_code_106 rfl rfl ?_
    refine own_goto X0 own_d_prog_70_method_8_code_109 ?_
    rw [own_dn_succ n (by omega)]
    have e1 : own_pk p1 p2 = own_pk ph pl ^^^ (if bits.toBitVec.toNat.testBit n then own_pk vh vl else 0) := by rw [← hp1, ← hp2, ← htk]; exact own_add_step ph pl vh vl bits _ n hi8 (by omega)
    have e2 : own_pk w1 w2 = own_gT (own_pk vh vl) := by rw [← hw1, ← hw2, ← hcy]; exact own_shift_step vh vl
    refine ih p1 p2 w1 w2 _ _ _ _ (by omega) (Or.inr ⟨_, rfl, rfl⟩) (Or.inr ⟨_, rfl, rfl⟩) ?_
    intro ph' pl' vh' vl' s20' s21' s22' s23' c1' c2' e3
    refine K ph' pl' vh' vl' s20' s21' s22' s23' c1' c2' ?_
    rw [e3, e1, e2, own_gW_s]
set_option maxRecDepth 65536 in
set_option maxHeartbeats 40000000 in
theorem own_multiply (l : Launch) (Z : State) (a0 : Array Value) (hw : ∀ d ∈ tables_1, d.before a0 Z = true) (xh xl yh yl : Int64) (h0 : Heap) (n0 : Nat) (Z0 : n0 ≤ h0.size)  :
    own_Con l Z n0 (⟨"com/example/libcachet/libcachet/Ghash", "multiply", "(JJJJ)[J"⟩ : MethodName) prog_70_method_8_code 24 (some (.array .long)) ({ frames := 0, cells := 1, slots := 2, locals := 0 } : Room) [] #[(.long xh), (.long xl), (.long yh), (.long yl)] h0 (fun v h' => ∃ (b : Addr) (zh zl : Int64), v = some (.ref b) ∧ Keep h0 h' [] ∧ h0.size ≤ b ∧ n0 ≤ b ∧ own_AL Z h' b .long [.long zh, .long zl] ∧ own_pk zh zl = own_gM (own_pk xh xl) (own_pk yh yl)) := by
  refine own_enter (plainFor_of_name own_pn_com_example_libcachet_libcachet_Ghash) Z0 #[.val (.long xh), .second, .val (.long xl), .second, .val (.long yh), .second, .val (.long yl), .second, .unset, .unset, .unset, .unset, .unset, .unset, .unset, .unset, .unset, .unset, .unset, .unset, .unset, .unset, .unset, .unset] (fun m => by first | (simp [entryFrame, mkF, argsToLocals, Value.category]; done) | rfl) ?_
  intro p e s m below meth c T A X0 hret hnm fin
  refine own_lpush X0 own_d_prog_70_method_8_code_0 ?_
  refine own_lstore X0 #[.val (.long xh), .second, .val (.long xl), .second, .val (.long yh), .second, .val (.long yl), .second, .val (.long (0 : Int64)), .second, .unset, .unset, .unset, .unset, .unset, .unset, .unset, .unset, .unset, .unset, .unset, .unset, .unset, .unset] own_d_prog_70_method_8_code_1 rfl ?_
  refine own_lpush X0 own_d_prog_70_method_8_code_3 ?_
  refine own_lstore X0 #[.val (.long xh), .second, .val (.long xl), .second, .val (.long yh), .second, .val (.long yl), .second, .val (.long (0 : Int64)), .second, .val (.long (0 : Int64)), .second, .unset, .unset, .unset, .unset, .unset, .unset, .unset, .unset, .unset, .unset, .unset, .unset] own_d_prog_70_method_8_code_4 rfl ?_
  refine own_lload X0 own_d_prog_70_method_8_code_6 rfl ?_
  refine own_lstore X0 #[.val (.long xh), .second, .val (.long xl), .second, .val (.long yh), .second, .val (.long yl), .second, .val (.long (0 : Int64)), .second, .val (.long (0 : Int64)), .second, .val (.long yh), .second, .unset, .unset, .unset, .unset, .unset, .unset, .unset, .unset, .unset, .unset] own_d_prog_70_method_8_code_8 rfl ?_
  refine own_lload X0 own_d_prog_70_method_8_code_10 rfl ?_
  refine own_lstore X0 #[.val (.long xh), .second, .val (.long xl), .second, .val (.long yh), .second, .val (.long yl), .second, .val (.long (0 : Int64)), .second, .val (.long (0 : Int64)), .second, .val (.long yh), .second, .val (.long yl), .second, .unset, .unset, .unset, .unset, .unset, .unset, .unset, .unset] own_d_prog_70_method_8_code_12 rfl ?_
  refine own_ipush X0 own_d_prog_70_method_8_code_14 ?_
  refine own_istore X0 #[.val (.long xh), .second, .val (.long xl), .second, .val (.long yh), .second, .val (.long yl), .second, .val (.long (0 : Int64)), .second, .val (.long (0 : Int64)), .second, .val (.long yh), .second, .val (.long yl), .second, .val (.int (0 : Int32)), .unset, .unset, .unset, .unset, .unset, .unset, .unset] own_d_prog_70_method_8_code_15 rfl ?_
  refine own_iload X0 own_d_prog_70_method_8_code_17 rfl ?_
  refine own_ipush X0 own_d_prog_70_method_8_code_19 ?_
  refine own_icNo X0 own_d_prog_70_method_8_code_20 (tlt (by decide)).2.1 ?_
  refine own_iload X0 own_d_prog_70_method_8_code_23 rfl ?_
  refine own_ifNo X0 own_d_prog_70_method_8_code_25 ((if0 _ _).trans (teq rfl).2) ?_
  refine own_lload X0 own_d_prog_70_method_8_code_28 rfl ?_
  refine own_goto X0 own_d_prog_70_method_8_code_29 ?_
  refine own_lstore X0 #[.val (.long xh), .second, .val (.long xl), .second, .val (.long yh), .second, .val (.long yl), .second, .val (.long (0 : Int64)), .second, .val (.long (0 : Int64)), .second, .val (.long yh), .second, .val (.long yl), .second, .val (.int (0 : Int32)), .val (.long xh), .second, .unset, .unset, .unset, .unset, .unset] own_d_prog_70_method_8_code_33 rfl ?_
  refine own_ipush X0 own_d_prog_70_method_8_code_35 ?_
  refine own_istore X0 #[.val (.long xh), .second, .val (.long xl), .second, .val (.long yh), .second, .val (.long yl), .second, .val (.long (0 : Int64)), .second, .val (.long (0 : Int64)), .second, .val (.long yh), .second, .val (.long yl), .second, .val (.int (0 : Int32)), .val (.long xh), .second, .val (.int (63 : Int32)), .unset, .unset, .unset, .unset] own_d_prog_70_method_8_code_37 rfl ?_
  refine own_mulLoop hw X0 xh xl yh yl xh (0 : Int32) 64 (0 : Int64) (0 : Int64) yh yl .unset .unset .unset .unset (by decide) (Or.inl ⟨rfl, rfl⟩) (Or.inl ⟨rfl, rfl⟩) ?_
  intro ph1 pl1 vh1 vl1 u1a u1b u1c u1d c1a c1b e1
  refine own_iinc X0 #[.val (.long xh), .second, .val (.long xl), .second, .val (.long yh), .second, .val (.long yl), .second, .val (.long ph1), .second, .val (.long pl1), .second, .val (.long vh1), .second, .val (.long vl1), .second, .val (.int (1 : Int32)), .val (.long xh), .second, .val (.int (own_dn 0)), u1a, u1b, u1c, u1d] own_d_prog_70_method_8_code_112 rfl rfl ?_
  refine own_goto X0 own_d_prog_70_method_8_code_115 ?_
  refine own_iload X0 own_d_prog_70_method_8_code_17 rfl ?_
  refine own_ipush X0 own_d_prog_70_method_8_code_19 ?_
  refine own_icNo X0 own_d_prog_70_method_8_code_20 (tlt (by decide)).2.1 ?_
  refine own_iload X0 own_d_prog_70_method_8_code_23 rfl ?_
  refine own_ifYes X0 own_d_prog_70_method_8_code_25 ((if0 _ _).trans (feq (by decide)).2) ?_
  refine own_lload X0 own_d_prog_70_method_8_code_32 rfl ?_
  refine own_lstore X0 #[.val (.long xh), .second, .val (.long xl), .second, .val (.long yh), .second, .val (.long yl), .second, .val (.long ph1), .second, .val (.long pl1), .second, .val (.long vh1), .second, .val (.long vl1), .second, .val (.int (1 : Int32)), .val (.long xl), .second, .val (.int (own_dn 0)), u1a, u1b, u1c, u1d] own_d_prog_70_method_8_code_33 rfl ?_
  refine own_ipush X0 own_d_prog_70_method_8_code_35 ?_
  refine own_istore X0 #[.val (.long xh), .second, .val (.long xl), .second, .val (.long yh), .second, .val (.long yl), .second, .val (.long ph1), .second, .val (.long pl1), .second, .val (.long vh1), .second, .val (.long vl1), .second, .val (.int (1 : Int32)), .val (.long xl), .second, .val (.int (63 : Int32)), u1a, u1b, u1c, u1d] own_d_prog_70_method_8_code_37 rfl ?_
  refine own_mulLoop hw X0 xh xl yh yl xl (1 : Int32) 64 ph1 pl1 vh1 vl1 u1a u1b u1c u1d (by decide) c1a c1b ?_
  intro ph2 pl2 vh2 vl2 u2a u2b u2c u2d c2a c2b e2
  refine own_iinc X0 #[.val (.long xh), .second, .val (.long xl), .second, .val (.long yh), .second, .val (.long yl), .second, .val (.long ph2), .second, .val (.long pl2), .second, .val (.long vh2), .second, .val (.long vl2), .second, .val (.int (2 : Int32)), .val (.long xl), .second, .val (.int (own_dn 0)), u2a, u2b, u2c, u2d] own_d_prog_70_method_8_code_112 rfl rfl ?_
  refine own_goto X0 own_d_prog_70_method_8_code_115 ?_
  refine own_iload X0 own_d_prog_70_method_8_code_17 rfl ?_
  refine own_ipush X0 own_d_prog_70_method_8_code_19 ?_
  refine own_icYes X0 own_d_prog_70_method_8_code_20 (flt (by decide)).2.1 ?_
  refine own_ipush X0 own_d_prog_70_method_8_code_118 ?_
  refine own_newarr X0 (hw _ (List.mem_of_getElem? (i := 27) rfl)) own_d_prog_70_method_8_code_119 (n := 2) ⟨by decide, by decide⟩ 2 (Nat.le_refl _) (by decide) (by decide) (by decide) ?_
  intro T1 h1 b1 X1 E1 g1 ga_b1 V1
  have sz_b1 : h0.size ≤ b1 := by rw [g1]; exact (Keep.refl h0 []).1
  have K1 : Keep h0 h1 [] := (Keep.refl h0 []).ext E1
  replace V1 : own_AL Z h1 b1 .long [(.long (0 : Int64)), (.long (0 : Int64))] := V1
  refine own_dup X1 own_d_prog_70_method_8_code_121 rfl ?_
  refine own_ipush X1 own_d_prog_70_method_8_code_122 ?_
  refine own_lload X1 own_d_prog_70_method_8_code_123 rfl ?_
  refine own_lastore X1 V1 ga_b1 (i := 0) ⟨by decide, by decide⟩ (Nat.le_of_ble_eq_true rfl) own_d_prog_70_method_8_code_125 ?_
  intro T2 h2 X2 W2 V2
  have K2 : Keep h0 h2 [] := K1.wr W2 (Or.inr sz_b1)
  replace V2 : own_AL Z h2 b1 .long [(.long ph2), (.long (0 : Int64))] := V2
  refine own_dup X2 own_d_prog_70_method_8_code_126 rfl ?_
  refine own_ipush X2 own_d_prog_70_method_8_code_127 ?_
  refine own_lload X2 own_d_prog_70_method_8_code_128 rfl ?_
  refine own_lastore X2 V2 ga_b1 (i := 1) ⟨by decide, by decide⟩ (Nat.le_of_ble_eq_true rfl) own_d_prog_70_method_8_code_130 ?_
  intro T3 h3 X3 W3 V3
  have K3 : Keep h0 h3 [] := K2.wr W3 (Or.inr sz_b1)
  replace V3 : own_AL Z h3 b1 .long [(.long ph2), (.long pl2)] := V3
  have hz : own_pk ph2 pl2 = own_gM (own_pk xh xl) (own_pk yh yl) := by rw [← own_gW_mul]; rw [own_pk_0] at e1; rw [← e1, ← e2]
  exact own_retA X3 hret rfl rfl fin (by decide) (by decide) ⟨b1, ph2, pl2, rfl, K3, sz_b1, ga_b1, V3, hz⟩ own_d_prog_70_method_8_code_131
set_option maxRecDepth 65536 in
set_option maxHeartbeats 40000000 in
theorem own_bytes (l : Launch) (Z : State) (a0 : Array Value) (hw : ∀ d ∈ tables_1, d.before a0 Z = true) (hi lo : Int64) (h0 : Heap) (n0 : Nat) (Z0 : n0 ≤ h0.size)  :
    own_Con l Z n0 (⟨"com/example/libcachet/libcachet/Ghash", "bytes", "(JJ)[B"⟩ : MethodName) prog_70_method_10_code 6 (some (.array .byte)) ({ frames := 0, cells := 1, slots := 16, locals := 0 } : Room) [] #[(.long hi), (.long lo)] h0 (fun v h' => ∃ b : Addr, v = some (.ref b) ∧ Keep h0 h' [] ∧ h0.size ≤ b ∧ n0 ≤ b ∧ own_AF Z h' b .byte 16 (own_b16 hi lo)) := by
  refine own_enter (plainFor_of_name own_pn_com_example_libcachet_libcachet_Ghash) Z0 #[.val (.long hi), .second, .val (.long lo), .second, .unset, .unset] (fun m => by first | (simp [entryFrame, mkF, argsToLocals, Value.category]; done) | rfl) ?_
  intro p e s m below meth c T A X0 hret hnm fin
  refine own_ipush X0 own_d_prog_70_method_10_code_0 ?_
  refine own_newarr X0 (hw _ (List.mem_of_getElem? (i := 4) rfl)) own_d_prog_70_method_10_code_2 (n := 16) ⟨by decide, by decide⟩ 16 (Nat.le_refl _) (by decide) (by decide) (by decide) ?_
  intro T1 h1 b1 X1 E1 g1 ga_b1 V1
  have sz_b1 : h0.size ≤ b1 := by rw [g1]; exact (Keep.refl h0 []).1
  have K1 : Keep h0 h1 [] := (Keep.refl h0 []).ext E1
  replace V1 : own_AL Z h1 b1 .byte [(.int (0 : Int32)), (.int (0 : Int32)), (.int (0 : Int32)), (.int (0 : Int32)), (.int (0 : Int32)), (.int (0 : Int32)), (.int (0 : Int32)), (.int (0 : Int32)), (.int (0 : Int32)), (.int (0 : Int32)), (.int (0 : Int32)), (.int (0 : Int32)), (.int (0 : Int32)), (.int (0 : Int32)), (.int (0 : Int32)), (.int (0 : Int32))] := V1
  refine own_astore X1 #[.val (.long hi), .second, .val (.long lo), .second, .val (.ref b1), .unset] own_d_prog_70_method_10_code_4 rfl ?_
  refine own_ipush X1 own_d_prog_70_method_10_code_6 ?_
  refine own_istore X1 #[.val (.long hi), .second, .val (.long lo), .second, .val (.ref b1), .val (.int (0 : Int32))] own_d_prog_70_method_10_code_7 rfl ?_
  have V0 : own_AF Z h1 b1 .byte 16 (own_b16i hi lo 0) := (V1.fn 16 rfl (.int 0)).to (fun j hj => own_b16i_0 hi lo j hj)
  suffices LOOP : ∀ (r i : Nat) (Tq : State) (hq : Heap), i + r = 8 → own_St p l e ({ frames := 0, cells := 1, slots := 16, locals := 0 } : Room) s m #[(.long hi), (.long lo)] below meth c Z n0 prog_70_method_10_code 6 "com/example/libcachet/libcachet/Ghash" Tq hq 1 16 → own_AF Z hq b1 .byte 16 (own_b16i hi lo i) → Keep h0 hq [] → own_Wins p e below A Tq (mkF m 9 #[.val (.long hi), .second, .val (.long lo), .second, .val (.ref b1), .val (.int (Int32.ofNat i))] []) by
    exact LOOP 8 0 T1 h1 rfl X1 V0 K1
  intro r
  induction r with
  | zero =>
    intro i Tq hq hi8 Xq Vq Kq
    obtain rfl : i = 8 := by omega
    refine own_iload Xq own_d_prog_70_method_10_code_9 rfl ?_
    refine own_ipush Xq own_d_prog_70_method_10_code_11 ?_
    refine own_icYes Xq own_d_prog_70_method_10_code_13 (flt (by decide)).2.1 ?_
    refine own_aload Xq own_d_prog_70_method_10_code_59 rfl ?_
    exact own_retA Xq hret rfl rfl fin (by decide) (by decide) ⟨b1, rfl, Kq, sz_b1, ga_b1, Vq.to (fun j hj => own_b16i_8 hi lo j hj)⟩ own_d_prog_70_method_10_code_61
  | succ r ih =>
    intro i Tq hq hi8 Xq Vq Kq
    have hi_ : own_idx (Int32.ofNat i) i := own_idx_nat (by omega)
    refine own_iload Xq own_d_prog_70_method_10_code_9 rfl ?_
    refine own_ipush Xq own_d_prog_70_method_10_code_11 ?_
    refine own_icNo Xq own_d_prog_70_method_10_code_13 (tlt ((own_idx_lt hi_ (n := 8) ⟨by decide, by decide⟩).mpr (by omega))).2.1 ?_
    have hsh : ((56 : Int32) - ((8 : Int32) * (Int32.ofNat i))).toBitVec.toNat % 64 = 56 - 8 * i := own_hsh i (by omega)
    refine own_aload Xq own_d_prog_70_method_10_code_16 rfl ?_
    refine own_iload Xq own_d_prog_70_method_10_code_18 rfl ?_
    refine own_lload Xq own_d_prog_70_method_10_code_20 rfl ?_
    refine own_ipush Xq own_d_prog_70_method_10_code_21 ?_
    refine own_ipush Xq own_d_prog_70_method_10_code_23 ?_
    refine own_iload Xq own_d_prog_70_method_10_code_25 rfl ?_
    refine own_imul Xq own_d_prog_70_method_10_code_27 ?_
    refine own_isub Xq own_d_prog_70_method_10_code_28 ?_
    refine own_lushr Xq own_d_prog_70_method_10_code_29 ?_
    refine own_l2i Xq own_d_prog_70_method_10_code_30 ?_
    refine own_i2b Xq own_d_prog_70_method_10_code_31 ?_
    refine own_bastoreF Xq Vq ga_b1 (i := i) hi_ (by omega) own_d_prog_70_method_10_code_32 ?_
    intro T2 h2 X2 W2 V2
    have K2 : Keep h0 h2 [] := Kq.wr W2 (Or.inr sz_b1)
    replace V2 : own_AF Z h2 b1 .byte 16 (own_up (own_b16i hi lo i) i (.int (((((own_Lushr hi ((56 : Int32) - ((8 : Int32) * (Int32.ofNat i))))).toInt32)).toInt8.toInt32).toInt8.toInt32)) := V2
    refine own_aload X2 own_d_prog_70_method_10_code_33 rfl ?_
    refine own_iload X2 own_d_prog_70_method_10_code_35 rfl ?_
    refine own_ipush X2 own_d_prog_70_method_10_code_37 ?_
    refine own_iadd X2 own_d_prog_70_method_10_code_39 ?_
    refine own_lload X2 own_d_prog_70_method_10_code_40 rfl ?_
    refine own_ipush X2 own_d_prog_70_method_10_code_41 ?_
    refine own_ipush X2 own_d_prog_70_method_10_code_43 ?_
    refine own_iload X2 own_d_prog_70_method_10_code_45 rfl ?_
    refine own_imul X2 own_d_prog_70_method_10_code_47 ?_
    refine own_isub X2 own_d_prog_70_method_10_code_48 ?_
    refine own_lushr X2 own_d_prog_70_method_10_code_49 ?_
    refine own_l2i X2 own_d_prog_70_method_10_code_50 ?_
    refine own_i2b X2 own_d_prog_70_method_10_code_51 ?_
    refine own_bastoreF X2 V2 ga_b1 (i := (i + 8)) (own_idx_add hi_ (n := 8) ⟨by decide, by decide⟩ (by omega)) (by omega) own_d_prog_70_method_10_code_52 ?_
    intro T3 h3 X3 W3 V3
    have K3 : Keep h0 h3 [] := K2.wr W3 (Or.inr sz_b1)
    replace V3 : own_AF Z h3 b1 .byte 16 (own_up (own_up (own_b16i hi lo i) i (.int (((((own_Lushr hi ((56 : Int32) - ((8 : Int32) * (Int32.ofNat i))))).toInt32)).toInt8.toInt32).toInt8.toInt32)) (i + 8) (.int (((((own_Lushr lo ((56 : Int32) - ((8 : Int32) * (Int32.ofNat i))))).toInt32)).toInt8.toInt32).toInt8.toInt32)) := V3
    rw [own_bt8 hi _ i (by omega) hsh, own_bt8 lo _ i (by omega) hsh] at V3
    replace V3 := V3.to (fun j hj => own_b16i_up hi lo i j (by omega) hj)
    refine own_iinc X3 #[.val (.long hi), .second, .val (.long lo), .second, .val (.ref b1), .val (.int ((Int32.ofNat i) + (1 : Int32)))] own_d_prog_70_method_10_code_53 rfl rfl ?_
    refine own_goto X3 own_d_prog_70_method_10_code_56 ?_
    rw [own_succ]
    exact ih (i + 1) _ _ (by omega) X3 V3 K3
set_option maxRecDepth 65536 in
set_option maxHeartbeats 40000000 in
theorem own_read (l : Launch) (Z : State) (a0 : Array Value) (hw : ∀ d ∈ tables_1, d.before a0 Z = true) (a : Addr) (j : Int32) (k : Nat) (x_ : Int64) (g : Nat → Value) (h0 : Heap) (n0 : Nat) (Z0 : n0 ≤ h0.size) (V : own_AF Z h0 a .byte 16 g) (hj : own_idx j k) (hk : k + 8 ≤ 16) (hf : ∀ i, i < 8 → g (k + i) = .int (own_bt x_ i)) :
    own_Con l Z n0 (⟨"com/example/libcachet/libcachet/GhashIvForPinLaw", "read", "([BI)J"⟩ : MethodName) method_4_code 2 (some .long) ({ frames := 0, cells := 0, slots := 0, locals := 0 } : Room) [] #[(.ref a), (.int j)] h0 (fun v h' => v = some (.long x_) ∧ h' = h0) := by
  refine own_enter (plainFor_of_name own_pn_com_example_libcachet_libcachet_GhashIvForPinLaw) Z0 #[.val (.ref a), .val (.int j)] (fun m => by first | (simp [entryFrame, mkF, argsToLocals, Value.category]; done) | rfl) ?_
  intro p e s m below meth c T A X0 hret hnm fin
  refine own_aload X0 own_d_method_4_code_0 rfl ?_
  refine own_iload X0 own_d_method_4_code_1 rfl ?_
  refine own_baloadF X0 V (i := k) hj (by omega) (hf 0 (by omega)) own_d_method_4_code_2 ?_
  refine own_ipush X0 own_d_method_4_code_3 ?_
  refine own_iand X0 own_d_method_4_code_6 ?_
  refine own_i2l X0 own_d_method_4_code_7 ?_
  refine own_ipush X0 own_d_method_4_code_8 ?_
  refine own_lshl X0 own_d_method_4_code_10 ?_
  refine own_aload X0 own_d_method_4_code_11 rfl ?_
  refine own_iload X0 own_d_method_4_code_12 rfl ?_
  refine own_ipush X0 own_d_method_4_code_13 ?_
  refine own_iadd X0 own_d_method_4_code_14 ?_
  refine own_baloadF X0 V (i := (k + 1)) (own_idx_add hj (n := 1) ⟨by decide, by decide⟩ (by omega)) (by omega) (hf 1 (by omega)) own_d_method_4_code_15 ?_
  refine own_ipush X0 own_d_method_4_code_16 ?_
  refine own_iand X0 own_d_method_4_code_19 ?_
  refine own_i2l X0 own_d_method_4_code_20 ?_
  refine own_ipush X0 own_d_method_4_code_21 ?_
  refine own_lshl X0 own_d_method_4_code_23 ?_
  refine own_lor X0 own_d_method_4_code_24 ?_
  refine own_aload X0 own_d_method_4_code_25 rfl ?_
  refine own_iload X0 own_d_method_4_code_26 rfl ?_
  refine own_ipush X0 own_d_method_4_code_27 ?_
  refine own_iadd X0 own_d_method_4_code_28 ?_
  refine own_baloadF X0 V (i := (k + 2)) (own_idx_add hj (n := 2) ⟨by decide, by decide⟩ (by omega)) (by omega) (hf 2 (by omega)) own_d_method_4_code_29 ?_
  refine own_ipush X0 own_d_method_4_code_30 ?_
  refine own_iand X0 own_d_method_4_code_33 ?_
  refine own_i2l X0 own_d_method_4_code_34 ?_
  refine own_ipush X0 own_d_method_4_code_35 ?_
  refine own_lshl X0 own_d_method_4_code_37 ?_
  refine own_lor X0 own_d_method_4_code_38 ?_
  refine own_aload X0 own_d_method_4_code_39 rfl ?_
  refine own_iload X0 own_d_method_4_code_40 rfl ?_
  refine own_ipush X0 own_d_method_4_code_41 ?_
  refine own_iadd X0 own_d_method_4_code_42 ?_
  refine own_baloadF X0 V (i := (k + 3)) (own_idx_add hj (n := 3) ⟨by decide, by decide⟩ (by omega)) (by omega) (hf 3 (by omega)) own_d_method_4_code_43 ?_
  refine own_ipush X0 own_d_method_4_code_44 ?_
  refine own_iand X0 own_d_method_4_code_47 ?_
  refine own_i2l X0 own_d_method_4_code_48 ?_
  refine own_ipush X0 own_d_method_4_code_49 ?_
  refine own_lshl X0 own_d_method_4_code_51 ?_
  refine own_lor X0 own_d_method_4_code_52 ?_
  refine own_aload X0 own_d_method_4_code_53 rfl ?_
  refine own_iload X0 own_d_method_4_code_54 rfl ?_
  refine own_ipush X0 own_d_method_4_code_55 ?_
  refine own_iadd X0 own_d_method_4_code_56 ?_
  refine own_baloadF X0 V (i := (k + 4)) (own_idx_add hj (n := 4) ⟨by decide, by decide⟩ (by omega)) (by omega) (hf 4 (by omega)) own_d_method_4_code_57 ?_
  refine own_ipush X0 own_d_method_4_code_58 ?_
  refine own_iand X0 own_d_method_4_code_61 ?_
  refine own_i2l X0 own_d_method_4_code_62 ?_
  refine own_ipush X0 own_d_method_4_code_63 ?_
  refine own_lshl X0 own_d_method_4_code_65 ?_
  refine own_lor X0 own_d_method_4_code_66 ?_
  refine own_aload X0 own_d_method_4_code_67 rfl ?_
  refine own_iload X0 own_d_method_4_code_68 rfl ?_
  refine own_ipush X0 own_d_method_4_code_69 ?_
  refine own_iadd X0 own_d_method_4_code_70 ?_
  refine own_baloadF X0 V (i := (k + 5)) (own_idx_add hj (n := 5) ⟨by decide, by decide⟩ (by omega)) (by omega) (hf 5 (by omega)) own_d_method_4_code_71 ?_
  refine own_ipush X0 own_d_method_4_code_72 ?_
  refine own_iand X0 own_d_method_4_code_75 ?_
  refine own_i2l X0 own_d_method_4_code_76 ?_
  refine own_ipush X0 own_d_method_4_code_77 ?_
  refine own_lshl X0 own_d_method_4_code_79 ?_
  refine own_lor X0 own_d_method_4_code_80 ?_
  refine own_aload X0 own_d_method_4_code_81 rfl ?_
  refine own_iload X0 own_d_method_4_code_82 rfl ?_
  refine own_ipush X0 own_d_method_4_code_83 ?_
  refine own_iadd X0 own_d_method_4_code_85 ?_
  refine own_baloadF X0 V (i := (k + 6)) (own_idx_add hj (n := 6) ⟨by decide, by decide⟩ (by omega)) (by omega) (hf 6 (by omega)) own_d_method_4_code_86 ?_
  refine own_ipush X0 own_d_method_4_code_87 ?_
  refine own_iand X0 own_d_method_4_code_90 ?_
  refine own_i2l X0 own_d_method_4_code_91 ?_
  refine own_ipush X0 own_d_method_4_code_92 ?_
  refine own_lshl X0 own_d_method_4_code_94 ?_
  refine own_lor X0 own_d_method_4_code_95 ?_
  refine own_aload X0 own_d_method_4_code_96 rfl ?_
  refine own_iload X0 own_d_method_4_code_97 rfl ?_
  refine own_ipush X0 own_d_method_4_code_98 ?_
  refine own_iadd X0 own_d_method_4_code_100 ?_
  refine own_baloadF X0 V (i := (k + 7)) (own_idx_add hj (n := 7) ⟨by decide, by decide⟩ (by omega)) (by omega) (hf 7 (by omega)) own_d_method_4_code_101 ?_
  refine own_ipush X0 own_d_method_4_code_102 ?_
  refine own_iand X0 own_d_method_4_code_105 ?_
  refine own_i2l X0 own_d_method_4_code_106 ?_
  refine own_lor X0 own_d_method_4_code_107 ?_
  exact own_retJ X0 hret fin (by decide) (by decide) ⟨congrArg (fun z => some (Value.long z)) (own_get8 x_), rfl⟩ own_d_method_4_code_108
set_option maxRecDepth 65536 in
set_option maxHeartbeats 40000000 in
theorem own_ctor (l : Launch) (Z : State) (a0 : Array Value) (hw : ∀ d ∈ tables_1, d.before a0 Z = true) (a cb : Addr) (hi lo : Int64) (h0 : Heap) (n0 : Nat) (Z0 : n0 ≤ h0.size) (O : own_Obj Z h0 a "com/example/libcachet/libcachet/Ghash" own_ns_Gh [(.long (0 : Int64)), (.long (0 : Int64)), .null, (.int (0 : Int32)), (.long (0 : Int64)), (.long (0 : Int64)), (.long (0 : Int64)), (.long (0 : Int64)), .null, .null, .null]) (ga : n0 ≤ a) (hac : a ≠ cb) (Vb : own_AF Z h0 cb .byte 16 (own_b16 hi lo)) :
    own_Con l Z n0 (⟨"com/example/libcachet/libcachet/Ghash", "<init>", "([B)V"⟩ : MethodName) prog_70_method_1_code 2 none ({ frames := 1, cells := 1, slots := 2, locals := 38 } : Room) [] #[(.ref a), (.ref cb)] h0 (fun v h' => ∃ (b : Addr) (zh zl : Int64), v = none ∧ Keep h0 h' [a] ∧ own_Obj Z h' a "com/example/libcachet/libcachet/Ghash" own_ns_Gh [(.long hi), (.long lo), (.ref b), (.int (0 : Int32)), (.long (0 : Int64)), (.long (0 : Int64)), (.long (0 : Int64)), (.long (0 : Int64)), .null, .null, .null] ∧ own_AL Z h' b .long [.long zh, .long zl] ∧ h0.size ≤ b ∧ n0 ≤ b ∧ own_pk zh zl = own_gM (own_pk 0 128) (own_pk hi lo)) := by
  refine own_enter (plainFor_of_name own_pn_com_example_libcachet_libcachet_Ghash) Z0 #[.val (.ref a), .val (.ref cb)] (fun m => by first | (simp [entryFrame, mkF, argsToLocals, Value.category]; done) | rfl) ?_
  intro p e s m below meth c T A X0 hret hnm fin
  refine own_aload X0 own_d_prog_70_method_1_code_0 rfl ?_
  refine own_initO X0 (hw _ (List.mem_of_getElem? (i := 12) rfl)) (hw _ (List.mem_of_getElem? (i := 13) rfl)) (hw _ (List.mem_of_getElem? (i := 14) rfl)) own_d_prog_70_method_1_code_1 rfl (by decide) 0 (by show 2 * 0 + _ ≤ _; exact Nat.le_of_eq rfl) (by decide) ?_
  intro T1 X1
  refine own_aload X1 own_d_prog_70_method_1_code_4 rfl ?_
  refine own_aload X1 own_d_prog_70_method_1_code_5 rfl ?_
  refine own_ipush X1 own_d_prog_70_method_1_code_6 ?_
  refine own_callS X1 (y := (⟨"com/example/libcachet/libcachet/Ghash", "long8", "([BI)J"⟩ : MethodName)) [(.ref cb), (.int (0 : Int32))] [(.ref a)] 1 rfl (hw _ (List.mem_of_getElem? (i := 15) rfl)) (hw _ (List.mem_of_getElem? (i := 16) rfl)) (hw _ (List.mem_of_getElem? (i := 8) rfl)) (hw _ (List.mem_of_getElem? (i := 17) rfl)) (by decide) (own_long8 l Z a0 hw cb (0 : Int32) 0 16 (own_bt hi) _ h0 n0 X1.sz Vb ⟨by decide, by decide⟩ (by decide) (by decide) (fun i hi => by simp only [own_b16]; rw [if_pos (by omega)]; congr 2; omega)) own_d_prog_70_method_1_code_7 own_pd___BI_J rfl rfl (by show 2 * 0 + _ ≤ _; exact Nat.le_of_eq rfl) (by decide) (by decide) (by decide) (by decide) ?_
  intro T3 h3 v3 X3 P3
  obtain ⟨rfl, eh3⟩ := P3
  rw [eh3] at X3
  show own_Wins p e below A T3 (mkF m 10 #[.val (.ref a), .val (.ref cb)] [(.long (own_be (own_bt hi) 8)), (.ref a)])
  rw [(own_b16_be hi lo).1]
  show own_Wins p e below A T3 (mkF m 10 #[.val (.ref a), .val (.ref cb)] [(.long hi), (.ref a)])
  refine own_putF X3 (k := 0) (ty := .long) (hw _ (List.mem_of_getElem? (i := 18) rfl)) O (own_laid_Gh hw) rfl (Or.inr ⟨(hw _ (List.mem_of_getElem? (i := 19) rfl)), rfl, hnm⟩) (hw _ (List.mem_of_getElem? (i := 7) rfl)) (by decide) rfl rfl ga own_d_prog_70_method_1_code_10 ?_
  intro T4 h4 X4 W4 V4
  have K4 : Keep h0 h4 [a] := (Keep.refl h0 [a]).wr W4 (Or.inl (by simp))
  replace V4 : own_Obj Z h4 a "com/example/libcachet/libcachet/Ghash" own_ns_Gh [(.long hi), (.long (0 : Int64)), .null, (.int (0 : Int32)), (.long (0 : Int64)), (.long (0 : Int64)), (.long (0 : Int64)), (.long (0 : Int64)), .null, .null, .null] := V4
  have F5_cb : own_AF Z h4 cb .byte 16 (own_b16 hi lo) := Vb.other W4 (Ne.symm hac)
  refine own_aload X4 own_d_prog_70_method_1_code_13 rfl ?_
  refine own_aload X4 own_d_prog_70_method_1_code_14 rfl ?_
  refine own_ipush X4 own_d_prog_70_method_1_code_15 ?_
  refine own_callS X4 (y := (⟨"com/example/libcachet/libcachet/Ghash", "long8", "([BI)J"⟩ : MethodName)) [(.ref cb), (.int (8 : Int32))] [(.ref a)] 1 rfl (hw _ (List.mem_of_getElem? (i := 15) rfl)) (hw _ (List.mem_of_getElem? (i := 16) rfl)) (hw _ (List.mem_of_getElem? (i := 8) rfl)) (hw _ (List.mem_of_getElem? (i := 17) rfl)) (by decide) (own_long8 l Z a0 hw cb (8 : Int32) 8 16 (own_bt lo) _ h4 n0 X4.sz F5_cb ⟨by decide, by decide⟩ (by decide) (by decide) (fun i hi => by simp only [own_b16]; rw [if_neg (by omega)]; congr 2; omega)) own_d_prog_70_method_1_code_17 own_pd___BI_J rfl rfl (by show 2 * 0 + _ ≤ _; exact Nat.le_of_eq rfl) (by decide) (by decide) (by decide) (by decide) ?_
  intro T7 h7 v7 X7 P7
  obtain ⟨rfl, eh7⟩ := P7
  rw [eh7] at X7
  show own_Wins p e below A T7 (mkF m 20 #[.val (.ref a), .val (.ref cb)] [(.long (own_be (own_bt lo) 8)), (.ref a)])
  rw [(own_b16_be hi lo).2]
  show own_Wins p e below A T7 (mkF m 20 #[.val (.ref a), .val (.ref cb)] [(.long lo), (.ref a)])
  refine own_putF X7 (k := 1) (ty := .long) (hw _ (List.mem_of_getElem? (i := 20) rfl)) V4 (own_laid_Gh hw) rfl (Or.inr ⟨(hw _ (List.mem_of_getElem? (i := 21) rfl)), rfl, hnm⟩) (hw _ (List.mem_of_getElem? (i := 7) rfl)) (by decide) rfl rfl ga own_d_prog_70_method_1_code_20 ?_
  intro T8 h8 X8 W8 V8
  have K8 : Keep h0 h8 [a] := K4.wr W8 (Or.inl (by simp))
  replace V8 : own_Obj Z h8 a "com/example/libcachet/libcachet/Ghash" own_ns_Gh [(.long hi), (.long lo), .null, (.int (0 : Int32)), (.long (0 : Int64)), (.long (0 : Int64)), (.long (0 : Int64)), (.long (0 : Int64)), .null, .null, .null] := V8
  have F9_cb : own_AF Z h8 cb .byte 16 (own_b16 hi lo) := F5_cb.other W8 (Ne.symm hac)
  refine own_aload X8 own_d_prog_70_method_1_code_23 rfl ?_
  refine own_lpush X8 own_d_prog_70_method_1_code_24 ?_
  refine own_ldc2 X8 (hw _ (List.mem_of_getElem? (i := 22) rfl)) own_d_prog_70_method_1_code_25 ?_
  refine own_aload X8 own_d_prog_70_method_1_code_28 rfl ?_
  refine own_getF X8 (host := "") (k := 0) (hw _ (List.mem_of_getElem? (i := 18) rfl)) V8 rfl rfl own_d_prog_70_method_1_code_29 ?_
  intro T10 X10
  refine own_aload X10 own_d_prog_70_method_1_code_32 rfl ?_
  refine own_getF X10 (host := "") (k := 1) (hw _ (List.mem_of_getElem? (i := 20) rfl)) V8 rfl rfl own_d_prog_70_method_1_code_33 ?_
  intro T11 X11
  refine own_callS X11 (y := (⟨"com/example/libcachet/libcachet/Ghash", "multiply", "(JJJJ)[J"⟩ : MethodName)) [(.long (0 : Int64)), (.long (128 : Int64)), (.long hi), (.long lo)] [(.ref a)] 1 rfl (hw _ (List.mem_of_getElem? (i := 23) rfl)) (hw _ (List.mem_of_getElem? (i := 24) rfl)) (hw _ (List.mem_of_getElem? (i := 8) rfl)) (hw _ (List.mem_of_getElem? (i := 25) rfl)) (by decide) (own_multiply l Z a0 hw (0 : Int64) (128 : Int64) hi lo h8 n0 X11.sz) own_d_prog_70_method_1_code_36 own_pd__JJJJ__J rfl rfl (by show 2 * 0 + _ ≤ _; exact Nat.le_of_eq rfl) (by decide) (by decide) (by decide) (by decide) ?_
  intro T12 h12 v12 X12 P12
  obtain ⟨bmt, zht, zlt, rfl, Kc12, sz12, ga_bmt, V12, hzt⟩ := P12
  have ne_a_bmt : a ≠ bmt := Nat.ne_of_lt (Nat.lt_of_lt_of_le V8.lt sz12)
  have ne_cb_bmt : cb ≠ bmt := Nat.ne_of_lt (Nat.lt_of_lt_of_le F9_cb.lt sz12)
  have sz_bmt : h0.size ≤ bmt := Nat.le_trans K8.1 sz12
  have K12 : Keep h0 h12 [a] := K8.trans Kc12 all0
  have F13_a : own_Obj Z h12 a "com/example/libcachet/libcachet/Ghash" own_ns_Gh [(.long hi), (.long lo), .null, (.int (0 : Int32)), (.long (0 : Int64)), (.long (0 : Int64)), (.long (0 : Int64)), (.long (0 : Int64)), .null, .null, .null] := V8.keep Kc12 nin0
  have F14_cb : own_AF Z h12 cb .byte 16 (own_b16 hi lo) := F9_cb.keep Kc12 nin0
  show own_Wins p e below A T12 (mkF m 39 #[.val (.ref a), .val (.ref cb)] [(.ref bmt), (.ref a)])
  refine own_putF X12 (k := 2) (ty := (.array .long)) (hw _ (List.mem_of_getElem? (i := 28) rfl)) F13_a (own_laid_Gh hw) rfl (Or.inr ⟨(hw _ (List.mem_of_getElem? (i := 29) rfl)), rfl, hnm⟩) (hw _ (List.mem_of_getElem? (i := 7) rfl)) (by decide) rfl rfl ga own_d_prog_70_method_1_code_39 ?_
  intro T15 h15 X15 W15 V15
  have K15 : Keep h0 h15 [a] := K12.wr W15 (Or.inl (by simp))
  replace V15 : own_Obj Z h15 a "com/example/libcachet/libcachet/Ghash" own_ns_Gh [(.long hi), (.long lo), (.ref bmt), (.int (0 : Int32)), (.long (0 : Int64)), (.long (0 : Int64)), (.long (0 : Int64)), (.long (0 : Int64)), .null, .null, .null] := V15
  have F16_cb : own_AF Z h15 cb .byte 16 (own_b16 hi lo) := F14_cb.other W15 (Ne.symm hac)
  have F17_bmt : own_AL Z h15 bmt .long [(.long zht), (.long zlt)] := V12.other W15 (Ne.symm ne_a_bmt)
  exact own_ret0 X15 hret fin (by decide) (by decide) ⟨bmt, zht, zlt, rfl, K15, V15, F17_bmt, sz_bmt, ga_bmt, hzt⟩ own_d_prog_70_method_1_code_42
set_option maxRecDepth 65536 in
set_option maxHeartbeats 40000000 in
theorem own_block (l : Launch) (Z : State) (a0 : Array Value) (hw : ∀ d ∈ tables_1, d.before a0 Z = true) (hi lo : Int64) (h0 : Heap) (n0 : Nat) (Z0 : n0 ≤ h0.size)  :
    own_Con l Z n0 (⟨"com/example/libcachet/libcachet/GhashIvForPinLaw", "block", "(JJ)[B"⟩ : MethodName) method_3_code 5 (some (.array .byte)) ({ frames := 0, cells := 1, slots := 16, locals := 0 } : Room) [] #[(.long hi), (.long lo)] h0 (fun v h' => ∃ b : Addr, v = some (.ref b) ∧ Keep h0 h' [] ∧ h0.size ≤ b ∧ n0 ≤ b ∧ own_AF Z h' b .byte 16 (own_b16 hi lo)) := by
  refine own_enter (plainFor_of_name own_pn_com_example_libcachet_libcachet_GhashIvForPinLaw) Z0 #[.val (.long hi), .second, .val (.long lo), .second, .unset] (fun m => by first | (simp [entryFrame, mkF, argsToLocals, Value.category]; done) | rfl) ?_
  intro p e s m below meth c T A X0 hret hnm fin
  refine own_ipush X0 own_d_method_3_code_0 ?_
  refine own_newarr X0 (hw _ (List.mem_of_getElem? (i := 4) rfl)) own_d_method_3_code_2 (n := 16) ⟨by decide, by decide⟩ 16 (Nat.le_refl _) (by decide) (by decide) (by decide) ?_
  intro T1 h1 b1 X1 E1 g1 ga_b1 V1
  have sz_b1 : h0.size ≤ b1 := by rw [g1]; exact (Keep.refl h0 []).1
  have K1 : Keep h0 h1 [] := (Keep.refl h0 []).ext E1
  replace V1 : own_AL Z h1 b1 .byte [(.int (0 : Int32)), (.int (0 : Int32)), (.int (0 : Int32)), (.int (0 : Int32)), (.int (0 : Int32)), (.int (0 : Int32)), (.int (0 : Int32)), (.int (0 : Int32)), (.int (0 : Int32)), (.int (0 : Int32)), (.int (0 : Int32)), (.int (0 : Int32)), (.int (0 : Int32)), (.int (0 : Int32)), (.int (0 : Int32)), (.int (0 : Int32))] := V1
  refine own_astore X1 #[.val (.long hi), .second, .val (.long lo), .second, .val (.ref b1)] own_d_method_3_code_4 rfl ?_
  refine own_aload X1 own_d_method_3_code_6 rfl ?_
  refine own_ipush X1 own_d_method_3_code_8 ?_
  refine own_lload X1 own_d_method_3_code_9 rfl ?_
  refine own_ipush X1 own_d_method_3_code_10 ?_
  refine own_lushr X1 own_d_method_3_code_12 ?_
  refine own_l2i X1 own_d_method_3_code_13 ?_
  refine own_i2b X1 own_d_method_3_code_14 ?_
  refine own_bastore X1 V1 ga_b1 (i := 0) ⟨by decide, by decide⟩ (Nat.le_of_ble_eq_true rfl) own_d_method_3_code_15 ?_
  intro T2 h2 X2 W2 V2
  have K2 : Keep h0 h2 [] := K1.wr W2 (Or.inr sz_b1)
  replace V2 : own_AL Z h2 b1 .byte [(.int (((((own_Lushr hi (56 : Int32))).toInt32)).toInt8.toInt32).toInt8.toInt32), (.int (0 : Int32)), (.int (0 : Int32)), (.int (0 : Int32)), (.int (0 : Int32)), (.int (0 : Int32)), (.int (0 : Int32)), (.int (0 : Int32)), (.int (0 : Int32)), (.int (0 : Int32)), (.int (0 : Int32)), (.int (0 : Int32)), (.int (0 : Int32)), (.int (0 : Int32)), (.int (0 : Int32)), (.int (0 : Int32))] := V2
  refine own_aload X2 own_d_method_3_code_16 rfl ?_
  refine own_ipush X2 own_d_method_3_code_18 ?_
  refine own_lload X2 own_d_method_3_code_19 rfl ?_
  refine own_ipush X2 own_d_method_3_code_20 ?_
  refine own_lushr X2 own_d_method_3_code_22 ?_
  refine own_l2i X2 own_d_method_3_code_23 ?_
  refine own_i2b X2 own_d_method_3_code_24 ?_
  refine own_bastore X2 V2 ga_b1 (i := 1) ⟨by decide, by decide⟩ (Nat.le_of_ble_eq_true rfl) own_d_method_3_code_25 ?_
  intro T3 h3 X3 W3 V3
  have K3 : Keep h0 h3 [] := K2.wr W3 (Or.inr sz_b1)
  replace V3 : own_AL Z h3 b1 .byte [(.int (((((own_Lushr hi (56 : Int32))).toInt32)).toInt8.toInt32).toInt8.toInt32), (.int (((((own_Lushr hi (48 : Int32))).toInt32)).toInt8.toInt32).toInt8.toInt32), (.int (0 : Int32)), (.int (0 : Int32)), (.int (0 : Int32)), (.int (0 : Int32)), (.int (0 : Int32)), (.int (0 : Int32)), (.int (0 : Int32)), (.int (0 : Int32)), (.int (0 : Int32)), (.int (0 : Int32)), (.int (0 : Int32)), (.int (0 : Int32)), (.int (0 : Int32)), (.int (0 : Int32))] := V3
  refine own_aload X3 own_d_method_3_code_26 rfl ?_
  refine own_ipush X3 own_d_method_3_code_28 ?_
  refine own_lload X3 own_d_method_3_code_29 rfl ?_
  refine own_ipush X3 own_d_method_3_code_30 ?_
  refine own_lushr X3 own_d_method_3_code_32 ?_
  refine own_l2i X3 own_d_method_3_code_33 ?_
  refine own_i2b X3 own_d_method_3_code_34 ?_
  refine own_bastore X3 V3 ga_b1 (i := 2) ⟨by decide, by decide⟩ (Nat.le_of_ble_eq_true rfl) own_d_method_3_code_35 ?_
  intro T4 h4 X4 W4 V4
  have K4 : Keep h0 h4 [] := K3.wr W4 (Or.inr sz_b1)
  replace V4 : own_AL Z h4 b1 .byte [(.int (((((own_Lushr hi (56 : Int32))).toInt32)).toInt8.toInt32).toInt8.toInt32), (.int (((((own_Lushr hi (48 : Int32))).toInt32)).toInt8.toInt32).toInt8.toInt32), (.int (((((own_Lushr hi (40 : Int32))).toInt32)).toInt8.toInt32).toInt8.toInt32), (.int (0 : Int32)), (.int (0 : Int32)), (.int (0 : Int32)), (.int (0 : Int32)), (.int (0 : Int32)), (.int (0 : Int32)), (.int (0 : Int32)), (.int (0 : Int32)), (.int (0 : Int32)), (.int (0 : Int32)), (.int (0 : Int32)), (.int (0 : Int32)), (.int (0 : Int32))] := V4
  refine own_aload X4 own_d_method_3_code_36 rfl ?_
  refine own_ipush X4 own_d_method_3_code_38 ?_
  refine own_lload X4 own_d_method_3_code_39 rfl ?_
  refine own_ipush X4 own_d_method_3_code_40 ?_
  refine own_lushr X4 own_d_method_3_code_42 ?_
  refine own_l2i X4 own_d_method_3_code_43 ?_
  refine own_i2b X4 own_d_method_3_code_44 ?_
  refine own_bastore X4 V4 ga_b1 (i := 3) ⟨by decide, by decide⟩ (Nat.le_of_ble_eq_true rfl) own_d_method_3_code_45 ?_
  intro T5 h5 X5 W5 V5
  have K5 : Keep h0 h5 [] := K4.wr W5 (Or.inr sz_b1)
  replace V5 : own_AL Z h5 b1 .byte [(.int (((((own_Lushr hi (56 : Int32))).toInt32)).toInt8.toInt32).toInt8.toInt32), (.int (((((own_Lushr hi (48 : Int32))).toInt32)).toInt8.toInt32).toInt8.toInt32), (.int (((((own_Lushr hi (40 : Int32))).toInt32)).toInt8.toInt32).toInt8.toInt32), (.int (((((own_Lushr hi (32 : Int32))).toInt32)).toInt8.toInt32).toInt8.toInt32), (.int (0 : Int32)), (.int (0 : Int32)), (.int (0 : Int32)), (.int (0 : Int32)), (.int (0 : Int32)), (.int (0 : Int32)), (.int (0 : Int32)), (.int (0 : Int32)), (.int (0 : Int32)), (.int (0 : Int32)), (.int (0 : Int32)), (.int (0 : Int32))] := V5
  refine own_aload X5 own_d_method_3_code_46 rfl ?_
  refine own_ipush X5 own_d_method_3_code_48 ?_
  refine own_lload X5 own_d_method_3_code_49 rfl ?_
  refine own_ipush X5 own_d_method_3_code_50 ?_
  refine own_lushr X5 own_d_method_3_code_52 ?_
  refine own_l2i X5 own_d_method_3_code_53 ?_
  refine own_i2b X5 own_d_method_3_code_54 ?_
  refine own_bastore X5 V5 ga_b1 (i := 4) ⟨by decide, by decide⟩ (Nat.le_of_ble_eq_true rfl) own_d_method_3_code_55 ?_
  intro T6 h6 X6 W6 V6
  have K6 : Keep h0 h6 [] := K5.wr W6 (Or.inr sz_b1)
  replace V6 : own_AL Z h6 b1 .byte [(.int (((((own_Lushr hi (56 : Int32))).toInt32)).toInt8.toInt32).toInt8.toInt32), (.int (((((own_Lushr hi (48 : Int32))).toInt32)).toInt8.toInt32).toInt8.toInt32), (.int (((((own_Lushr hi (40 : Int32))).toInt32)).toInt8.toInt32).toInt8.toInt32), (.int (((((own_Lushr hi (32 : Int32))).toInt32)).toInt8.toInt32).toInt8.toInt32), (.int (((((own_Lushr hi (24 : Int32))).toInt32)).toInt8.toInt32).toInt8.toInt32), (.int (0 : Int32)), (.int (0 : Int32)), (.int (0 : Int32)), (.int (0 : Int32)), (.int (0 : Int32)), (.int (0 : Int32)), (.int (0 : Int32)), (.int (0 : Int32)), (.int (0 : Int32)), (.int (0 : Int32)), (.int (0 : Int32))] := V6
  refine own_aload X6 own_d_method_3_code_56 rfl ?_
  refine own_ipush X6 own_d_method_3_code_58 ?_
  refine own_lload X6 own_d_method_3_code_59 rfl ?_
  refine own_ipush X6 own_d_method_3_code_60 ?_
  refine own_lushr X6 own_d_method_3_code_62 ?_
  refine own_l2i X6 own_d_method_3_code_63 ?_
  refine own_i2b X6 own_d_method_3_code_64 ?_
  refine own_bastore X6 V6 ga_b1 (i := 5) ⟨by decide, by decide⟩ (Nat.le_of_ble_eq_true rfl) own_d_method_3_code_65 ?_
  intro T7 h7 X7 W7 V7
  have K7 : Keep h0 h7 [] := K6.wr W7 (Or.inr sz_b1)
  replace V7 : own_AL Z h7 b1 .byte [(.int (((((own_Lushr hi (56 : Int32))).toInt32)).toInt8.toInt32).toInt8.toInt32), (.int (((((own_Lushr hi (48 : Int32))).toInt32)).toInt8.toInt32).toInt8.toInt32), (.int (((((own_Lushr hi (40 : Int32))).toInt32)).toInt8.toInt32).toInt8.toInt32), (.int (((((own_Lushr hi (32 : Int32))).toInt32)).toInt8.toInt32).toInt8.toInt32), (.int (((((own_Lushr hi (24 : Int32))).toInt32)).toInt8.toInt32).toInt8.toInt32), (.int (((((own_Lushr hi (16 : Int32))).toInt32)).toInt8.toInt32).toInt8.toInt32), (.int (0 : Int32)), (.int (0 : Int32)), (.int (0 : Int32)), (.int (0 : Int32)), (.int (0 : Int32)), (.int (0 : Int32)), (.int (0 : Int32)), (.int (0 : Int32)), (.int (0 : Int32)), (.int (0 : Int32))] := V7
  refine own_aload X7 own_d_method_3_code_66 rfl ?_
  refine own_ipush X7 own_d_method_3_code_68 ?_
  refine own_lload X7 own_d_method_3_code_70 rfl ?_
  refine own_ipush X7 own_d_method_3_code_71 ?_
  refine own_lushr X7 own_d_method_3_code_73 ?_
  refine own_l2i X7 own_d_method_3_code_74 ?_
  refine own_i2b X7 own_d_method_3_code_75 ?_
  refine own_bastore X7 V7 ga_b1 (i := 6) ⟨by decide, by decide⟩ (Nat.le_of_ble_eq_true rfl) own_d_method_3_code_76 ?_
  intro T8 h8 X8 W8 V8
  have K8 : Keep h0 h8 [] := K7.wr W8 (Or.inr sz_b1)
  replace V8 : own_AL Z h8 b1 .byte [(.int (((((own_Lushr hi (56 : Int32))).toInt32)).toInt8.toInt32).toInt8.toInt32), (.int (((((own_Lushr hi (48 : Int32))).toInt32)).toInt8.toInt32).toInt8.toInt32), (.int (((((own_Lushr hi (40 : Int32))).toInt32)).toInt8.toInt32).toInt8.toInt32), (.int (((((own_Lushr hi (32 : Int32))).toInt32)).toInt8.toInt32).toInt8.toInt32), (.int (((((own_Lushr hi (24 : Int32))).toInt32)).toInt8.toInt32).toInt8.toInt32), (.int (((((own_Lushr hi (16 : Int32))).toInt32)).toInt8.toInt32).toInt8.toInt32), (.int (((((own_Lushr hi (8 : Int32))).toInt32)).toInt8.toInt32).toInt8.toInt32), (.int (0 : Int32)), (.int (0 : Int32)), (.int (0 : Int32)), (.int (0 : Int32)), (.int (0 : Int32)), (.int (0 : Int32)), (.int (0 : Int32)), (.int (0 : Int32)), (.int (0 : Int32))] := V8
  refine own_aload X8 own_d_method_3_code_77 rfl ?_
  refine own_ipush X8 own_d_method_3_code_79 ?_
  refine own_lload X8 own_d_method_3_code_81 rfl ?_
  refine own_l2i X8 own_d_method_3_code_82 ?_
  refine own_i2b X8 own_d_method_3_code_83 ?_
  refine own_bastore X8 V8 ga_b1 (i := 7) ⟨by decide, by decide⟩ (Nat.le_of_ble_eq_true rfl) own_d_method_3_code_84 ?_
  intro T9 h9 X9 W9 V9
  have K9 : Keep h0 h9 [] := K8.wr W9 (Or.inr sz_b1)
  replace V9 : own_AL Z h9 b1 .byte [(.int (((((own_Lushr hi (56 : Int32))).toInt32)).toInt8.toInt32).toInt8.toInt32), (.int (((((own_Lushr hi (48 : Int32))).toInt32)).toInt8.toInt32).toInt8.toInt32), (.int (((((own_Lushr hi (40 : Int32))).toInt32)).toInt8.toInt32).toInt8.toInt32), (.int (((((own_Lushr hi (32 : Int32))).toInt32)).toInt8.toInt32).toInt8.toInt32), (.int (((((own_Lushr hi (24 : Int32))).toInt32)).toInt8.toInt32).toInt8.toInt32), (.int (((((own_Lushr hi (16 : Int32))).toInt32)).toInt8.toInt32).toInt8.toInt32), (.int (((((own_Lushr hi (8 : Int32))).toInt32)).toInt8.toInt32).toInt8.toInt32), (.int ((((hi).toInt32)).toInt8.toInt32).toInt8.toInt32), (.int (0 : Int32)), (.int (0 : Int32)), (.int (0 : Int32)), (.int (0 : Int32)), (.int (0 : Int32)), (.int (0 : Int32)), (.int (0 : Int32)), (.int (0 : Int32))] := V9
  refine own_aload X9 own_d_method_3_code_85 rfl ?_
  refine own_ipush X9 own_d_method_3_code_87 ?_
  refine own_lload X9 own_d_method_3_code_89 rfl ?_
  refine own_ipush X9 own_d_method_3_code_90 ?_
  refine own_lushr X9 own_d_method_3_code_92 ?_
  refine own_l2i X9 own_d_method_3_code_93 ?_
  refine own_i2b X9 own_d_method_3_code_94 ?_
  refine own_bastore X9 V9 ga_b1 (i := 8) ⟨by decide, by decide⟩ (Nat.le_of_ble_eq_true rfl) own_d_method_3_code_95 ?_
  intro T10 h10 X10 W10 V10
  have K10 : Keep h0 h10 [] := K9.wr W10 (Or.inr sz_b1)
  replace V10 : own_AL Z h10 b1 .byte [(.int (((((own_Lushr hi (56 : Int32))).toInt32)).toInt8.toInt32).toInt8.toInt32), (.int (((((own_Lushr hi (48 : Int32))).toInt32)).toInt8.toInt32).toInt8.toInt32), (.int (((((own_Lushr hi (40 : Int32))).toInt32)).toInt8.toInt32).toInt8.toInt32), (.int (((((own_Lushr hi (32 : Int32))).toInt32)).toInt8.toInt32).toInt8.toInt32), (.int (((((own_Lushr hi (24 : Int32))).toInt32)).toInt8.toInt32).toInt8.toInt32), (.int (((((own_Lushr hi (16 : Int32))).toInt32)).toInt8.toInt32).toInt8.toInt32), (.int (((((own_Lushr hi (8 : Int32))).toInt32)).toInt8.toInt32).toInt8.toInt32), (.int ((((hi).toInt32)).toInt8.toInt32).toInt8.toInt32), (.int (((((own_Lushr lo (56 : Int32))).toInt32)).toInt8.toInt32).toInt8.toInt32), (.int (0 : Int32)), (.int (0 : Int32)), (.int (0 : Int32)), (.int (0 : Int32)), (.int (0 : Int32)), (.int (0 : Int32)), (.int (0 : Int32))] := V10
  refine own_aload X10 own_d_method_3_code_96 rfl ?_
  refine own_ipush X10 own_d_method_3_code_98 ?_
  refine own_lload X10 own_d_method_3_code_100 rfl ?_
  refine own_ipush X10 own_d_method_3_code_101 ?_
  refine own_lushr X10 own_d_method_3_code_103 ?_
  refine own_l2i X10 own_d_method_3_code_104 ?_
  refine own_i2b X10 own_d_method_3_code_105 ?_
  refine own_bastore X10 V10 ga_b1 (i := 9) ⟨by decide, by decide⟩ (Nat.le_of_ble_eq_true rfl) own_d_method_3_code_106 ?_
  intro T11 h11 X11 W11 V11
  have K11 : Keep h0 h11 [] := K10.wr W11 (Or.inr sz_b1)
  replace V11 : own_AL Z h11 b1 .byte [(.int (((((own_Lushr hi (56 : Int32))).toInt32)).toInt8.toInt32).toInt8.toInt32), (.int (((((own_Lushr hi (48 : Int32))).toInt32)).toInt8.toInt32).toInt8.toInt32), (.int (((((own_Lushr hi (40 : Int32))).toInt32)).toInt8.toInt32).toInt8.toInt32), (.int (((((own_Lushr hi (32 : Int32))).toInt32)).toInt8.toInt32).toInt8.toInt32), (.int (((((own_Lushr hi (24 : Int32))).toInt32)).toInt8.toInt32).toInt8.toInt32), (.int (((((own_Lushr hi (16 : Int32))).toInt32)).toInt8.toInt32).toInt8.toInt32), (.int (((((own_Lushr hi (8 : Int32))).toInt32)).toInt8.toInt32).toInt8.toInt32), (.int ((((hi).toInt32)).toInt8.toInt32).toInt8.toInt32), (.int (((((own_Lushr lo (56 : Int32))).toInt32)).toInt8.toInt32).toInt8.toInt32), (.int (((((own_Lushr lo (48 : Int32))).toInt32)).toInt8.toInt32).toInt8.toInt32), (.int (0 : Int32)), (.int (0 : Int32)), (.int (0 : Int32)), (.int (0 : Int32)), (.int (0 : Int32)), (.int (0 : Int32))] := V11
  refine own_aload X11 own_d_method_3_code_107 rfl ?_
  refine own_ipush X11 own_d_method_3_code_109 ?_
  refine own_lload X11 own_d_method_3_code_111 rfl ?_
  refine own_ipush X11 own_d_method_3_code_112 ?_
  refine own_lushr X11 own_d_method_3_code_114 ?_
  refine own_l2i X11 own_d_method_3_code_115 ?_
  refine own_i2b X11 own_d_method_3_code_116 ?_
  refine own_bastore X11 V11 ga_b1 (i := 10) ⟨by decide, by decide⟩ (Nat.le_of_ble_eq_true rfl) own_d_method_3_code_117 ?_
  intro T12 h12 X12 W12 V12
  have K12 : Keep h0 h12 [] := K11.wr W12 (Or.inr sz_b1)
  replace V12 : own_AL Z h12 b1 .byte [(.int (((((own_Lushr hi (56 : Int32))).toInt32)).toInt8.toInt32).toInt8.toInt32), (.int (((((own_Lushr hi (48 : Int32))).toInt32)).toInt8.toInt32).toInt8.toInt32), (.int (((((own_Lushr hi (40 : Int32))).toInt32)).toInt8.toInt32).toInt8.toInt32), (.int (((((own_Lushr hi (32 : Int32))).toInt32)).toInt8.toInt32).toInt8.toInt32), (.int (((((own_Lushr hi (24 : Int32))).toInt32)).toInt8.toInt32).toInt8.toInt32), (.int (((((own_Lushr hi (16 : Int32))).toInt32)).toInt8.toInt32).toInt8.toInt32), (.int (((((own_Lushr hi (8 : Int32))).toInt32)).toInt8.toInt32).toInt8.toInt32), (.int ((((hi).toInt32)).toInt8.toInt32).toInt8.toInt32), (.int (((((own_Lushr lo (56 : Int32))).toInt32)).toInt8.toInt32).toInt8.toInt32), (.int (((((own_Lushr lo (48 : Int32))).toInt32)).toInt8.toInt32).toInt8.toInt32), (.int (((((own_Lushr lo (40 : Int32))).toInt32)).toInt8.toInt32).toInt8.toInt32), (.int (0 : Int32)), (.int (0 : Int32)), (.int (0 : Int32)), (.int (0 : Int32)), (.int (0 : Int32))] := V12
  refine own_aload X12 own_d_method_3_code_118 rfl ?_
  refine own_ipush X12 own_d_method_3_code_120 ?_
  refine own_lload X12 own_d_method_3_code_122 rfl ?_
  refine own_ipush X12 own_d_method_3_code_123 ?_
  refine own_lushr X12 own_d_method_3_code_125 ?_
  refine own_l2i X12 own_d_method_3_code_126 ?_
  refine own_i2b X12 own_d_method_3_code_127 ?_
  refine own_bastore X12 V12 ga_b1 (i := 11) ⟨by decide, by decide⟩ (Nat.le_of_ble_eq_true rfl) own_d_method_3_code_128 ?_
  intro T13 h13 X13 W13 V13
  have K13 : Keep h0 h13 [] := K12.wr W13 (Or.inr sz_b1)
  replace V13 : own_AL Z h13 b1 .byte [(.int (((((own_Lushr hi (56 : Int32))).toInt32)).toInt8.toInt32).toInt8.toInt32), (.int (((((own_Lushr hi (48 : Int32))).toInt32)).toInt8.toInt32).toInt8.toInt32), (.int (((((own_Lushr hi (40 : Int32))).toInt32)).toInt8.toInt32).toInt8.toInt32), (.int (((((own_Lushr hi (32 : Int32))).toInt32)).toInt8.toInt32).toInt8.toInt32), (.int (((((own_Lushr hi (24 : Int32))).toInt32)).toInt8.toInt32).toInt8.toInt32), (.int (((((own_Lushr hi (16 : Int32))).toInt32)).toInt8.toInt32).toInt8.toInt32), (.int (((((own_Lushr hi (8 : Int32))).toInt32)).toInt8.toInt32).toInt8.toInt32), (.int ((((hi).toInt32)).toInt8.toInt32).toInt8.toInt32), (.int (((((own_Lushr lo (56 : Int32))).toInt32)).toInt8.toInt32).toInt8.toInt32), (.int (((((own_Lushr lo (48 : Int32))).toInt32)).toInt8.toInt32).toInt8.toInt32), (.int (((((own_Lushr lo (40 : Int32))).toInt32)).toInt8.toInt32).toInt8.toInt32), (.int (((((own_Lushr lo (32 : Int32))).toInt32)).toInt8.toInt32).toInt8.toInt32), (.int (0 : Int32)), (.int (0 : Int32)), (.int (0 : Int32)), (.int (0 : Int32))] := V13
  refine own_aload X13 own_d_method_3_code_129 rfl ?_
  refine own_ipush X13 own_d_method_3_code_131 ?_
  refine own_lload X13 own_d_method_3_code_133 rfl ?_
  refine own_ipush X13 own_d_method_3_code_134 ?_
  refine own_lushr X13 own_d_method_3_code_136 ?_
  refine own_l2i X13 own_d_method_3_code_137 ?_
  refine own_i2b X13 own_d_method_3_code_138 ?_
  refine own_bastore X13 V13 ga_b1 (i := 12) ⟨by decide, by decide⟩ (Nat.le_of_ble_eq_true rfl) own_d_method_3_code_139 ?_
  intro T14 h14 X14 W14 V14
  have K14 : Keep h0 h14 [] := K13.wr W14 (Or.inr sz_b1)
  replace V14 : own_AL Z h14 b1 .byte [(.int (((((own_Lushr hi (56 : Int32))).toInt32)).toInt8.toInt32).toInt8.toInt32), (.int (((((own_Lushr hi (48 : Int32))).toInt32)).toInt8.toInt32).toInt8.toInt32), (.int (((((own_Lushr hi (40 : Int32))).toInt32)).toInt8.toInt32).toInt8.toInt32), (.int (((((own_Lushr hi (32 : Int32))).toInt32)).toInt8.toInt32).toInt8.toInt32), (.int (((((own_Lushr hi (24 : Int32))).toInt32)).toInt8.toInt32).toInt8.toInt32), (.int (((((own_Lushr hi (16 : Int32))).toInt32)).toInt8.toInt32).toInt8.toInt32), (.int (((((own_Lushr hi (8 : Int32))).toInt32)).toInt8.toInt32).toInt8.toInt32), (.int ((((hi).toInt32)).toInt8.toInt32).toInt8.toInt32), (.int (((((own_Lushr lo (56 : Int32))).toInt32)).toInt8.toInt32).toInt8.toInt32), (.int (((((own_Lushr lo (48 : Int32))).toInt32)).toInt8.toInt32).toInt8.toInt32), (.int (((((own_Lushr lo (40 : Int32))).toInt32)).toInt8.toInt32).toInt8.toInt32), (.int (((((own_Lushr lo (32 : Int32))).toInt32)).toInt8.toInt32).toInt8.toInt32), (.int (((((own_Lushr lo (24 : Int32))).toInt32)).toInt8.toInt32).toInt8.toInt32), (.int (0 : Int32)), (.int (0 : Int32)), (.int (0 : Int32))] := V14
  refine own_aload X14 own_d_method_3_code_140 rfl ?_
  refine own_ipush X14 own_d_method_3_code_142 ?_
  refine own_lload X14 own_d_method_3_code_144 rfl ?_
  refine own_ipush X14 own_d_method_3_code_145 ?_
  refine own_lushr X14 own_d_method_3_code_147 ?_
  refine own_l2i X14 own_d_method_3_code_148 ?_
  refine own_i2b X14 own_d_method_3_code_149 ?_
  refine own_bastore X14 V14 ga_b1 (i := 13) ⟨by decide, by decide⟩ (Nat.le_of_ble_eq_true rfl) own_d_method_3_code_150 ?_
  intro T15 h15 X15 W15 V15
  have K15 : Keep h0 h15 [] := K14.wr W15 (Or.inr sz_b1)
  replace V15 : own_AL Z h15 b1 .byte [(.int (((((own_Lushr hi (56 : Int32))).toInt32)).toInt8.toInt32).toInt8.toInt32), (.int (((((own_Lushr hi (48 : Int32))).toInt32)).toInt8.toInt32).toInt8.toInt32), (.int (((((own_Lushr hi (40 : Int32))).toInt32)).toInt8.toInt32).toInt8.toInt32), (.int (((((own_Lushr hi (32 : Int32))).toInt32)).toInt8.toInt32).toInt8.toInt32), (.int (((((own_Lushr hi (24 : Int32))).toInt32)).toInt8.toInt32).toInt8.toInt32), (.int (((((own_Lushr hi (16 : Int32))).toInt32)).toInt8.toInt32).toInt8.toInt32), (.int (((((own_Lushr hi (8 : Int32))).toInt32)).toInt8.toInt32).toInt8.toInt32), (.int ((((hi).toInt32)).toInt8.toInt32).toInt8.toInt32), (.int (((((own_Lushr lo (56 : Int32))).toInt32)).toInt8.toInt32).toInt8.toInt32), (.int (((((own_Lushr lo (48 : Int32))).toInt32)).toInt8.toInt32).toInt8.toInt32), (.int (((((own_Lushr lo (40 : Int32))).toInt32)).toInt8.toInt32).toInt8.toInt32), (.int (((((own_Lushr lo (32 : Int32))).toInt32)).toInt8.toInt32).toInt8.toInt32), (.int (((((own_Lushr lo (24 : Int32))).toInt32)).toInt8.toInt32).toInt8.toInt32), (.int (((((own_Lushr lo (16 : Int32))).toInt32)).toInt8.toInt32).toInt8.toInt32), (.int (0 : Int32)), (.int (0 : Int32))] := V15
  refine own_aload X15 own_d_method_3_code_151 rfl ?_
  refine own_ipush X15 own_d_method_3_code_153 ?_
  refine own_lload X15 own_d_method_3_code_155 rfl ?_
  refine own_ipush X15 own_d_method_3_code_156 ?_
  refine own_lushr X15 own_d_method_3_code_158 ?_
  refine own_l2i X15 own_d_method_3_code_159 ?_
  refine own_i2b X15 own_d_method_3_code_160 ?_
  refine own_bastore X15 V15 ga_b1 (i := 14) ⟨by decide, by decide⟩ (Nat.le_of_ble_eq_true rfl) own_d_method_3_code_161 ?_
  intro T16 h16 X16 W16 V16
  have K16 : Keep h0 h16 [] := K15.wr W16 (Or.inr sz_b1)
  replace V16 : own_AL Z h16 b1 .byte [(.int (((((own_Lushr hi (56 : Int32))).toInt32)).toInt8.toInt32).toInt8.toInt32), (.int (((((own_Lushr hi (48 : Int32))).toInt32)).toInt8.toInt32).toInt8.toInt32), (.int (((((own_Lushr hi (40 : Int32))).toInt32)).toInt8.toInt32).toInt8.toInt32), (.int (((((own_Lushr hi (32 : Int32))).toInt32)).toInt8.toInt32).toInt8.toInt32), (.int (((((own_Lushr hi (24 : Int32))).toInt32)).toInt8.toInt32).toInt8.toInt32), (.int (((((own_Lushr hi (16 : Int32))).toInt32)).toInt8.toInt32).toInt8.toInt32), (.int (((((own_Lushr hi (8 : Int32))).toInt32)).toInt8.toInt32).toInt8.toInt32), (.int ((((hi).toInt32)).toInt8.toInt32).toInt8.toInt32), (.int (((((own_Lushr lo (56 : Int32))).toInt32)).toInt8.toInt32).toInt8.toInt32), (.int (((((own_Lushr lo (48 : Int32))).toInt32)).toInt8.toInt32).toInt8.toInt32), (.int (((((own_Lushr lo (40 : Int32))).toInt32)).toInt8.toInt32).toInt8.toInt32), (.int (((((own_Lushr lo (32 : Int32))).toInt32)).toInt8.toInt32).toInt8.toInt32), (.int (((((own_Lushr lo (24 : Int32))).toInt32)).toInt8.toInt32).toInt8.toInt32), (.int (((((own_Lushr lo (16 : Int32))).toInt32)).toInt8.toInt32).toInt8.toInt32), (.int (((((own_Lushr lo (8 : Int32))).toInt32)).toInt8.toInt32).toInt8.toInt32), (.int (0 : Int32))] := V16
  refine own_aload X16 own_d_method_3_code_162 rfl ?_
  refine own_ipush X16 own_d_method_3_code_164 ?_
  refine own_lload X16 own_d_method_3_code_166 rfl ?_
  refine own_l2i X16 own_d_method_3_code_167 ?_
  refine own_i2b X16 own_d_method_3_code_168 ?_
  refine own_bastore X16 V16 ga_b1 (i := 15) ⟨by decide, by decide⟩ (Nat.le_of_ble_eq_true rfl) own_d_method_3_code_169 ?_
  intro T17 h17 X17 W17 V17
  have K17 : Keep h0 h17 [] := K16.wr W17 (Or.inr sz_b1)
  replace V17 : own_AL Z h17 b1 .byte [(.int (((((own_Lushr hi (56 : Int32))).toInt32)).toInt8.toInt32).toInt8.toInt32), (.int (((((own_Lushr hi (48 : Int32))).toInt32)).toInt8.toInt32).toInt8.toInt32), (.int (((((own_Lushr hi (40 : Int32))).toInt32)).toInt8.toInt32).toInt8.toInt32), (.int (((((own_Lushr hi (32 : Int32))).toInt32)).toInt8.toInt32).toInt8.toInt32), (.int (((((own_Lushr hi (24 : Int32))).toInt32)).toInt8.toInt32).toInt8.toInt32), (.int (((((own_Lushr hi (16 : Int32))).toInt32)).toInt8.toInt32).toInt8.toInt32), (.int (((((own_Lushr hi (8 : Int32))).toInt32)).toInt8.toInt32).toInt8.toInt32), (.int ((((hi).toInt32)).toInt8.toInt32).toInt8.toInt32), (.int (((((own_Lushr lo (56 : Int32))).toInt32)).toInt8.toInt32).toInt8.toInt32), (.int (((((own_Lushr lo (48 : Int32))).toInt32)).toInt8.toInt32).toInt8.toInt32), (.int (((((own_Lushr lo (40 : Int32))).toInt32)).toInt8.toInt32).toInt8.toInt32), (.int (((((own_Lushr lo (32 : Int32))).toInt32)).toInt8.toInt32).toInt8.toInt32), (.int (((((own_Lushr lo (24 : Int32))).toInt32)).toInt8.toInt32).toInt8.toInt32), (.int (((((own_Lushr lo (16 : Int32))).toInt32)).toInt8.toInt32).toInt8.toInt32), (.int (((((own_Lushr lo (8 : Int32))).toInt32)).toInt8.toInt32).toInt8.toInt32), (.int ((((lo).toInt32)).toInt8.toInt32).toInt8.toInt32)] := V17
  refine own_aload X17 own_d_method_3_code_170 rfl ?_
  have hB : own_AF Z h17 b1 .byte 16 (own_b16 hi lo) := (V17.fn 16 rfl (.int 0)).to (fun j hj => by
    match j, hj with
    | 0, _ => exact congrArg Value.int (own_bt8 hi 56 0 (by decide) (by decide))
    | 1, _ => exact congrArg Value.int (own_bt8 hi 48 1 (by decide) (by decide))
    | 2, _ => exact congrArg Value.int (own_bt8 hi 40 2 (by decide) (by decide))
    | 3, _ => exact congrArg Value.int (own_bt8 hi 32 3 (by decide) (by decide))
    | 4, _ => exact congrArg Value.int (own_bt8 hi 24 4 (by decide) (by decide))
    | 5, _ => exact congrArg Value.int (own_bt8 hi 16 5 (by decide) (by decide))
    | 6, _ => exact congrArg Value.int (own_bt8 hi 8 6 (by decide) (by decide))
    | 7, _ => exact congrArg Value.int (own_bt7 hi)
    | 8, _ => exact congrArg Value.int (own_bt8 lo 56 0 (by decide) (by decide))
    | 9, _ => exact congrArg Value.int (own_bt8 lo 48 1 (by decide) (by decide))
    | 10, _ => exact congrArg Value.int (own_bt8 lo 40 2 (by decide) (by decide))
    | 11, _ => exact congrArg Value.int (own_bt8 lo 32 3 (by decide) (by decide))
    | 12, _ => exact congrArg Value.int (own_bt8 lo 24 4 (by decide) (by decide))
    | 13, _ => exact congrArg Value.int (own_bt8 lo 16 5 (by decide) (by decide))
    | 14, _ => exact congrArg Value.int (own_bt8 lo 8 6 (by decide) (by decide))
    | 15, _ => exact congrArg Value.int (own_bt7 lo)
    | n + 16, h => exact absurd h (by omega))
  exact own_retA X17 hret rfl rfl fin (by decide) (by decide) ⟨b1, rfl, K17, sz_b1, ga_b1, hB⟩ own_d_method_3_code_172
set_option maxRecDepth 65536 in
set_option maxHeartbeats 40000000 in
theorem own_power (l : Launch) (Z : State) (a0 : Array Value) (hw : ∀ d ∈ tables_1, d.before a0 Z = true) (a : Addr) (hi lo : Int64) (u_ivLengthTerm u_ended u_length u_sumHigh u_sumLow u_termLength u_lengthTerm u_power u_inverseSquare : Value) (h0 : Heap) (n0 : Nat) (Z0 : n0 ≤ h0.size) (O : own_Obj Z h0 a "com/example/libcachet/libcachet/Ghash" own_ns_Gh [(.long hi), (.long lo), u_ivLengthTerm, u_ended, u_length, u_sumHigh, u_sumLow, u_termLength, u_lengthTerm, u_power, u_inverseSquare]) :
    own_Con l Z n0 (⟨"com/example/libcachet/libcachet/Ghash", "power", "(J)[J"⟩ : MethodName) prog_70_method_6_code 7 (some (.array .long)) ({ frames := 1, cells := 4, slots := 8, locals := 35 } : Room) [] #[(.ref a), (.long (1 : Int64))] h0 (fun v h' => ∃ (b : Addr) (zh zl : Int64), v = some (.ref b) ∧ Keep h0 h' [] ∧ h0.size ≤ b ∧ n0 ≤ b ∧ own_AL Z h' b .long [.long zh, .long zl] ∧ own_pk zh zl = own_pk hi lo) := by
  refine own_enter (plainFor_of_name own_pn_com_example_libcachet_libcachet_Ghash) Z0 #[.val (.ref a), .val (.long (1 : Int64)), .second, .unset, .unset, .unset, .unset] (fun m => by first | (simp [entryFrame, mkF, argsToLocals, Value.category]; done) | rfl) ?_
  intro p e s m below meth c T A X0 hret hnm fin
  refine own_ipush X0 own_d_prog_70_method_6_code_0 ?_
  refine own_newarr X0 (hw _ (List.mem_of_getElem? (i := 27) rfl)) own_d_prog_70_method_6_code_1 (n := 2) ⟨by decide, by decide⟩ 2 (Nat.le_refl _) (by decide) (by decide) (by decide) ?_
  intro T1 h1 b1 X1 E1 g1 ga_b1 V1
  have ne_a_b1 : a ≠ b1 := by rw [g1]; exact Nat.ne_of_lt O.lt
  have sz_b1 : h0.size ≤ b1 := by rw [g1]; exact (Keep.refl h0 []).1
  have K1 : Keep h0 h1 [] := (Keep.refl h0 []).ext E1
  have F2_a : own_Obj Z h1 a "com/example/libcachet/libcachet/Ghash" own_ns_Gh [(.long hi), (.long lo), u_ivLengthTerm, u_ended, u_length, u_sumHigh, u_sumLow, u_termLength, u_lengthTerm, u_power, u_inverseSquare] := O.ext E1
  replace V1 : own_AL Z h1 b1 .long [(.long (0 : Int64)), (.long (0 : Int64))] := V1
  refine own_dup X1 own_d_prog_70_method_6_code_3 rfl ?_
  refine own_ipush X1 own_d_prog_70_method_6_code_4 ?_
  refine own_ldc2 X1 (hw _ (List.mem_of_getElem? (i := 61) rfl)) own_d_prog_70_method_6_code_5 ?_
  refine own_lastore X1 V1 ga_b1 (i := 0) ⟨by decide, by decide⟩ (Nat.le_of_ble_eq_true rfl) own_d_prog_70_method_6_code_8 ?_
  intro T3 h3 X3 W3 V3
  have K3 : Keep h0 h3 [] := K1.wr W3 (Or.inr sz_b1)
  replace V3 : own_AL Z h3 b1 .long [(.long (-9223372036854775808 : Int64)), (.long (0 : Int64))] := V3
  have F4_a : own_Obj Z h3 a "com/example/libcachet/libcachet/Ghash" own_ns_Gh [(.long hi), (.long lo), u_ivLengthTerm, u_ended, u_length, u_sumHigh, u_sumLow, u_termLength, u_lengthTerm, u_power, u_inverseSquare] := F2_a.other W3 (Ne.symm (Ne.symm ne_a_b1))
  refine own_dup X3 own_d_prog_70_method_6_code_9 rfl ?_
  refine own_ipush X3 own_d_prog_70_method_6_code_10 ?_
  refine own_lpush X3 own_d_prog_70_method_6_code_11 ?_
  refine own_lastore X3 V3 ga_b1 (i := 1) ⟨by decide, by decide⟩ (Nat.le_of_ble_eq_true rfl) own_d_prog_70_method_6_code_12 ?_
  intro T5 h5 X5 W5 V5
  have K5 : Keep h0 h5 [] := K3.wr W5 (Or.inr sz_b1)
  replace V5 : own_AL Z h5 b1 .long [(.long (-9223372036854775808 : Int64)), (.long (0 : Int64))] := V5
  have F6_a : own_Obj Z h5 a "com/example/libcachet/libcachet/Ghash" own_ns_Gh [(.long hi), (.long lo), u_ivLengthTerm, u_ended, u_length, u_sumHigh, u_sumLow, u_termLength, u_lengthTerm, u_power, u_inverseSquare] := F4_a.other W5 (Ne.symm (Ne.symm ne_a_b1))
  refine own_astore X5 #[.val (.ref a), .val (.long (1 : Int64)), .second, .val (.ref b1), .unset, .unset, .unset] own_d_prog_70_method_6_code_13 rfl ?_
  refine own_ipush X5 own_d_prog_70_method_6_code_14 ?_
  refine own_newarr X5 (hw _ (List.mem_of_getElem? (i := 27) rfl)) own_d_prog_70_method_6_code_15 (n := 2) ⟨by decide, by decide⟩ 2 (Nat.le_refl _) (by decide) (by decide) (by decide) ?_
  intro T7 h7 b7 X7 E7 g7 ga_b7 V7
  have ne_a_b7 : a ≠ b7 := by rw [g7]; exact Nat.ne_of_lt F6_a.lt
  have ne_b1_b7 : b1 ≠ b7 := by rw [g7]; exact Nat.ne_of_lt V5.lt
  have sz_b7 : h0.size ≤ b7 := by rw [g7]; exact K5.1
  have K7 : Keep h0 h7 [] := K5.ext E7
  have F8_a : own_Obj Z h7 a "com/example/libcachet/libcachet/Ghash" own_ns_Gh [(.long hi), (.long lo), u_ivLengthTerm, u_ended, u_length, u_sumHigh, u_sumLow, u_termLength, u_lengthTerm, u_power, u_inverseSquare] := F6_a.ext E7
  have F9_b1 : own_AL Z h7 b1 .long [(.long (-9223372036854775808 : Int64)), (.long (0 : Int64))] := V5.ext E7
  replace V7 : own_AL Z h7 b7 .long [(.long (0 : Int64)), (.long (0 : Int64))] := V7
  refine own_dup X7 own_d_prog_70_method_6_code_17 rfl ?_
  refine own_ipush X7 own_d_prog_70_method_6_code_18 ?_
  refine own_aload X7 own_d_prog_70_method_6_code_19 rfl ?_
  refine own_getF X7 (host := "") (k := 0) (hw _ (List.mem_of_getElem? (i := 18) rfl)) F8_a rfl rfl own_d_prog_70_method_6_code_20 ?_
  intro T10 X10
  refine own_lastore X10 V7 ga_b7 (i := 0) ⟨by decide, by decide⟩ (Nat.le_of_ble_eq_true rfl) own_d_prog_70_method_6_code_23 ?_
  intro T11 h11 X11 W11 V11
  have K11 : Keep h0 h11 [] := K7.wr W11 (Or.inr sz_b7)
  replace V11 : own_AL Z h11 b7 .long [(.long hi), (.long (0 : Int64))] := V11
  have F12_a : own_Obj Z h11 a "com/example/libcachet/libcachet/Ghash" own_ns_Gh [(.long hi), (.long lo), u_ivLengthTerm, u_ended, u_length, u_sumHigh, u_sumLow, u_termLength, u_lengthTerm, u_power, u_inverseSquare] := F8_a.other W11 (Ne.symm (Ne.symm ne_a_b7))
  have F13_b1 : own_AL Z h11 b1 .long [(.long (-9223372036854775808 : Int64)), (.long (0 : Int64))] := F9_b1.other W11 (Ne.symm (Ne.symm ne_b1_b7))
  refine own_dup X11 own_d_prog_70_method_6_code_24 rfl ?_
  refine own_ipush X11 own_d_prog_70_method_6_code_25 ?_
  refine own_aload X11 own_d_prog_70_method_6_code_26 rfl ?_
  refine own_getF X11 (host := "") (k := 1) (hw _ (List.mem_of_getElem? (i := 20) rfl)) F12_a rfl rfl own_d_prog_70_method_6_code_27 ?_
  intro T14 X14
  refine own_lastore X14 V11 ga_b7 (i := 1) ⟨by decide, by decide⟩ (Nat.le_of_ble_eq_true rfl) own_d_prog_70_method_6_code_30 ?_
  intro T15 h15 X15 W15 V15
  have K15 : Keep h0 h15 [] := K11.wr W15 (Or.inr sz_b7)
  replace V15 : own_AL Z h15 b7 .long [(.long hi), (.long lo)] := V15
  have F16_a : own_Obj Z h15 a "com/example/libcachet/libcachet/Ghash" own_ns_Gh [(.long hi), (.long lo), u_ivLengthTerm, u_ended, u_length, u_sumHigh, u_sumLow, u_termLength, u_lengthTerm, u_power, u_inverseSquare] := F12_a.other W15 (Ne.symm (Ne.symm ne_a_b7))
  have F17_b1 : own_AL Z h15 b1 .long [(.long (-9223372036854775808 : Int64)), (.long (0 : Int64))] := F13_b1.other W15 (Ne.symm (Ne.symm ne_b1_b7))
  refine own_astore X15 #[.val (.ref a), .val (.long (1 : Int64)), .second, .val (.ref b1), .val (.ref b7), .unset, .unset] own_d_prog_70_method_6_code_31 rfl ?_
  refine own_lload X15 own_d_prog_70_method_6_code_33 rfl ?_
  refine own_lstore X15 #[.val (.ref a), .val (.long (1 : Int64)), .second, .val (.ref b1), .val (.ref b7), .val (.long (1 : Int64)), .second] own_d_prog_70_method_6_code_34 rfl ?_
  refine own_lload X15 own_d_prog_70_method_6_code_36 rfl ?_
  refine own_lpush X15 own_d_prog_70_method_6_code_38 ?_
  refine own_lcmp X15 own_d_prog_70_method_6_code_39 ?_
  refine own_ifNo X15 own_d_prog_70_method_6_code_40 ((if0 _ _).trans (tlt ((lw_gt (1 : Int64) (0 : Int64)).2 (by decide))).2.2.2) ?_
  refine own_lload X15 own_d_prog_70_method_6_code_43 rfl ?_
  refine own_lpush X15 own_d_prog_70_method_6_code_45 ?_
  refine own_land X15 own_d_prog_70_method_6_code_46 ?_
  refine own_lpush X15 own_d_prog_70_method_6_code_47 ?_
  refine own_lcmp X15 own_d_prog_70_method_6_code_48 ?_
  refine own_ifNo X15 own_d_prog_70_method_6_code_49 ((if0 _ _).trans (feq (mt (lw_eq ((1 : Int64) &&& (1 : Int64)) (0 : Int64)).1 (by decide))).1) ?_
  refine own_aload X15 own_d_prog_70_method_6_code_52 rfl ?_
  refine own_ipush X15 own_d_prog_70_method_6_code_53 ?_
  refine own_laload X15 F17_b1 (i := 0) ⟨by decide, by decide⟩ rfl own_d_prog_70_method_6_code_54 ?_
  refine own_aload X15 own_d_prog_70_method_6_code_55 rfl ?_
  refine own_ipush X15 own_d_prog_70_method_6_code_56 ?_
  refine own_laload X15 F17_b1 (i := 1) ⟨by decide, by decide⟩ rfl own_d_prog_70_method_6_code_57 ?_
  refine own_aload X15 own_d_prog_70_method_6_code_58 rfl ?_
  refine own_ipush X15 own_d_prog_70_method_6_code_60 ?_
  refine own_laload X15 V15 (i := 0) ⟨by decide, by decide⟩ rfl own_d_prog_70_method_6_code_61 ?_
  refine own_aload X15 own_d_prog_70_method_6_code_62 rfl ?_
  refine own_ipush X15 own_d_prog_70_method_6_code_64 ?_
  refine own_laload X15 V15 (i := 1) ⟨by decide, by decide⟩ rfl own_d_prog_70_method_6_code_65 ?_
  refine own_callS X15 (y := (⟨"com/example/libcachet/libcachet/Ghash", "multiply", "(JJJJ)[J"⟩ : MethodName)) [(.long (-9223372036854775808 : Int64)), (.long (0 : Int64)), (.long hi), (.long lo)] [] 0 rfl (hw _ (List.mem_of_getElem? (i := 23) rfl)) (hw _ (List.mem_of_getElem? (i := 24) rfl)) (hw _ (List.mem_of_getElem? (i := 8) rfl)) (hw _ (List.mem_of_getElem? (i := 25) rfl)) (by decide) (own_multiply l Z a0 hw (-9223372036854775808 : Int64) (0 : Int64) hi lo h15 n0 X15.sz) own_d_prog_70_method_6_code_66 own_pd__JJJJ__J rfl rfl (by show 2 * 0 + _ ≤ _; exact Nat.le_of_eq rfl) (by decide) (by decide) (by decide) (by decide) ?_
  intro T18 h18 v18 X18 P18
  obtain ⟨bmr, zhr, zlr, rfl, Kc18, sz18, ga_bmr, V18, hzr⟩ := P18
  have ne_a_bmr : a ≠ bmr := Nat.ne_of_lt (Nat.lt_of_lt_of_le F16_a.lt sz18)
  have ne_b1_bmr : b1 ≠ bmr := Nat.ne_of_lt (Nat.lt_of_lt_of_le F17_b1.lt sz18)
  have ne_b7_bmr : b7 ≠ bmr := Nat.ne_of_lt (Nat.lt_of_lt_of_le V15.lt sz18)
  have sz_bmr : h0.size ≤ bmr := Nat.le_trans K15.1 sz18
  have K18 : Keep h0 h18 [] := K15.trans Kc18 all0
  have F19_a : own_Obj Z h18 a "com/example/libcachet/libcachet/Ghash" own_ns_Gh [(.long hi), (.long lo), u_ivLengthTerm, u_ended, u_length, u_sumHigh, u_sumLow, u_termLength, u_lengthTerm, u_power, u_inverseSquare] := F16_a.keep Kc18 nin0
  have F20_b1 : own_AL Z h18 b1 .long [(.long (-9223372036854775808 : Int64)), (.long (0 : Int64))] := F17_b1.keep Kc18 nin0
  have F21_b7 : own_AL Z h18 b7 .long [(.long hi), (.long lo)] := V15.keep Kc18 nin0
  show own_Wins p e below A T18 (mkF m 69 #[.val (.ref a), .val (.long (1 : Int64)), .second, .val (.ref b1), .val (.ref b7), .val (.long (1 : Int64)), .second] [(.ref bmr)])
  refine own_astore X18 #[.val (.ref a), .val (.long (1 : Int64)), .second, .val (.ref bmr), .val (.ref b7), .val (.long (1 : Int64)), .second] own_d_prog_70_method_6_code_69 rfl ?_
  refine own_aload X18 own_d_prog_70_method_6_code_70 rfl ?_
  refine own_ipush X18 own_d_prog_70_method_6_code_72 ?_
  refine own_laload X18 F21_b7 (i := 0) ⟨by decide, by decide⟩ rfl own_d_prog_70_method_6_code_73 ?_
  refine own_aload X18 own_d_prog_70_method_6_code_74 rfl ?_
  refine own_ipush X18 own_d_prog_70_method_6_code_76 ?_
  refine own_laload X18 F21_b7 (i := 1) ⟨by decide, by decide⟩ rfl own_d_prog_70_method_6_code_77 ?_
  refine own_aload X18 own_d_prog_70_method_6_code_78 rfl ?_
  refine own_ipush X18 own_d_prog_70_method_6_code_80 ?_
  refine own_laload X18 F21_b7 (i := 0) ⟨by decide, by decide⟩ rfl own_d_prog_70_method_6_code_81 ?_
  refine own_aload X18 own_d_prog_70_method_6_code_82 rfl ?_
  refine own_ipush X18 own_d_prog_70_method_6_code_84 ?_
  refine own_laload X18 F21_b7 (i := 1) ⟨by decide, by decide⟩ rfl own_d_prog_70_method_6_code_85 ?_
  refine own_callS X18 (y := (⟨"com/example/libcachet/libcachet/Ghash", "multiply", "(JJJJ)[J"⟩ : MethodName)) [(.long hi), (.long lo), (.long hi), (.long lo)] [] 0 rfl (hw _ (List.mem_of_getElem? (i := 23) rfl)) (hw _ (List.mem_of_getElem? (i := 24) rfl)) (hw _ (List.mem_of_getElem? (i := 8) rfl)) (hw _ (List.mem_of_getElem? (i := 25) rfl)) (by decide) (own_multiply l Z a0 hw hi lo hi lo h18 n0 X18.sz) own_d_prog_70_method_6_code_86 own_pd__JJJJ__J rfl rfl (by show 2 * 0 + _ ≤ _; exact Nat.le_of_eq rfl) (by decide) (by decide) (by decide) (by decide) ?_
  intro T22 h22 v22 X22 P22
  obtain ⟨bms, zhs, zls, rfl, Kc22, sz22, ga_bms, V22, hzs⟩ := P22
  have ne_a_bms : a ≠ bms := Nat.ne_of_lt (Nat.lt_of_lt_of_le F19_a.lt sz22)
  have ne_b1_bms : b1 ≠ bms := Nat.ne_of_lt (Nat.lt_of_lt_of_le F20_b1.lt sz22)
  have ne_b7_bms : b7 ≠ bms := Nat.ne_of_lt (Nat.lt_of_lt_of_le F21_b7.lt sz22)
  have ne_bmr_bms : bmr ≠ bms := Nat.ne_of_lt (Nat.lt_of_lt_of_le V18.lt sz22)
  have sz_bms : h0.size ≤ bms := Nat.le_trans K18.1 sz22
  have K22 : Keep h0 h22 [] := K18.trans Kc22 all0
  have F23_a : own_Obj Z h22 a "com/example/libcachet/libcachet/Ghash" own_ns_Gh [(.long hi), (.long lo), u_ivLengthTerm, u_ended, u_length, u_sumHigh, u_sumLow, u_termLength, u_lengthTerm, u_power, u_inverseSquare] := F19_a.keep Kc22 nin0
  have F24_b1 : own_AL Z h22 b1 .long [(.long (-9223372036854775808 : Int64)), (.long (0 : Int64))] := F20_b1.keep Kc22 nin0
  have F25_b7 : own_AL Z h22 b7 .long [(.long hi), (.long lo)] := F21_b7.keep Kc22 nin0
  have F26_bmr : own_AL Z h22 bmr .long [(.long zhr), (.long zlr)] := V18.keep Kc22 nin0
  show own_Wins p e below A T22 (mkF m 89 #[.val (.ref a), .val (.long (1 : Int64)), .second, .val (.ref bmr), .val (.ref b7), .val (.long (1 : Int64)), .second] [(.ref bms)])
  refine own_astore X22 #[.val (.ref a), .val (.long (1 : Int64)), .second, .val (.ref bmr), .val (.ref bms), .val (.long (1 : Int64)), .second] own_d_prog_70_method_6_code_89 rfl ?_
  refine own_lload X22 own_d_prog_70_method_6_code_91 rfl ?_
  refine own_ipush X22 own_d_prog_70_method_6_code_93 ?_
  refine own_lushr X22 own_d_prog_70_method_6_code_94 ?_
  refine own_lstore X22 #[.val (.ref a), .val (.long (1 : Int64)), .second, .val (.ref bmr), .val (.ref bms), .val (.long (own_Lushr (1 : Int64) (1 : Int32))), .second] own_d_prog_70_method_6_code_95 rfl ?_
  refine own_goto X22 own_d_prog_70_method_6_code_97 ?_
  refine own_lload X22 own_d_prog_70_method_6_code_36 rfl ?_
  refine own_lpush X22 own_d_prog_70_method_6_code_38 ?_
  refine own_lcmp X22 own_d_prog_70_method_6_code_39 ?_
  refine own_ifYes X22 own_d_prog_70_method_6_code_40 ((if0 _ _).trans (flt (mt (lw_gt (own_Lushr (1 : Int64) (1 : Int32)) (0 : Int64)).1 (by decide))).2.2.2) ?_
  refine own_aload X22 own_d_prog_70_method_6_code_100 rfl ?_
  exact own_retA X22 hret rfl rfl fin (by decide) (by decide) ⟨bmr, zhr, zlr, rfl, K22, sz_bmr, ga_bmr, F26_bmr, by rw [hzr, own_gU, own_g1M _ (own_pk_lt _ _)]⟩ own_d_prog_70_method_6_code_101
set_option maxRecDepth 65536 in
set_option maxHeartbeats 40000000 in
theorem own_o7 {z0 z1 z2 z3 z4 z5 z6 z7 z8 z9 z10 : Slot} {v : Int32} (h : One z7) : storeLocals #[z0, z1, z2, z3, z4, z5, z6, z7, z8, z9, z10] 7 (.int v) = some #[z0, z1, z2, z3, z4, z5, z6, .val (.int v), z8, z9, z10] := by
  rcases h with rfl | ⟨w, rfl, hw⟩
  · rfl
  · cases w <;> first | rfl | (simp [Value.category] at hw)
set_option maxRecDepth 65536 in
set_option maxHeartbeats 40000000 in
theorem own_o8 {z0 z1 z2 z3 z4 z5 z6 z7 z8 z9 z10 : Slot} {v : Int32} (h : One z8) : storeLocals #[z0, z1, z2, z3, z4, z5, z6, z7, z8, z9, z10] 8 (.int v) = some #[z0, z1, z2, z3, z4, z5, z6, z7, .val (.int v), z9, z10] := by
  rcases h with rfl | ⟨w, rfl, hw⟩
  · rfl
  · cases w <;> first | rfl | (simp [Value.category] at hw)
set_option maxRecDepth 65536 in
set_option maxHeartbeats 40000000 in
theorem own_o9 {z0 z1 z2 z3 z4 z5 z6 z7 z8 z9 z10 : Slot} {v : Addr} (h : One z9) : storeLocals #[z0, z1, z2, z3, z4, z5, z6, z7, z8, z9, z10] 9 (.ref v) = some #[z0, z1, z2, z3, z4, z5, z6, z7, z8, .val (.ref v), z10] := by
  rcases h with rfl | ⟨w, rfl, hw⟩
  · rfl
  · cases w <;> first | rfl | (simp [Value.category] at hw)
set_option maxRecDepth 65536 in
set_option maxHeartbeats 40000000 in
theorem own_o10 {z0 z1 z2 z3 z4 z5 z6 z7 z8 z9 z10 : Slot} {v : Int32} (h : One z10) : storeLocals #[z0, z1, z2, z3, z4, z5, z6, z7, z8, z9, z10] 10 (.int v) = some #[z0, z1, z2, z3, z4, z5, z6, z7, z8, z9, .val (.int v)] := by
  rcases h with rfl | ⟨w, rfl, hw⟩
  · rfl
  · cases w <;> first | rfl | (simp [Value.category] at hw)
set_option maxRecDepth 65536 in
set_option maxHeartbeats 40000000 in
theorem own_inverse (l : Launch) (Z : State) (a0 : Array Value) (hw : ∀ d ∈ tables_1, d.before a0 Z = true) (qh ql : Int64) (h0 : Heap) (n0 : Nat) (Z0 : n0 ≤ h0.size)  :
    own_Con l Z n0 (⟨"com/example/libcachet/libcachet/Ghash", "inverse", "(JJ)[J"⟩ : MethodName) prog_70_method_7_code 11 (some (.array .long)) ({ frames := 1, cells := 254, slots := 508, locals := 40 } : Room) [] #[(.long qh), (.long ql)] h0 (fun v h' => ∃ (b : Addr) (zh zl : Int64), v = some (.ref b) ∧ Keep h0 h' [] ∧ h0.size ≤ b ∧ n0 ≤ b ∧ own_AL Z h' b .long [.long zh, .long zl] ∧ own_pk zh zl = own_gInv (own_pk qh ql)) := by
  refine own_enter (plainFor_of_name own_pn_com_example_libcachet_libcachet_Ghash) Z0 #[.val (.long qh), .second, .val (.long ql), .second, .unset, .unset, .unset, .unset, .unset, .unset, .unset] (fun m => by first | (simp [entryFrame, mkF, argsToLocals, Value.category]; done) | rfl) ?_
  intro p e s m below meth c T A X0 hret hnm fin
  refine own_ipush X0 own_d_prog_70_method_7_code_0 ?_
  refine own_newarr X0 (hw _ (List.mem_of_getElem? (i := 27) rfl)) own_d_prog_70_method_7_code_1 (n := 2) ⟨by decide, by decide⟩ 2 (Nat.le_refl _) (by decide) (by decide) (by decide) ?_
  intro T1 h1 b1 X1 E1 g1 ga_b1 V1
  have sz_b1 : h0.size ≤ b1 := by rw [g1]; exact (Keep.refl h0 []).1
  have K1 : Keep h0 h1 [] := (Keep.refl h0 []).ext E1
  replace V1 : own_AL Z h1 b1 .long [(.long (0 : Int64)), (.long (0 : Int64))] := V1
  refine own_dup X1 own_d_prog_70_method_7_code_3 rfl ?_
  refine own_ipush X1 own_d_prog_70_method_7_code_4 ?_
  refine own_lload X1 own_d_prog_70_method_7_code_5 rfl ?_
  refine own_lastore X1 V1 ga_b1 (i := 0) ⟨by decide, by decide⟩ (Nat.le_of_ble_eq_true rfl) own_d_prog_70_method_7_code_6 ?_
  intro T2 h2 X2 W2 V2
  have K2 : Keep h0 h2 [] := K1.wr W2 (Or.inr sz_b1)
  replace V2 : own_AL Z h2 b1 .long [(.long qh), (.long (0 : Int64))] := V2
  refine own_dup X2 own_d_prog_70_method_7_code_7 rfl ?_
  refine own_ipush X2 own_d_prog_70_method_7_code_8 ?_
  refine own_lload X2 own_d_prog_70_method_7_code_9 rfl ?_
  refine own_lastore X2 V2 ga_b1 (i := 1) ⟨by decide, by decide⟩ (Nat.le_of_ble_eq_true rfl) own_d_prog_70_method_7_code_10 ?_
  intro T3 h3 X3 W3 V3
  have K3 : Keep h0 h3 [] := K2.wr W3 (Or.inr sz_b1)
  replace V3 : own_AL Z h3 b1 .long [(.long qh), (.long ql)] := V3
  refine own_astore X3 #[.val (.long qh), .second, .val (.long ql), .second, .val (.ref b1), .unset, .unset, .unset, .unset, .unset, .unset] own_d_prog_70_method_7_code_11 rfl ?_
  refine own_aload X3 own_d_prog_70_method_7_code_13 rfl ?_
  refine own_astore X3 #[.val (.long qh), .second, .val (.long ql), .second, .val (.ref b1), .val (.ref b1), .unset, .unset, .unset, .unset, .unset] own_d_prog_70_method_7_code_15 rfl ?_
  refine own_ipush X3 own_d_prog_70_method_7_code_17 ?_
  refine own_istore X3 #[.val (.long qh), .second, .val (.long ql), .second, .val (.ref b1), .val (.ref b1), .val (.int (1 : Int32)), .unset, .unset, .unset, .unset] own_d_prog_70_method_7_code_18 rfl ?_
  suffices LOOP : ∀ (r k : Nat) (pa : Addr) (p0 p1 : Int64) (s7 s8 s9 s10 : Slot) (Tq : State) (hq : Heap), k + r ≥ 127 → (k = 1 ∨ k = 2 ∨ k = 3 ∨ k = 6 ∨ k = 7 ∨ k = 14 ∨ k = 15 ∨ k = 30 ∨ k = 31 ∨ k = 62 ∨ k = 63 ∨ k = 126 ∨ k = 127) → One s7 → One s8 → One s9 → One s10 → own_pk p0 p1 = own_gP (own_pk qh ql) k → own_St p l e ({ frames := 1, cells := 254, slots := 508, locals := 40 } : Room) s m #[(.long qh), (.long ql)] below meth c Z n0 prog_70_method_7_code 11 "com/example/libcachet/libcachet/Ghash" Tq hq (2 * k - 1) (4 * k - 2) → own_AL Z hq b1 .long [(.long qh), (.long ql)] → own_AL Z hq pa .long [(.long p0), (.long p1)] → Keep h0 hq [] → own_Wins p e below A Tq (mkF m 20 #[.val (.long qh), .second, .val (.long ql), .second, .val (.ref b1), .val (.ref pa), .val (.int (Int32.ofNat k)), s7, s8, s9, s10] []) by
    exact LOOP 126 1 b1 qh ql _ _ _ _ T3 h3 (by decide) (Or.inl rfl) One.u One.u One.u One.u (own_gP_1 _ (own_pk_lt _ _)).symm X3 V3 V3 K3
  intro r
  induction r with
  | zero =>
    intro k pa p0 p1 s7 s8 s9 s10 Tq hq hkr hch o7 o8 o9 o10 hp Xq Vx Vp Kq
    obtain rfl : k = 127 := by omega
    refine own_iload Xq own_d_prog_70_method_7_code_20 rfl ?_
    refine own_ipush Xq own_d_prog_70_method_7_code_22 ?_
    refine own_icYes Xq own_d_prog_70_method_7_code_24 (flt (by decide)).2.1 ?_
    refine own_aload Xq own_d_prog_70_method_7_code_141 rfl ?_
    refine own_ipush Xq own_d_prog_70_method_7_code_143 ?_
    refine own_laload Xq Vp (i := 0) ⟨by decide, by decide⟩ rfl own_d_prog_70_method_7_code_144 ?_
    refine own_aload Xq own_d_prog_70_method_7_code_145 rfl ?_
    refine own_ipush Xq own_d_prog_70_method_7_code_147 ?_
    refine own_laload Xq Vp (i := 1) ⟨by decide, by decide⟩ rfl own_d_prog_70_method_7_code_148 ?_
    refine own_aload Xq own_d_prog_70_method_7_code_149 rfl ?_
    refine own_ipush Xq own_d_prog_70_method_7_code_151 ?_
    refine own_laload Xq Vp (i := 0) ⟨by decide, by decide⟩ rfl own_d_prog_70_method_7_code_152 ?_
    refine own_aload Xq own_d_prog_70_method_7_code_153 rfl ?_
    refine own_ipush Xq own_d_prog_70_method_7_code_155 ?_
    refine own_laload Xq Vp (i := 1) ⟨by decide, by decide⟩ rfl own_d_prog_70_method_7_code_156 ?_
    refine own_callS Xq (y := (⟨"com/example/libcachet/libcachet/Ghash", "multiply", "(JJJJ)[J"⟩ : MethodName)) [(.long p0), (.long p1), (.long p0), (.long p1)] [] 0 rfl (hw _ (List.mem_of_getElem? (i := 23) rfl)) (hw _ (List.mem_of_getElem? (i := 24) rfl)) (hw _ (List.mem_of_getElem? (i := 8) rfl)) (hw _ (List.mem_of_getElem? (i := 25) rfl)) (by decide) (own_multiply l Z a0 hw p0 p1 p0 p1 hq n0 Xq.sz) own_d_prog_70_method_7_code_157 own_pd__JJJJ__J rfl rfl (by show 2 * 0 + _ ≤ _; exact Nat.le_of_eq rfl) (by decide) (by decide) (by decide) (by decide) ?_
    intro T4 h4 v4 X4 P4
    obtain ⟨bmi, zhi, zli, rfl, Kc4, sz4, ga_bmi, V4, hzi⟩ := P4
    have ne_b1_bmi : b1 ≠ bmi := Nat.ne_of_lt (Nat.lt_of_lt_of_le Vx.lt sz4)
    have ne_pa_bmi : pa ≠ bmi := Nat.ne_of_lt (Nat.lt_of_lt_of_le Vp.lt sz4)
    have sz_bmi : h0.size ≤ bmi := Nat.le_trans Kq.1 sz4
    have K4 : Keep h0 h4 [] := Kq.trans Kc4 all0
    have F5_b1 : own_AL Z h4 b1 .long [(.long qh), (.long ql)] := Vx.keep Kc4 nin0
    have F6_pa : own_AL Z h4 pa .long [(.long p0), (.long p1)] := Vp.keep Kc4 nin0
    show own_Wins p e below A T4 (mkF m 160 #[.val (.long qh), .second, .val (.long ql), .second, .val (.ref b1), .val (.ref pa), .val (.int (Int32.ofNat 127)), s7, s8, s9, s10] [(.ref bmi)])
    exact own_retA X4 hret rfl rfl fin (by decide) (by decide) ⟨bmi, zhi, zli, rfl, K4, sz_bmi, ga_bmi, V4, by rw [hzi, hp]; rfl⟩ own_d_prog_70_method_7_code_160
  | succ r ih =>
    intro k pa p0 p1 s7 s8 s9 s10 Tq hq hkr hch o7 o8 o9 o10 hp Xq Vx Vp Kq
    by_cases hk : k = 127
    · skip
      obtain rfl : k = 127 := by omega
      refine own_iload Xq own_d_prog_70_method_7_code_20 rfl ?_
      refine own_ipush Xq own_d_prog_70_method_7_code_22 ?_
      refine own_icYes Xq own_d_prog_70_method_7_code_24 (flt (by decide)).2.1 ?_
      refine own_aload Xq own_d_prog_70_method_7_code_141 rfl ?_
      refine own_ipush Xq own_d_prog_70_method_7_code_143 ?_
      refine own_laload Xq Vp (i := 0) ⟨by decide, by decide⟩ rfl own_d_prog_70_method_7_code_144 ?_
      refine own_aload Xq own_d_prog_70_method_7_code_145 rfl ?_
      refine own_ipush Xq own_d_prog_70_method_7_code_147 ?_
      refine own_laload Xq Vp (i := 1) ⟨by decide, by decide⟩ rfl own_d_prog_70_method_7_code_148 ?_
      refine own_aload Xq own_d_prog_70_method_7_code_149 rfl ?_
      refine own_ipush Xq own_d_prog_70_method_7_code_151 ?_
      refine own_laload Xq Vp (i := 0) ⟨by decide, by decide⟩ rfl own_d_prog_70_method_7_code_152 ?_
      refine own_aload Xq own_d_prog_70_method_7_code_153 rfl ?_
      refine own_ipush Xq own_d_prog_70_method_7_code_155 ?_
      refine own_laload Xq Vp (i := 1) ⟨by decide, by decide⟩ rfl own_d_prog_70_method_7_code_156 ?_
      refine own_callS Xq (y := (⟨"com/example/libcachet/libcachet/Ghash", "multiply", "(JJJJ)[J"⟩ : MethodName)) [(.long p0), (.long p1), (.long p0), (.long p1)] [] 0 rfl (hw _ (List.mem_of_getElem? (i := 23) rfl)) (hw _ (List.mem_of_getElem? (i := 24) rfl)) (hw _ (List.mem_of_getElem? (i := 8) rfl)) (hw _ (List.mem_of_getElem? (i := 25) rfl)) (by decide) (own_multiply l Z a0 hw p0 p1 p0 p1 hq n0 Xq.sz) own_d_prog_70_method_7_code_157 own_pd__JJJJ__J rfl rfl (by show 2 * 0 + _ ≤ _; exact Nat.le_of_eq rfl) (by decide) (by decide) (by decide) (by decide) ?_
      intro T7 h7 v7 X7 P7
      obtain ⟨bmi, zhi, zli, rfl, Kc7, sz7, ga_bmi, V7, hzi⟩ := P7
      have ne_b1_bmi : b1 ≠ bmi := Nat.ne_of_lt (Nat.lt_of_lt_of_le Vx.lt sz7)
      have ne_pa_bmi : pa ≠ bmi := Nat.ne_of_lt (Nat.lt_of_lt_of_le Vp.lt sz7)
      have sz_bmi : h0.size ≤ bmi := Nat.le_trans Kq.1 sz7
      have K7 : Keep h0 h7 [] := Kq.trans Kc7 all0
      have F8_b1 : own_AL Z h7 b1 .long [(.long qh), (.long ql)] := Vx.keep Kc7 nin0
      have F9_pa : own_AL Z h7 pa .long [(.long p0), (.long p1)] := Vp.keep Kc7 nin0
      show own_Wins p e below A T7 (mkF m 160 #[.val (.long qh), .second, .val (.long ql), .second, .val (.ref b1), .val (.ref pa), .val (.int (Int32.ofNat 127)), s7, s8, s9, s10] [(.ref bmi)])
      exact own_retA X7 hret rfl rfl fin (by decide) (by decide) ⟨bmi, zhi, zli, rfl, K7, sz_bmi, ga_bmi, V7, by rw [hzi, hp]; rfl⟩ own_d_prog_70_method_7_code_160
    have hk_ : own_idx (Int32.ofNat k) k := own_idx_nat (by omega)
    have h2 : own_idx ((Int32.ofNat k) % (2 : Int32)) (k % 2) := own_mod2 hk_
    refine own_iload Xq own_d_prog_70_method_7_code_20 rfl ?_
    refine own_ipush Xq own_d_prog_70_method_7_code_22 ?_
    refine own_icNo Xq own_d_prog_70_method_7_code_24 (tlt ((own_idx_lt hk_ (n := 127) ⟨by decide, by decide⟩).mpr (by omega))).2.1 ?_
    refine own_iload Xq own_d_prog_70_method_7_code_27 rfl ?_
    refine own_ipush Xq own_d_prog_70_method_7_code_29 ?_
    refine own_irem Xq own_d_prog_70_method_7_code_30 (by decide) ?_
    refine own_ipush Xq own_d_prog_70_method_7_code_31 ?_
    by_cases c1 : ((Int32.ofNat k) % (2 : Int32)) = (1 : Int32)
    · skip
      refine own_icNo Xq own_d_prog_70_method_7_code_32 (teq c1).2 ?_
      have hodd : k % 2 = 1 := (own_idx_eq h2 (n := 1) ⟨by decide, by decide⟩).mp c1
      refine own_ipush Xq own_d_prog_70_method_7_code_35 ?_
      refine own_goto Xq own_d_prog_70_method_7_code_36 ?_
      refine own_istore Xq #[.val (.long qh), .second, .val (.long ql), .second, .val (.ref b1), .val (.ref pa), .val (.int (Int32.ofNat k)), .val (.int (1 : Int32)), s8, s9, s10] own_d_prog_70_method_7_code_40 (own_o7 o7) ?_
      refine own_iload Xq own_d_prog_70_method_7_code_42 rfl ?_
      refine own_ifNo Xq own_d_prog_70_method_7_code_44 ((if0 _ _).trans (feq (by decide)).1) ?_
      refine own_iload Xq own_d_prog_70_method_7_code_47 rfl ?_
      refine own_goto Xq own_d_prog_70_method_7_code_49 ?_
      refine own_istore Xq #[.val (.long qh), .second, .val (.long ql), .second, .val (.ref b1), .val (.ref pa), .val (.int (Int32.ofNat k)), .val (.int (1 : Int32)), .val (.int (Int32.ofNat k)), s9, s10] own_d_prog_70_method_7_code_53 (own_o8 o8) ?_
      refine own_aload Xq own_d_prog_70_method_7_code_55 rfl ?_
      refine own_astore Xq #[.val (.long qh), .second, .val (.long ql), .second, .val (.ref b1), .val (.ref pa), .val (.int (Int32.ofNat k)), .val (.int (1 : Int32)), .val (.int (Int32.ofNat k)), .val (.ref pa), s10] own_d_prog_70_method_7_code_57 (own_o9 o9) ?_
      refine own_ipush Xq own_d_prog_70_method_7_code_59 ?_
      refine own_istore Xq #[.val (.long qh), .second, .val (.long ql), .second, .val (.ref b1), .val (.ref pa), .val (.int (Int32.ofNat k)), .val (.int (1 : Int32)), .val (.int (Int32.ofNat k)), .val (.ref pa), .val (.int (0 : Int32))] own_d_prog_70_method_7_code_60 (own_o10 o10) ?_
      suffices INNER : ∀ (r2 i : Nat) (sa : Addr) (s0 s1 : Int64) (Tr : State) (hr : Heap), i + r2 = k → own_pk s0 s1 = own_gF i (own_pk p0 p1) → own_St p l e ({ frames := 1, cells := 254, slots := 508, locals := 40 } : Room) s m #[(.long qh), (.long ql)] below meth c Z n0 prog_70_method_7_code 11 "com/example/libcachet/libcachet/Ghash" Tr hr (2 * k - 1 + i) (4 * k - 2 + 2 * i) → own_AL Z hr b1 .long [(.long qh), (.long ql)] → own_AL Z hr pa .long [(.long p0), (.long p1)] → own_AL Z hr sa .long [(.long s0), (.long s1)] → Keep h0 hr [] → own_Wins p e below A Tr (mkF m 62 #[.val (.long qh), .second, .val (.long ql), .second, .val (.ref b1), .val (.ref pa), .val (.int (Int32.ofNat k)), .val (.int (1 : Int32)), .val (.int (Int32.ofNat k)), .val (.ref sa), .val (.int (Int32.ofNat i))] []) by
        exact INNER k 0 pa p0 p1 Tq hq (by omega) rfl Xq Vx Vp Vp Kq
      intro r2
      induction r2 with
      | zero =>
        intro i sa s0 s1 Tr hr hir hs Xr Vx2 Vp2 Vs2 Kr
        obtain rfl : i = k := by omega
        refine own_iload Xr own_d_prog_70_method_7_code_62 rfl ?_
        refine own_iload Xr own_d_prog_70_method_7_code_64 rfl ?_
        refine own_icYes Xr own_d_prog_70_method_7_code_66 (flt Int32.lt_irrefl).2.1 ?_
        refine own_iload Xr own_d_prog_70_method_7_code_96 rfl ?_
        refine own_ifNo Xr own_d_prog_70_method_7_code_98 ((if0 _ _).trans (feq (by decide)).1) ?_
        refine own_aload Xr own_d_prog_70_method_7_code_101 rfl ?_
        refine own_goto Xr own_d_prog_70_method_7_code_103 ?_
        refine own_astore Xr #[.val (.long qh), .second, .val (.long ql), .second, .val (.ref b1), .val (.ref pa), .val (.int (Int32.ofNat i)), .val (.int (1 : Int32)), .val (.int (Int32.ofNat i)), .val (.ref sa), .val (.ref pa)] own_d_prog_70_method_7_code_108 rfl ?_
        refine own_aload Xr own_d_prog_70_method_7_code_110 rfl ?_
        refine own_ipush Xr own_d_prog_70_method_7_code_112 ?_
        refine own_laload Xr Vs2 (i := 0) ⟨by decide, by decide⟩ rfl own_d_prog_70_method_7_code_113 ?_
        refine own_aload Xr own_d_prog_70_method_7_code_114 rfl ?_
        refine own_ipush Xr own_d_prog_70_method_7_code_116 ?_
        refine own_laload Xr Vs2 (i := 1) ⟨by decide, by decide⟩ rfl own_d_prog_70_method_7_code_117 ?_
        refine own_aload Xr own_d_prog_70_method_7_code_118 rfl ?_
        refine own_ipush Xr own_d_prog_70_method_7_code_120 ?_
        refine own_laload Xr Vp2 (i := 0) ⟨by decide, by decide⟩ rfl own_d_prog_70_method_7_code_121 ?_
        refine own_aload Xr own_d_prog_70_method_7_code_122 rfl ?_
        refine own_ipush Xr own_d_prog_70_method_7_code_124 ?_
        refine own_laload Xr Vp2 (i := 1) ⟨by decide, by decide⟩ rfl own_d_prog_70_method_7_code_125 ?_
        refine own_callS Xr (y := (⟨"com/example/libcachet/libcachet/Ghash", "multiply", "(JJJJ)[J"⟩ : MethodName)) [(.long s0), (.long s1), (.long p0), (.long p1)] [] 0 rfl (hw _ (List.mem_of_getElem? (i := 23) rfl)) (hw _ (List.mem_of_getElem? (i := 24) rfl)) (hw _ (List.mem_of_getElem? (i := 8) rfl)) (hw _ (List.mem_of_getElem? (i := 25) rfl)) (by decide) (own_multiply l Z a0 hw s0 s1 p0 p1 hr n0 Xr.sz) own_d_prog_70_method_7_code_126 own_pd__JJJJ__J rfl rfl (by show 2 * 0 + _ ≤ _; exact Nat.le_of_eq rfl) (by decide) (by decide) (by (try dsimp only); omega) (by (try dsimp only); omega) ?_
        intro T10 h10 v10 X10 P10
        obtain ⟨bmm, zhm, zlm, rfl, Kc10, sz10, ga_bmm, V10, hzm⟩ := P10
        have ne_b1_bmm : b1 ≠ bmm := Nat.ne_of_lt (Nat.lt_of_lt_of_le Vx2.lt sz10)
        have ne_pa_bmm : pa ≠ bmm := Nat.ne_of_lt (Nat.lt_of_lt_of_le Vp2.lt sz10)
        have ne_sa_bmm : sa ≠ bmm := Nat.ne_of_lt (Nat.lt_of_lt_of_le Vs2.lt sz10)
        have sz_bmm : h0.size ≤ bmm := Nat.le_trans Kr.1 sz10
        have K10 : Keep h0 h10 [] := Kr.trans Kc10 all0
        have F11_b1 : own_AL Z h10 b1 .long [(.long qh), (.long ql)] := Vx2.keep Kc10 nin0
        have F12_pa : own_AL Z h10 pa .long [(.long p0), (.long p1)] := Vp2.keep Kc10 nin0
        have F13_sa : own_AL Z h10 sa .long [(.long s0), (.long s1)] := Vs2.keep Kc10 nin0
        show own_Wins p e below A T10 (mkF m 129 #[.val (.long qh), .second, .val (.long ql), .second, .val (.ref b1), .val (.ref pa), .val (.int (Int32.ofNat i)), .val (.int (1 : Int32)), .val (.int (Int32.ofNat i)), .val (.ref sa), .val (.ref pa)] [(.ref bmm)])
        refine own_astore X10 #[.val (.long qh), .second, .val (.long ql), .second, .val (.ref b1), .val (.ref bmm), .val (.int (Int32.ofNat i)), .val (.int (1 : Int32)), .val (.int (Int32.ofNat i)), .val (.ref sa), .val (.ref pa)] own_d_prog_70_method_7_code_129 rfl ?_
        refine own_iload X10 own_d_prog_70_method_7_code_131 rfl ?_
        refine own_iload X10 own_d_prog_70_method_7_code_133 rfl ?_
        refine own_iadd X10 own_d_prog_70_method_7_code_135 ?_
        refine own_istore X10 #[.val (.long qh), .second, .val (.long ql), .second, .val (.ref b1), .val (.ref bmm), .val (.int ((Int32.ofNat i) + (Int32.ofNat i))), .val (.int (1 : Int32)), .val (.int (Int32.ofNat i)), .val (.ref sa), .val (.ref pa)] own_d_prog_70_method_7_code_136 rfl ?_
        refine own_goto X10 own_d_prog_70_method_7_code_138 ?_
        rw [← Int32.ofNat_add]
        refine ih (i + i) bmm zhm zlm _ _ _ _ _ _ (by omega) (by omega) (One.val rfl) (One.val rfl) (One.val rfl) (One.val rfl) (by rw [hzm, hs, hp]; exact own_gP_join (own_pk qh ql) i i (own_pk_lt _ _)) (X10.more (by dsimp only; omega) (by dsimp only; omega)) F11_b1 V10 K10
      | succ r2 ih2 =>
        intro i sa s0 s1 Tr hr hir hs Xr Vx2 Vp2 Vs2 Kr
        have hi_ : own_idx (Int32.ofNat i) i := own_idx_nat (by omega)
        refine own_iload Xr own_d_prog_70_method_7_code_62 rfl ?_
        refine own_iload Xr own_d_prog_70_method_7_code_64 rfl ?_
        refine own_icNo Xr own_d_prog_70_method_7_code_66 (tlt ((own_idx_lt hi_ hk_).mpr (by omega))).2.1 ?_
        refine own_aload Xr own_d_prog_70_method_7_code_69 rfl ?_
        refine own_ipush Xr own_d_prog_70_method_7_code_71 ?_
        refine own_laload Xr Vs2 (i := 0) ⟨by decide, by decide⟩ rfl own_d_prog_70_method_7_code_72 ?_
        refine own_aload Xr own_d_prog_70_method_7_code_73 rfl ?_
        refine own_ipush Xr own_d_prog_70_method_7_code_75 ?_
        refine own_laload Xr Vs2 (i := 1) ⟨by decide, by decide⟩ rfl own_d_prog_70_method_7_code_76 ?_
        refine own_aload Xr own_d_prog_70_method_7_code_77 rfl ?_
        refine own_ipush Xr own_d_prog_70_method_7_code_79 ?_
        refine own_laload Xr Vs2 (i := 0) ⟨by decide, by decide⟩ rfl own_d_prog_70_method_7_code_80 ?_
        refine own_aload Xr own_d_prog_70_method_7_code_81 rfl ?_
        refine own_ipush Xr own_d_prog_70_method_7_code_83 ?_
        refine own_laload Xr Vs2 (i := 1) ⟨by decide, by decide⟩ rfl own_d_prog_70_method_7_code_84 ?_
        refine own_callS Xr (y := (⟨"com/example/libcachet/libcachet/Ghash", "multiply", "(JJJJ)[J"⟩ : MethodName)) [(.long s0), (.long s1), (.long s0), (.long s1)] [] 0 rfl (hw _ (List.mem_of_getElem? (i := 23) rfl)) (hw _ (List.mem_of_getElem? (i := 24) rfl)) (hw _ (List.mem_of_getElem? (i := 8) rfl)) (hw _ (List.mem_of_getElem? (i := 25) rfl)) (by decide) (own_multiply l Z a0 hw s0 s1 s0 s1 hr n0 Xr.sz) own_d_prog_70_method_7_code_85 own_pd__JJJJ__J rfl rfl (by show 2 * 0 + _ ≤ _; exact Nat.le_of_eq rfl) (by decide) (by decide) (by (try dsimp only); omega) (by (try dsimp only); omega) ?_
        intro T14 h14 v14 X14 P14
        obtain ⟨bmq, zhq, zlq, rfl, Kc14, sz14, ga_bmq, V14, hzq⟩ := P14
        have ne_b1_bmq : b1 ≠ bmq := Nat.ne_of_lt (Nat.lt_of_lt_of_le Vx2.lt sz14)
        have ne_pa_bmq : pa ≠ bmq := Nat.ne_of_lt (Nat.lt_of_lt_of_le Vp2.lt sz14)
        have ne_sa_bmq : sa ≠ bmq := Nat.ne_of_lt (Nat.lt_of_lt_of_le Vs2.lt sz14)
        have sz_bmq : h0.size ≤ bmq := Nat.le_trans Kr.1 sz14
        have K14 : Keep h0 h14 [] := Kr.trans Kc14 all0
        have F15_b1 : own_AL Z h14 b1 .long [(.long qh), (.long ql)] := Vx2.keep Kc14 nin0
        have F16_pa : own_AL Z h14 pa .long [(.long p0), (.long p1)] := Vp2.keep Kc14 nin0
        have F17_sa : own_AL Z h14 sa .long [(.long s0), (.long s1)] := Vs2.keep Kc14 nin0
        show own_Wins p e below A T14 (mkF m 88 #[.val (.long qh), .second, .val (.long ql), .second, .val (.ref b1), .val (.ref pa), .val (.int (Int32.ofNat k)), .val (.int (1 : Int32)), .val (.int (Int32.ofNat k)), .val (.ref sa), .val (.int (Int32.ofNat i))] [(.ref bmq)])
        refine own_astore X14 #[.val (.long qh), .second, .val (.long ql), .second, .val (.ref b1), .val (.ref pa), .val (.int (Int32.ofNat k)), .val (.int (1 : Int32)), .val (.int (Int32.ofNat k)), .val (.ref bmq), .val (.int (Int32.ofNat i))] own_d_prog_70_method_7_code_88 rfl ?_
        refine own_iinc X14 #[.val (.long qh), .second, .val (.long ql), .second, .val (.ref b1), .val (.ref pa), .val (.int (Int32.ofNat k)), .val (.int (1 : Int32)), .val (.int (Int32.ofNat k)), .val (.ref bmq), .val (.int ((Int32.ofNat i) + (1 : Int32)))] own_d_prog_70_method_7_code_90 rfl rfl ?_
        refine own_goto X14 own_d_prog_70_method_7_code_93 ?_
        rw [own_succ]
        refine ih2 (i + 1) bmq zhq zlq _ _ (by omega) (by rw [hzq, hs]; rfl) (X14.more (by dsimp only; omega) (by dsimp only; omega)) F15_b1 F16_pa V14 K14
    · skip
      refine own_icYes Xq own_d_prog_70_method_7_code_32 (feq c1).2 ?_
      have hodd : k % 2 ≠ 1 := mt (own_idx_eq h2 (n := 1) ⟨by decide, by decide⟩).mpr c1
      refine own_ipush Xq own_d_prog_70_method_7_code_39 ?_
      refine own_istore Xq #[.val (.long qh), .second, .val (.long ql), .second, .val (.ref b1), .val (.ref pa), .val (.int (Int32.ofNat k)), .val (.int (0 : Int32)), s8, s9, s10] own_d_prog_70_method_7_code_40 (own_o7 o7) ?_
      refine own_iload Xq own_d_prog_70_method_7_code_42 rfl ?_
      refine own_ifYes Xq own_d_prog_70_method_7_code_44 ((if0 _ _).trans (teq (by decide)).1) ?_
      refine own_ipush Xq own_d_prog_70_method_7_code_52 ?_
      refine own_istore Xq #[.val (.long qh), .second, .val (.long ql), .second, .val (.ref b1), .val (.ref pa), .val (.int (Int32.ofNat k)), .val (.int (0 : Int32)), .val (.int (1 : Int32)), s9, s10] own_d_prog_70_method_7_code_53 (own_o8 o8) ?_
      refine own_aload Xq own_d_prog_70_method_7_code_55 rfl ?_
      refine own_astore Xq #[.val (.long qh), .second, .val (.long ql), .second, .val (.ref b1), .val (.ref pa), .val (.int (Int32.ofNat k)), .val (.int (0 : Int32)), .val (.int (1 : Int32)), .val (.ref pa), s10] own_d_prog_70_method_7_code_57 (own_o9 o9) ?_
      refine own_ipush Xq own_d_prog_70_method_7_code_59 ?_
      refine own_istore Xq #[.val (.long qh), .second, .val (.long ql), .second, .val (.ref b1), .val (.ref pa), .val (.int (Int32.ofNat k)), .val (.int (0 : Int32)), .val (.int (1 : Int32)), .val (.ref pa), .val (.int (0 : Int32))] own_d_prog_70_method_7_code_60 (own_o10 o10) ?_
      suffices INNER : ∀ (r2 i : Nat) (sa : Addr) (s0 s1 : Int64) (Tr : State) (hr : Heap), i + r2 = 1 → own_pk s0 s1 = own_gF i (own_pk p0 p1) → own_St p l e ({ frames := 1, cells := 254, slots := 508, locals := 40 } : Room) s m #[(.long qh), (.long ql)] below meth c Z n0 prog_70_method_7_code 11 "com/example/libcachet/libcachet/Ghash" Tr hr (2 * k - 1 + i) (4 * k - 2 + 2 * i) → own_AL Z hr b1 .long [(.long qh), (.long ql)] → own_AL Z hr pa .long [(.long p0), (.long p1)] → own_AL Z hr sa .long [(.long s0), (.long s1)] → Keep h0 hr [] → own_Wins p e below A Tr (mkF m 62 #[.val (.long qh), .second, .val (.long ql), .second, .val (.ref b1), .val (.ref pa), .val (.int (Int32.ofNat k)), .val (.int (0 : Int32)), .val (.int (1 : Int32)), .val (.ref sa), .val (.int (Int32.ofNat i))] []) by
        exact INNER 1 0 pa p0 p1 Tq hq (by omega) rfl Xq Vx Vp Vp Kq
      intro r2
      induction r2 with
      | zero =>
        intro i sa s0 s1 Tr hr hir hs Xr Vx2 Vp2 Vs2 Kr
        obtain rfl : i = 1 := by omega
        refine own_iload Xr own_d_prog_70_method_7_code_62 rfl ?_
        refine own_iload Xr own_d_prog_70_method_7_code_64 rfl ?_
        refine own_icYes Xr own_d_prog_70_method_7_code_66 (flt Int32.lt_irrefl).2.1 ?_
        refine own_iload Xr own_d_prog_70_method_7_code_96 rfl ?_
        refine own_ifYes Xr own_d_prog_70_method_7_code_98 ((if0 _ _).trans (teq (by decide)).1) ?_
        refine own_aload Xr own_d_prog_70_method_7_code_106 rfl ?_
        refine own_astore Xr #[.val (.long qh), .second, .val (.long ql), .second, .val (.ref b1), .val (.ref pa), .val (.int (Int32.ofNat k)), .val (.int (0 : Int32)), .val (.int (1 : Int32)), .val (.ref sa), .val (.ref b1)] own_d_prog_70_method_7_code_108 rfl ?_
        refine own_aload Xr own_d_prog_70_method_7_code_110 rfl ?_
        refine own_ipush Xr own_d_prog_70_method_7_code_112 ?_
        refine own_laload Xr Vs2 (i := 0) ⟨by decide, by decide⟩ rfl own_d_prog_70_method_7_code_113 ?_
        refine own_aload Xr own_d_prog_70_method_7_code_114 rfl ?_
        refine own_ipush Xr own_d_prog_70_method_7_code_116 ?_
        refine own_laload Xr Vs2 (i := 1) ⟨by decide, by decide⟩ rfl own_d_prog_70_method_7_code_117 ?_
        refine own_aload Xr own_d_prog_70_method_7_code_118 rfl ?_
        refine own_ipush Xr own_d_prog_70_method_7_code_120 ?_
        refine own_laload Xr Vx2 (i := 0) ⟨by decide, by decide⟩ rfl own_d_prog_70_method_7_code_121 ?_
        refine own_aload Xr own_d_prog_70_method_7_code_122 rfl ?_
        refine own_ipush Xr own_d_prog_70_method_7_code_124 ?_
        refine own_laload Xr Vx2 (i := 1) ⟨by decide, by decide⟩ rfl own_d_prog_70_method_7_code_125 ?_
        refine own_callS Xr (y := (⟨"com/example/libcachet/libcachet/Ghash", "multiply", "(JJJJ)[J"⟩ : MethodName)) [(.long s0), (.long s1), (.long qh), (.long ql)] [] 0 rfl (hw _ (List.mem_of_getElem? (i := 23) rfl)) (hw _ (List.mem_of_getElem? (i := 24) rfl)) (hw _ (List.mem_of_getElem? (i := 8) rfl)) (hw _ (List.mem_of_getElem? (i := 25) rfl)) (by decide) (own_multiply l Z a0 hw s0 s1 qh ql hr n0 Xr.sz) own_d_prog_70_method_7_code_126 own_pd__JJJJ__J rfl rfl (by show 2 * 0 + _ ≤ _; exact Nat.le_of_eq rfl) (by decide) (by decide) (by (try dsimp only); omega) (by (try dsimp only); omega) ?_
        intro T18 h18 v18 X18 P18
        obtain ⟨bmm, zhm, zlm, rfl, Kc18, sz18, ga_bmm, V18, hzm⟩ := P18
        have ne_b1_bmm : b1 ≠ bmm := Nat.ne_of_lt (Nat.lt_of_lt_of_le Vx2.lt sz18)
        have ne_pa_bmm : pa ≠ bmm := Nat.ne_of_lt (Nat.lt_of_lt_of_le Vp2.lt sz18)
        have ne_sa_bmm : sa ≠ bmm := Nat.ne_of_lt (Nat.lt_of_lt_of_le Vs2.lt sz18)
        have sz_bmm : h0.size ≤ bmm := Nat.le_trans Kr.1 sz18
        have K18 : Keep h0 h18 [] := Kr.trans Kc18 all0
        have F19_b1 : own_AL Z h18 b1 .long [(.long qh), (.long ql)] := Vx2.keep Kc18 nin0
        have F20_pa : own_AL Z h18 pa .long [(.long p0), (.long p1)] := Vp2.keep Kc18 nin0
        have F21_sa : own_AL Z h18 sa .long [(.long s0), (.long s1)] := Vs2.keep Kc18 nin0
        show own_Wins p e below A T18 (mkF m 129 #[.val (.long qh), .second, .val (.long ql), .second, .val (.ref b1), .val (.ref pa), .val (.int (Int32.ofNat k)), .val (.int (0 : Int32)), .val (.int (1 : Int32)), .val (.ref sa), .val (.ref b1)] [(.ref bmm)])
        refine own_astore X18 #[.val (.long qh), .second, .val (.long ql), .second, .val (.ref b1), .val (.ref bmm), .val (.int (Int32.ofNat k)), .val (.int (0 : Int32)), .val (.int (1 : Int32)), .val (.ref sa), .val (.ref b1)] own_d_prog_70_method_7_code_129 rfl ?_
        refine own_iload X18 own_d_prog_70_method_7_code_131 rfl ?_
        refine own_iload X18 own_d_prog_70_method_7_code_133 rfl ?_
        refine own_iadd X18 own_d_prog_70_method_7_code_135 ?_
        refine own_istore X18 #[.val (.long qh), .second, .val (.long ql), .second, .val (.ref b1), .val (.ref bmm), .val (.int ((Int32.ofNat k) + (1 : Int32))), .val (.int (0 : Int32)), .val (.int (1 : Int32)), .val (.ref sa), .val (.ref b1)] own_d_prog_70_method_7_code_136 rfl ?_
        refine own_goto X18 own_d_prog_70_method_7_code_138 ?_
        rw [own_succ]
        refine ih (k + 1) bmm zhm zlm _ _ _ _ _ _ (by omega) (by omega) (One.val rfl) (One.val rfl) (One.val rfl) (One.val rfl) (by rw [hzm, hs, hp, ← own_gP_join (own_pk qh ql) k 1 (own_pk_lt _ _), own_gP_1 _ (own_pk_lt _ _)]) (X18.more (by dsimp only; omega) (by dsimp only; omega)) F19_b1 V18 K18
      | succ r2 ih2 =>
        intro i sa s0 s1 Tr hr hir hs Xr Vx2 Vp2 Vs2 Kr
        have hi_ : own_idx (Int32.ofNat i) i := own_idx_nat (by omega)
        refine own_iload Xr own_d_prog_70_method_7_code_62 rfl ?_
        refine own_iload Xr own_d_prog_70_method_7_code_64 rfl ?_
        refine own_icNo Xr own_d_prog_70_method_7_code_66 (tlt ((own_idx_lt hi_ (n := 1) ⟨by decide, by decide⟩).mpr (by omega))).2.1 ?_
        refine own_aload Xr own_d_prog_70_method_7_code_69 rfl ?_
        refine own_ipush Xr own_d_prog_70_method_7_code_71 ?_
        refine own_laload Xr Vs2 (i := 0) ⟨by decide, by decide⟩ rfl own_d_prog_70_method_7_code_72 ?_
        refine own_aload Xr own_d_prog_70_method_7_code_73 rfl ?_
        refine own_ipush Xr own_d_prog_70_method_7_code_75 ?_
        refine own_laload Xr Vs2 (i := 1) ⟨by decide, by decide⟩ rfl own_d_prog_70_method_7_code_76 ?_
        refine own_aload Xr own_d_prog_70_method_7_code_77 rfl ?_
        refine own_ipush Xr own_d_prog_70_method_7_code_79 ?_
        refine own_laload Xr Vs2 (i := 0) ⟨by decide, by decide⟩ rfl own_d_prog_70_method_7_code_80 ?_
        refine own_aload Xr own_d_prog_70_method_7_code_81 rfl ?_
        refine own_ipush Xr own_d_prog_70_method_7_code_83 ?_
        refine own_laload Xr Vs2 (i := 1) ⟨by decide, by decide⟩ rfl own_d_prog_70_method_7_code_84 ?_
        refine own_callS Xr (y := (⟨"com/example/libcachet/libcachet/Ghash", "multiply", "(JJJJ)[J"⟩ : MethodName)) [(.long s0), (.long s1), (.long s0), (.long s1)] [] 0 rfl (hw _ (List.mem_of_getElem? (i := 23) rfl)) (hw _ (List.mem_of_getElem? (i := 24) rfl)) (hw _ (List.mem_of_getElem? (i := 8) rfl)) (hw _ (List.mem_of_getElem? (i := 25) rfl)) (by decide) (own_multiply l Z a0 hw s0 s1 s0 s1 hr n0 Xr.sz) own_d_prog_70_method_7_code_85 own_pd__JJJJ__J rfl rfl (by show 2 * 0 + _ ≤ _; exact Nat.le_of_eq rfl) (by decide) (by decide) (by (try dsimp only); omega) (by (try dsimp only); omega) ?_
        intro T22 h22 v22 X22 P22
        obtain ⟨bmq, zhq, zlq, rfl, Kc22, sz22, ga_bmq, V22, hzq⟩ := P22
        have ne_b1_bmq : b1 ≠ bmq := Nat.ne_of_lt (Nat.lt_of_lt_of_le Vx2.lt sz22)
        have ne_pa_bmq : pa ≠ bmq := Nat.ne_of_lt (Nat.lt_of_lt_of_le Vp2.lt sz22)
        have ne_sa_bmq : sa ≠ bmq := Nat.ne_of_lt (Nat.lt_of_lt_of_le Vs2.lt sz22)
        have sz_bmq : h0.size ≤ bmq := Nat.le_trans Kr.1 sz22
        have K22 : Keep h0 h22 [] := Kr.trans Kc22 all0
        have F23_b1 : own_AL Z h22 b1 .long [(.long qh), (.long ql)] := Vx2.keep Kc22 nin0
        have F24_pa : own_AL Z h22 pa .long [(.long p0), (.long p1)] := Vp2.keep Kc22 nin0
        have F25_sa : own_AL Z h22 sa .long [(.long s0), (.long s1)] := Vs2.keep Kc22 nin0
        show own_Wins p e below A T22 (mkF m 88 #[.val (.long qh), .second, .val (.long ql), .second, .val (.ref b1), .val (.ref pa), .val (.int (Int32.ofNat k)), .val (.int (0 : Int32)), .val (.int (1 : Int32)), .val (.ref sa), .val (.int (Int32.ofNat i))] [(.ref bmq)])
        refine own_astore X22 #[.val (.long qh), .second, .val (.long ql), .second, .val (.ref b1), .val (.ref pa), .val (.int (Int32.ofNat k)), .val (.int (0 : Int32)), .val (.int (1 : Int32)), .val (.ref bmq), .val (.int (Int32.ofNat i))] own_d_prog_70_method_7_code_88 rfl ?_
        refine own_iinc X22 #[.val (.long qh), .second, .val (.long ql), .second, .val (.ref b1), .val (.ref pa), .val (.int (Int32.ofNat k)), .val (.int (0 : Int32)), .val (.int (1 : Int32)), .val (.ref bmq), .val (.int ((Int32.ofNat i) + (1 : Int32)))] own_d_prog_70_method_7_code_90 rfl rfl ?_
        refine own_goto X22 own_d_prog_70_method_7_code_93 ?_
        rw [own_succ]
        refine ih2 (i + 1) bmq zhq zlq _ _ (by omega) (by rw [hzq, hs]; rfl) (X22.more (by dsimp only; omega) (by dsimp only; omega)) F23_b1 F24_pa V22 K22
set_option maxRecDepth 65536 in
set_option maxHeartbeats 40000000 in
theorem own_ivFor1 (l : Launch) (Z : State) (a0 : Array Value) (hw : ∀ d ∈ tables_1, d.before a0 Z = true) (a cb bt_ : Addr) (hi lo ch cl th tl : Int64) (h0 : Heap) (n0 : Nat) (Z0 : n0 ≤ h0.size) (O : own_Obj Z h0 a "com/example/libcachet/libcachet/Ghash" own_ns_Gh [(.long hi), (.long lo), (.ref bt_), (.int (0 : Int32)), (.long (0 : Int64)), (.long (0 : Int64)), (.long (0 : Int64)), (.long (0 : Int64)), .null, .null, .null]) (ga : n0 ≤ a) (hac : a ≠ cb) (hat : a ≠ bt_) (Vb : own_AF Z h0 cb .byte 16 (own_b16 ch cl)) (Vt : own_AL Z h0 bt_ .long [.long th, .long tl]) :
    own_Con l Z n0 (⟨"com/example/libcachet/libcachet/Ghash", "ivFor", "([B)[B"⟩ : MethodName) prog_70_method_5_code 3 (some (.array .byte)) ({ frames := 2, cells := 257, slots := 528, locals := 90 } : Room) [] #[(.ref a), (.ref cb)] h0 (fun v h' => ∃ (b bi : Addr) (oh ol vh vl : Int64), v = some (.ref b) ∧ Keep h0 h' [a] ∧ own_Obj Z h' a "com/example/libcachet/libcachet/Ghash" own_ns_Gh [(.long hi), (.long lo), (.ref bt_), (.int (0 : Int32)), (.long (0 : Int64)), (.long (0 : Int64)), (.long (0 : Int64)), (.long (0 : Int64)), .null, .null, (.ref bi)] ∧ own_AL Z h' bi .long [.long vh, .long vl] ∧ h0.size ≤ bi ∧ n0 ≤ bi ∧ h0.size ≤ b ∧ n0 ≤ b ∧ own_AF Z h' b .byte 16 (own_b16 oh ol) ∧ own_pk vh vl = own_gInv (own_gQ (own_pk hi lo)) ∧ own_pk oh ol = own_gM (own_pk ch cl ^^^ own_pk th tl) (own_pk vh vl)) := by
  refine own_enter (plainFor_of_name own_pn_com_example_libcachet_libcachet_Ghash) Z0 #[.val (.ref a), .val (.ref cb), .unset] (fun m => by first | (simp [entryFrame, mkF, argsToLocals, Value.category]; done) | rfl) ?_
  intro p e s m below meth c T A X0 hret hnm fin
  refine own_aload X0 own_d_prog_70_method_5_code_0 rfl ?_
  refine own_getF X0 (host := "") (k := 10) (hw _ (List.mem_of_getElem? (i := 35) rfl)) O rfl rfl own_d_prog_70_method_5_code_1 ?_
  intro T1 X1
  refine own_innNo X1 own_d_prog_70_method_5_code_4 ?_
  refine own_aload X1 own_d_prog_70_method_5_code_7 rfl ?_
  refine own_getF X1 (host := "") (k := 0) (hw _ (List.mem_of_getElem? (i := 18) rfl)) O rfl rfl own_d_prog_70_method_5_code_8 ?_
  intro T2 X2
  refine own_aload X2 own_d_prog_70_method_5_code_11 rfl ?_
  refine own_getF X2 (host := "") (k := 1) (hw _ (List.mem_of_getElem? (i := 20) rfl)) O rfl rfl own_d_prog_70_method_5_code_12 ?_
  intro T3 X3
  refine own_aload X3 own_d_prog_70_method_5_code_15 rfl ?_
  refine own_getF X3 (host := "") (k := 0) (hw _ (List.mem_of_getElem? (i := 18) rfl)) O rfl rfl own_d_prog_70_method_5_code_16 ?_
  intro T4 X4
  refine own_aload X4 own_d_prog_70_method_5_code_19 rfl ?_
  refine own_getF X4 (host := "") (k := 1) (hw _ (List.mem_of_getElem? (i := 20) rfl)) O rfl rfl own_d_prog_70_method_5_code_20 ?_
  intro T5 X5
  refine own_callS X5 (y := (⟨"com/example/libcachet/libcachet/Ghash", "multiply", "(JJJJ)[J"⟩ : MethodName)) [(.long hi), (.long lo), (.long hi), (.long lo)] [] 0 rfl (hw _ (List.mem_of_getElem? (i := 23) rfl)) (hw _ (List.mem_of_getElem? (i := 24) rfl)) (hw _ (List.mem_of_getElem? (i := 8) rfl)) (hw _ (List.mem_of_getElem? (i := 25) rfl)) (by decide) (own_multiply l Z a0 hw hi lo hi lo h0 n0 X5.sz) own_d_prog_70_method_5_code_23 own_pd__JJJJ__J rfl rfl (by show 2 * 0 + _ ≤ _; exact Nat.le_of_eq rfl) (by decide) (by decide) (by decide) (by decide) ?_
  intro T6 h6 v6 X6 P6
  obtain ⟨bmq, zhq, zlq, rfl, Kc6, sz6, ga_bmq, V6, hzq⟩ := P6
  have ne_a_bmq : a ≠ bmq := Nat.ne_of_lt (Nat.lt_of_lt_of_le O.lt sz6)
  have ne_cb_bmq : cb ≠ bmq := Nat.ne_of_lt (Nat.lt_of_lt_of_le Vb.lt sz6)
  have ne_bt__bmq : bt_ ≠ bmq := Nat.ne_of_lt (Nat.lt_of_lt_of_le Vt.lt sz6)
  have sz_bmq : h0.size ≤ bmq := Nat.le_trans (Keep.refl h0 [a]).1 sz6
  have K6 : Keep h0 h6 [a] := (Keep.refl h0 [a]).trans Kc6 all0
  have F7_a : own_Obj Z h6 a "com/example/libcachet/libcachet/Ghash" own_ns_Gh [(.long hi), (.long lo), (.ref bt_), (.int (0 : Int32)), (.long (0 : Int64)), (.long (0 : Int64)), (.long (0 : Int64)), (.long (0 : Int64)), .null, .null, .null] := O.keep Kc6 nin0
  have F8_cb : own_AF Z h6 cb .byte 16 (own_b16 ch cl) := Vb.keep Kc6 nin0
  have F9_bt_ : own_AL Z h6 bt_ .long [(.long th), (.long tl)] := Vt.keep Kc6 nin0
  show own_Wins p e below A T6 (mkF m 26 #[.val (.ref a), .val (.ref cb), .unset] [(.ref bmq)])
  refine own_astore X6 #[.val (.ref a), .val (.ref cb), .val (.ref bmq)] own_d_prog_70_method_5_code_26 rfl ?_
  refine own_aload X6 own_d_prog_70_method_5_code_27 rfl ?_
  refine own_aload X6 own_d_prog_70_method_5_code_28 rfl ?_
  refine own_ipush X6 own_d_prog_70_method_5_code_29 ?_
  refine own_laload X6 V6 (i := 0) ⟨by decide, by decide⟩ rfl own_d_prog_70_method_5_code_30 ?_
  refine own_aload X6 own_d_prog_70_method_5_code_31 rfl ?_
  refine own_ipush X6 own_d_prog_70_method_5_code_32 ?_
  refine own_laload X6 V6 (i := 1) ⟨by decide, by decide⟩ rfl own_d_prog_70_method_5_code_33 ?_
  refine own_callS X6 (y := (⟨"com/example/libcachet/libcachet/Ghash", "inverse", "(JJ)[J"⟩ : MethodName)) [(.long zhq), (.long zlq)] [(.ref a)] 1 rfl (hw _ (List.mem_of_getElem? (i := 37) rfl)) (hw _ (List.mem_of_getElem? (i := 38) rfl)) (hw _ (List.mem_of_getElem? (i := 8) rfl)) (hw _ (List.mem_of_getElem? (i := 39) rfl)) (by decide) (own_inverse l Z a0 hw zhq zlq h6 n0 X6.sz) own_d_prog_70_method_5_code_34 own_pd__JJ__J rfl rfl (by show 2 * 0 + _ ≤ _; exact Nat.le_of_eq rfl) (by decide) (by decide) (by decide) (by decide) ?_
  intro T10 h10 v10 X10 P10
  obtain ⟨bi, vh, vl, rfl, Kc10, sz10, ga_bi, V10, hvi⟩ := P10
  have ne_a_bi : a ≠ bi := Nat.ne_of_lt (Nat.lt_of_lt_of_le F7_a.lt sz10)
  have ne_cb_bi : cb ≠ bi := Nat.ne_of_lt (Nat.lt_of_lt_of_le F8_cb.lt sz10)
  have ne_bt__bi : bt_ ≠ bi := Nat.ne_of_lt (Nat.lt_of_lt_of_le F9_bt_.lt sz10)
  have ne_bmq_bi : bmq ≠ bi := Nat.ne_of_lt (Nat.lt_of_lt_of_le V6.lt sz10)
  have sz_bi : h0.size ≤ bi := Nat.le_trans K6.1 sz10
  have K10 : Keep h0 h10 [a] := K6.trans Kc10 all0
  have F11_a : own_Obj Z h10 a "com/example/libcachet/libcachet/Ghash" own_ns_Gh [(.long hi), (.long lo), (.ref bt_), (.int (0 : Int32)), (.long (0 : Int64)), (.long (0 : Int64)), (.long (0 : Int64)), (.long (0 : Int64)), .null, .null, .null] := F7_a.keep Kc10 nin0
  have F12_cb : own_AF Z h10 cb .byte 16 (own_b16 ch cl) := F8_cb.keep Kc10 nin0
  have F13_bt_ : own_AL Z h10 bt_ .long [(.long th), (.long tl)] := F9_bt_.keep Kc10 nin0
  have F14_bmq : own_AL Z h10 bmq .long [(.long zhq), (.long zlq)] := V6.keep Kc10 nin0
  show own_Wins p e below A T10 (mkF m 37 #[.val (.ref a), .val (.ref cb), .val (.ref bmq)] [(.ref bi), (.ref a)])
  refine own_putF X10 (k := 10) (ty := (.array .long)) (hw _ (List.mem_of_getElem? (i := 35) rfl)) F11_a (own_laid_Gh hw) rfl (Or.inl (hw _ (List.mem_of_getElem? (i := 36) rfl))) (hw _ (List.mem_of_getElem? (i := 7) rfl)) (by decide) rfl rfl ga own_d_prog_70_method_5_code_37 ?_
  intro T15 h15 X15 W15 V15
  have K15 : Keep h0 h15 [a] := K10.wr W15 (Or.inl (by simp))
  replace V15 : own_Obj Z h15 a "com/example/libcachet/libcachet/Ghash" own_ns_Gh [(.long hi), (.long lo), (.ref bt_), (.int (0 : Int32)), (.long (0 : Int64)), (.long (0 : Int64)), (.long (0 : Int64)), (.long (0 : Int64)), .null, .null, (.ref bi)] := V15
  have F16_cb : own_AF Z h15 cb .byte 16 (own_b16 ch cl) := F12_cb.other W15 (Ne.symm hac)
  have F17_bt_ : own_AL Z h15 bt_ .long [(.long th), (.long tl)] := F13_bt_.other W15 (Ne.symm hat)
  have F18_bmq : own_AL Z h15 bmq .long [(.long zhq), (.long zlq)] := F14_bmq.other W15 (Ne.symm ne_a_bmq)
  have F19_bi : own_AL Z h15 bi .long [(.long vh), (.long vl)] := V10.other W15 (Ne.symm ne_a_bi)
  refine own_aload X15 own_d_prog_70_method_5_code_40 rfl ?_
  refine own_ipush X15 own_d_prog_70_method_5_code_41 ?_
  refine own_callS X15 (y := (⟨"com/example/libcachet/libcachet/Ghash", "long8", "([BI)J"⟩ : MethodName)) [(.ref cb), (.int (0 : Int32))] [] 0 rfl (hw _ (List.mem_of_getElem? (i := 15) rfl)) (hw _ (List.mem_of_getElem? (i := 16) rfl)) (hw _ (List.mem_of_getElem? (i := 8) rfl)) (hw _ (List.mem_of_getElem? (i := 17) rfl)) (by decide) (own_long8 l Z a0 hw cb (0 : Int32) 0 16 (own_bt ch) _ h15 n0 X15.sz F16_cb ⟨by decide, by decide⟩ (by decide) (by decide) (fun i hi => by simp only [own_b16]; rw [if_pos (by omega)]; congr 2; omega)) own_d_prog_70_method_5_code_42 own_pd___BI_J rfl rfl (by show 2 * 0 + _ ≤ _; exact Nat.le_of_eq rfl) (by decide) (by decide) (by decide) (by decide) ?_
  intro T21 h21 v21 X21 P21
  obtain ⟨rfl, eh21⟩ := P21
  rw [eh21] at X21
  show own_Wins p e below A T21 (mkF m 45 #[.val (.ref a), .val (.ref cb), .val (.ref bmq)] [(.long (own_be (own_bt ch) 8))])
  rw [(own_b16_be ch cl).1]
  show own_Wins p e below A T21 (mkF m 45 #[.val (.ref a), .val (.ref cb), .val (.ref bmq)] [(.long ch)])
  refine own_aload X21 own_d_prog_70_method_5_code_45 rfl ?_
  refine own_getF X21 (host := "") (k := 2) (hw _ (List.mem_of_getElem? (i := 28) rfl)) V15 rfl rfl own_d_prog_70_method_5_code_46 ?_
  intro T22 X22
  refine own_ipush X22 own_d_prog_70_method_5_code_49 ?_
  refine own_laload X22 F17_bt_ (i := 0) ⟨by decide, by decide⟩ rfl own_d_prog_70_method_5_code_50 ?_
  refine own_lxor X22 own_d_prog_70_method_5_code_51 ?_
  refine own_aload X22 own_d_prog_70_method_5_code_52 rfl ?_
  refine own_ipush X22 own_d_prog_70_method_5_code_53 ?_
  refine own_callS X22 (y := (⟨"com/example/libcachet/libcachet/Ghash", "long8", "([BI)J"⟩ : MethodName)) [(.ref cb), (.int (8 : Int32))] [(.long (ch ^^^ th))] 2 rfl (hw _ (List.mem_of_getElem? (i := 15) rfl)) (hw _ (List.mem_of_getElem? (i := 16) rfl)) (hw _ (List.mem_of_getElem? (i := 8) rfl)) (hw _ (List.mem_of_getElem? (i := 17) rfl)) (by decide) (own_long8 l Z a0 hw cb (8 : Int32) 8 16 (own_bt cl) _ h15 n0 X22.sz F16_cb ⟨by decide, by decide⟩ (by decide) (by decide) (fun i hi => by simp only [own_b16]; rw [if_neg (by omega)]; congr 2; omega)) own_d_prog_70_method_5_code_55 own_pd___BI_J rfl rfl (by show 2 * 0 + _ ≤ _; exact Nat.le_of_eq rfl) (by decide) (by decide) (by decide) (by decide) ?_
  intro T24 h24 v24 X24 P24
  obtain ⟨rfl, eh24⟩ := P24
  rw [eh24] at X24
  show own_Wins p e below A T24 (mkF m 58 #[.val (.ref a), .val (.ref cb), .val (.ref bmq)] [(.long (own_be (own_bt cl) 8)), (.long (ch ^^^ th))])
  rw [(own_b16_be ch cl).2]
  show own_Wins p e below A T24 (mkF m 58 #[.val (.ref a), .val (.ref cb), .val (.ref bmq)] [(.long cl), (.long (ch ^^^ th))])
  refine own_aload X24 own_d_prog_70_method_5_code_58 rfl ?_
  refine own_getF X24 (host := "") (k := 2) (hw _ (List.mem_of_getElem? (i := 28) rfl)) V15 rfl rfl own_d_prog_70_method_5_code_59 ?_
  intro T25 X25
  refine own_ipush X25 own_d_prog_70_method_5_code_62 ?_
  refine own_laload X25 F17_bt_ (i := 1) ⟨by decide, by decide⟩ rfl own_d_prog_70_method_5_code_63 ?_
  refine own_lxor X25 own_d_prog_70_method_5_code_64 ?_
  refine own_aload X25 own_d_prog_70_method_5_code_65 rfl ?_
  refine own_getF X25 (host := "") (k := 10) (hw _ (List.mem_of_getElem? (i := 35) rfl)) V15 rfl rfl own_d_prog_70_method_5_code_66 ?_
  intro T26 X26
  refine own_ipush X26 own_d_prog_70_method_5_code_69 ?_
  refine own_laload X26 F19_bi (i := 0) ⟨by decide, by decide⟩ rfl own_d_prog_70_method_5_code_70 ?_
  refine own_aload X26 own_d_prog_70_method_5_code_71 rfl ?_
  refine own_getF X26 (host := "") (k := 10) (hw _ (List.mem_of_getElem? (i := 35) rfl)) V15 rfl rfl own_d_prog_70_method_5_code_72 ?_
  intro T27 X27
  refine own_ipush X27 own_d_prog_70_method_5_code_75 ?_
  refine own_laload X27 F19_bi (i := 1) ⟨by decide, by decide⟩ rfl own_d_prog_70_method_5_code_76 ?_
  refine own_callS X27 (y := (⟨"com/example/libcachet/libcachet/Ghash", "multiply", "(JJJJ)[J"⟩ : MethodName)) [(.long (ch ^^^ th)), (.long (cl ^^^ tl)), (.long vh), (.long vl)] [] 0 rfl (hw _ (List.mem_of_getElem? (i := 23) rfl)) (hw _ (List.mem_of_getElem? (i := 24) rfl)) (hw _ (List.mem_of_getElem? (i := 8) rfl)) (hw _ (List.mem_of_getElem? (i := 25) rfl)) (by decide) (own_multiply l Z a0 hw (ch ^^^ th) (cl ^^^ tl) vh vl h15 n0 X27.sz) own_d_prog_70_method_5_code_77 own_pd__JJJJ__J rfl rfl (by show 2 * 0 + _ ≤ _; exact Nat.le_of_eq rfl) (by decide) (by decide) (by decide) (by decide) ?_
  intro T28 h28 v28 X28 P28
  obtain ⟨bmv, zhv, zlv, rfl, Kc28, sz28, ga_bmv, V28, hzv⟩ := P28
  have ne_a_bmv : a ≠ bmv := Nat.ne_of_lt (Nat.lt_of_lt_of_le V15.lt sz28)
  have ne_cb_bmv : cb ≠ bmv := Nat.ne_of_lt (Nat.lt_of_lt_of_le F16_cb.lt sz28)
  have ne_bt__bmv : bt_ ≠ bmv := Nat.ne_of_lt (Nat.lt_of_lt_of_le F17_bt_.lt sz28)
  have ne_bmq_bmv : bmq ≠ bmv := Nat.ne_of_lt (Nat.lt_of_lt_of_le F18_bmq.lt sz28)
  have ne_bi_bmv : bi ≠ bmv := Nat.ne_of_lt (Nat.lt_of_lt_of_le F19_bi.lt sz28)
  have sz_bmv : h0.size ≤ bmv := Nat.le_trans K15.1 sz28
  have K28 : Keep h0 h28 [a] := K15.trans Kc28 all0
  have F29_a : own_Obj Z h28 a "com/example/libcachet/libcachet/Ghash" own_ns_Gh [(.long hi), (.long lo), (.ref bt_), (.int (0 : Int32)), (.long (0 : Int64)), (.long (0 : Int64)), (.long (0 : Int64)), (.long (0 : Int64)), .null, .null, (.ref bi)] := V15.keep Kc28 nin0
  have F30_cb : own_AF Z h28 cb .byte 16 (own_b16 ch cl) := F16_cb.keep Kc28 nin0
  have F31_bt_ : own_AL Z h28 bt_ .long [(.long th), (.long tl)] := F17_bt_.keep Kc28 nin0
  have F32_bmq : own_AL Z h28 bmq .long [(.long zhq), (.long zlq)] := F18_bmq.keep Kc28 nin0
  have F33_bi : own_AL Z h28 bi .long [(.long vh), (.long vl)] := F19_bi.keep Kc28 nin0
  show own_Wins p e below A T28 (mkF m 80 #[.val (.ref a), .val (.ref cb), .val (.ref bmq)] [(.ref bmv)])
  refine own_astore X28 #[.val (.ref a), .val (.ref cb), .val (.ref bmv)] own_d_prog_70_method_5_code_80 rfl ?_
  refine own_aload X28 own_d_prog_70_method_5_code_81 rfl ?_
  refine own_ipush X28 own_d_prog_70_method_5_code_82 ?_
  refine own_laload X28 V28 (i := 0) ⟨by decide, by decide⟩ rfl own_d_prog_70_method_5_code_83 ?_
  refine own_aload X28 own_d_prog_70_method_5_code_84 rfl ?_
  refine own_ipush X28 own_d_prog_70_method_5_code_85 ?_
  refine own_laload X28 V28 (i := 1) ⟨by decide, by decide⟩ rfl own_d_prog_70_method_5_code_86 ?_
  refine own_callS X28 (y := (⟨"com/example/libcachet/libcachet/Ghash", "bytes", "(JJ)[B"⟩ : MethodName)) [(.long zhv), (.long zlv)] [] 0 rfl (hw _ (List.mem_of_getElem? (i := 40) rfl)) (hw _ (List.mem_of_getElem? (i := 41) rfl)) (hw _ (List.mem_of_getElem? (i := 8) rfl)) (hw _ (List.mem_of_getElem? (i := 42) rfl)) (by decide) (own_bytes l Z a0 hw zhv zlv h28 n0 X28.sz) own_d_prog_70_method_5_code_87 own_pd__JJ__B rfl rfl (by show 2 * 0 + _ ≤ _; exact Nat.le_of_eq rfl) (by decide) (by decide) (by decide) (by decide) ?_
  intro T34 h34 v34 X34 P34
  obtain ⟨byv, rfl, Kc34, sz34, ga_byv, V34⟩ := P34
  have ne_a_byv : a ≠ byv := Nat.ne_of_lt (Nat.lt_of_lt_of_le F29_a.lt sz34)
  have ne_cb_byv : cb ≠ byv := Nat.ne_of_lt (Nat.lt_of_lt_of_le F30_cb.lt sz34)
  have ne_bt__byv : bt_ ≠ byv := Nat.ne_of_lt (Nat.lt_of_lt_of_le F31_bt_.lt sz34)
  have ne_bmq_byv : bmq ≠ byv := Nat.ne_of_lt (Nat.lt_of_lt_of_le F32_bmq.lt sz34)
  have ne_bi_byv : bi ≠ byv := Nat.ne_of_lt (Nat.lt_of_lt_of_le F33_bi.lt sz34)
  have ne_bmv_byv : bmv ≠ byv := Nat.ne_of_lt (Nat.lt_of_lt_of_le V28.lt sz34)
  have sz_byv : h0.size ≤ byv := Nat.le_trans K28.1 sz34
  have K34 : Keep h0 h34 [a] := K28.trans Kc34 all0
  have F35_a : own_Obj Z h34 a "com/example/libcachet/libcachet/Ghash" own_ns_Gh [(.long hi), (.long lo), (.ref bt_), (.int (0 : Int32)), (.long (0 : Int64)), (.long (0 : Int64)), (.long (0 : Int64)), (.long (0 : Int64)), .null, .null, (.ref bi)] := F29_a.keep Kc34 nin0
  have F36_cb : own_AF Z h34 cb .byte 16 (own_b16 ch cl) := F30_cb.keep Kc34 nin0
  have F37_bt_ : own_AL Z h34 bt_ .long [(.long th), (.long tl)] := F31_bt_.keep Kc34 nin0
  have F38_bmq : own_AL Z h34 bmq .long [(.long zhq), (.long zlq)] := F32_bmq.keep Kc34 nin0
  have F39_bi : own_AL Z h34 bi .long [(.long vh), (.long vl)] := F33_bi.keep Kc34 nin0
  have F40_bmv : own_AL Z h34 bmv .long [(.long zhv), (.long zlv)] := V28.keep Kc34 nin0
  show own_Wins p e below A T34 (mkF m 90 #[.val (.ref a), .val (.ref cb), .val (.ref bmv)] [(.ref byv)])
  exact own_retA X34 hret rfl rfl fin (by decide) (by decide) ⟨byv, bi, zhv, zlv, vh, vl, rfl, K34, F35_a, F39_bi, sz_bi, ga_bi, sz_byv, ga_byv, V34, by rw [hvi, hzq]; rfl, by rw [hzv, own_pk_xor]⟩ own_d_prog_70_method_5_code_90
set_option maxRecDepth 65536 in
set_option maxHeartbeats 40000000 in
theorem own_ivFor2 (l : Launch) (Z : State) (a0 : Array Value) (hw : ∀ d ∈ tables_1, d.before a0 Z = true) (a cb bt_ bi : Addr) (hi lo ch cl th tl vh vl : Int64) (h0 : Heap) (n0 : Nat) (Z0 : n0 ≤ h0.size) (O : own_Obj Z h0 a "com/example/libcachet/libcachet/Ghash" own_ns_Gh [(.long hi), (.long lo), (.ref bt_), (.int (0 : Int32)), (.long (0 : Int64)), (.long (0 : Int64)), (.long (0 : Int64)), (.long (0 : Int64)), .null, .null, (.ref bi)]) (ga : n0 ≤ a) (hac : a ≠ cb) (hat : a ≠ bt_) (Vb : own_AF Z h0 cb .byte 16 (own_b16 ch cl)) (Vt : own_AL Z h0 bt_ .long [.long th, .long tl]) (Vi : own_AL Z h0 bi .long [.long vh, .long vl]) :
    own_Con l Z n0 (⟨"com/example/libcachet/libcachet/Ghash", "ivFor", "([B)[B"⟩ : MethodName) prog_70_method_5_code 3 (some (.array .byte)) ({ frames := 2, cells := 2, slots := 18, locals := 90 } : Room) [] #[(.ref a), (.ref cb)] h0 (fun v h' => ∃ (b : Addr) (oh ol : Int64), v = some (.ref b) ∧ Keep h0 h' [] ∧ h0.size ≤ b ∧ n0 ≤ b ∧ own_AF Z h' b .byte 16 (own_b16 oh ol) ∧ own_pk oh ol = own_gM (own_pk ch cl ^^^ own_pk th tl) (own_pk vh vl)) := by
  refine own_enter (plainFor_of_name own_pn_com_example_libcachet_libcachet_Ghash) Z0 #[.val (.ref a), .val (.ref cb), .unset] (fun m => by first | (simp [entryFrame, mkF, argsToLocals, Value.category]; done) | rfl) ?_
  intro p e s m below meth c T A X0 hret hnm fin
  refine own_aload X0 own_d_prog_70_method_5_code_0 rfl ?_
  refine own_getF X0 (host := "") (k := 10) (hw _ (List.mem_of_getElem? (i := 35) rfl)) O rfl rfl own_d_prog_70_method_5_code_1 ?_
  intro T1 X1
  refine own_innYes X1 own_d_prog_70_method_5_code_4 ?_
  refine own_aload X1 own_d_prog_70_method_5_code_40 rfl ?_
  refine own_ipush X1 own_d_prog_70_method_5_code_41 ?_
  refine own_callS X1 (y := (⟨"com/example/libcachet/libcachet/Ghash", "long8", "([BI)J"⟩ : MethodName)) [(.ref cb), (.int (0 : Int32))] [] 0 rfl (hw _ (List.mem_of_getElem? (i := 15) rfl)) (hw _ (List.mem_of_getElem? (i := 16) rfl)) (hw _ (List.mem_of_getElem? (i := 8) rfl)) (hw _ (List.mem_of_getElem? (i := 17) rfl)) (by decide) (own_long8 l Z a0 hw cb (0 : Int32) 0 16 (own_bt ch) _ h0 n0 X1.sz Vb ⟨by decide, by decide⟩ (by decide) (by decide) (fun i hi => by simp only [own_b16]; rw [if_pos (by omega)]; congr 2; omega)) own_d_prog_70_method_5_code_42 own_pd___BI_J rfl rfl (by show 2 * 0 + _ ≤ _; exact Nat.le_of_eq rfl) (by decide) (by decide) (by decide) (by decide) ?_
  intro T3 h3 v3 X3 P3
  obtain ⟨rfl, eh3⟩ := P3
  rw [eh3] at X3
  show own_Wins p e below A T3 (mkF m 45 #[.val (.ref a), .val (.ref cb), .unset] [(.long (own_be (own_bt ch) 8))])
  rw [(own_b16_be ch cl).1]
  show own_Wins p e below A T3 (mkF m 45 #[.val (.ref a), .val (.ref cb), .unset] [(.long ch)])
  refine own_aload X3 own_d_prog_70_method_5_code_45 rfl ?_
  refine own_getF X3 (host := "") (k := 2) (hw _ (List.mem_of_getElem? (i := 28) rfl)) O rfl rfl own_d_prog_70_method_5_code_46 ?_
  intro T4 X4
  refine own_ipush X4 own_d_prog_70_method_5_code_49 ?_
  refine own_laload X4 Vt (i := 0) ⟨by decide, by decide⟩ rfl own_d_prog_70_method_5_code_50 ?_
  refine own_lxor X4 own_d_prog_70_method_5_code_51 ?_
  refine own_aload X4 own_d_prog_70_method_5_code_52 rfl ?_
  refine own_ipush X4 own_d_prog_70_method_5_code_53 ?_
  refine own_callS X4 (y := (⟨"com/example/libcachet/libcachet/Ghash", "long8", "([BI)J"⟩ : MethodName)) [(.ref cb), (.int (8 : Int32))] [(.long (ch ^^^ th))] 2 rfl (hw _ (List.mem_of_getElem? (i := 15) rfl)) (hw _ (List.mem_of_getElem? (i := 16) rfl)) (hw _ (List.mem_of_getElem? (i := 8) rfl)) (hw _ (List.mem_of_getElem? (i := 17) rfl)) (by decide) (own_long8 l Z a0 hw cb (8 : Int32) 8 16 (own_bt cl) _ h0 n0 X4.sz Vb ⟨by decide, by decide⟩ (by decide) (by decide) (fun i hi => by simp only [own_b16]; rw [if_neg (by omega)]; congr 2; omega)) own_d_prog_70_method_5_code_55 own_pd___BI_J rfl rfl (by show 2 * 0 + _ ≤ _; exact Nat.le_of_eq rfl) (by decide) (by decide) (by decide) (by decide) ?_
  intro T6 h6 v6 X6 P6
  obtain ⟨rfl, eh6⟩ := P6
  rw [eh6] at X6
  show own_Wins p e below A T6 (mkF m 58 #[.val (.ref a), .val (.ref cb), .unset] [(.long (own_be (own_bt cl) 8)), (.long (ch ^^^ th))])
  rw [(own_b16_be ch cl).2]
  show own_Wins p e below A T6 (mkF m 58 #[.val (.ref a), .val (.ref cb), .unset] [(.long cl), (.long (ch ^^^ th))])
  refine own_aload X6 own_d_prog_70_method_5_code_58 rfl ?_
  refine own_getF X6 (host := "") (k := 2) (hw _ (List.mem_of_getElem? (i := 28) rfl)) O rfl rfl own_d_prog_70_method_5_code_59 ?_
  intro T7 X7
  refine own_ipush X7 own_d_prog_70_method_5_code_62 ?_
  refine own_laload X7 Vt (i := 1) ⟨by decide, by decide⟩ rfl own_d_prog_70_method_5_code_63 ?_
  refine own_lxor X7 own_d_prog_70_method_5_code_64 ?_
  refine own_aload X7 own_d_prog_70_method_5_code_65 rfl ?_
  refine own_getF X7 (host := "") (k := 10) (hw _ (List.mem_of_getElem? (i := 35) rfl)) O rfl rfl own_d_prog_70_method_5_code_66 ?_
  intro T8 X8
  refine own_ipush X8 own_d_prog_70_method_5_code_69 ?_
  refine own_laload X8 Vi (i := 0) ⟨by decide, by decide⟩ rfl own_d_prog_70_method_5_code_70 ?_
  refine own_aload X8 own_d_prog_70_method_5_code_71 rfl ?_
  refine own_getF X8 (host := "") (k := 10) (hw _ (List.mem_of_getElem? (i := 35) rfl)) O rfl rfl own_d_prog_70_method_5_code_72 ?_
  intro T9 X9
  refine own_ipush X9 own_d_prog_70_method_5_code_75 ?_
  refine own_laload X9 Vi (i := 1) ⟨by decide, by decide⟩ rfl own_d_prog_70_method_5_code_76 ?_
  refine own_callS X9 (y := (⟨"com/example/libcachet/libcachet/Ghash", "multiply", "(JJJJ)[J"⟩ : MethodName)) [(.long (ch ^^^ th)), (.long (cl ^^^ tl)), (.long vh), (.long vl)] [] 0 rfl (hw _ (List.mem_of_getElem? (i := 23) rfl)) (hw _ (List.mem_of_getElem? (i := 24) rfl)) (hw _ (List.mem_of_getElem? (i := 8) rfl)) (hw _ (List.mem_of_getElem? (i := 25) rfl)) (by decide) (own_multiply l Z a0 hw (ch ^^^ th) (cl ^^^ tl) vh vl h0 n0 X9.sz) own_d_prog_70_method_5_code_77 own_pd__JJJJ__J rfl rfl (by show 2 * 0 + _ ≤ _; exact Nat.le_of_eq rfl) (by decide) (by decide) (by decide) (by decide) ?_
  intro T10 h10 v10 X10 P10
  obtain ⟨bmv, zhv, zlv, rfl, Kc10, sz10, ga_bmv, V10, hzv⟩ := P10
  have ne_a_bmv : a ≠ bmv := Nat.ne_of_lt (Nat.lt_of_lt_of_le O.lt sz10)
  have ne_cb_bmv : cb ≠ bmv := Nat.ne_of_lt (Nat.lt_of_lt_of_le Vb.lt sz10)
  have ne_bt__bmv : bt_ ≠ bmv := Nat.ne_of_lt (Nat.lt_of_lt_of_le Vt.lt sz10)
  have ne_bi_bmv : bi ≠ bmv := Nat.ne_of_lt (Nat.lt_of_lt_of_le Vi.lt sz10)
  have sz_bmv : h0.size ≤ bmv := Nat.le_trans (Keep.refl h0 []).1 sz10
  have K10 : Keep h0 h10 [] := (Keep.refl h0 []).trans Kc10 all0
  have F11_a : own_Obj Z h10 a "com/example/libcachet/libcachet/Ghash" own_ns_Gh [(.long hi), (.long lo), (.ref bt_), (.int (0 : Int32)), (.long (0 : Int64)), (.long (0 : Int64)), (.long (0 : Int64)), (.long (0 : Int64)), .null, .null, (.ref bi)] := O.keep Kc10 nin0
  have F12_cb : own_AF Z h10 cb .byte 16 (own_b16 ch cl) := Vb.keep Kc10 nin0
  have F13_bt_ : own_AL Z h10 bt_ .long [(.long th), (.long tl)] := Vt.keep Kc10 nin0
  have F14_bi : own_AL Z h10 bi .long [(.long vh), (.long vl)] := Vi.keep Kc10 nin0
  show own_Wins p e below A T10 (mkF m 80 #[.val (.ref a), .val (.ref cb), .unset] [(.ref bmv)])
  refine own_astore X10 #[.val (.ref a), .val (.ref cb), .val (.ref bmv)] own_d_prog_70_method_5_code_80 rfl ?_
  refine own_aload X10 own_d_prog_70_method_5_code_81 rfl ?_
  refine own_ipush X10 own_d_prog_70_method_5_code_82 ?_
  refine own_laload X10 V10 (i := 0) ⟨by decide, by decide⟩ rfl own_d_prog_70_method_5_code_83 ?_
  refine own_aload X10 own_d_prog_70_method_5_code_84 rfl ?_
  refine own_ipush X10 own_d_prog_70_method_5_code_85 ?_
  refine own_laload X10 V10 (i := 1) ⟨by decide, by decide⟩ rfl own_d_prog_70_method_5_code_86 ?_
  refine own_callS X10 (y := (⟨"com/example/libcachet/libcachet/Ghash", "bytes", "(JJ)[B"⟩ : MethodName)) [(.long zhv), (.long zlv)] [] 0 rfl (hw _ (List.mem_of_getElem? (i := 40) rfl)) (hw _ (List.mem_of_getElem? (i := 41) rfl)) (hw _ (List.mem_of_getElem? (i := 8) rfl)) (hw _ (List.mem_of_getElem? (i := 42) rfl)) (by decide) (own_bytes l Z a0 hw zhv zlv h10 n0 X10.sz) own_d_prog_70_method_5_code_87 own_pd__JJ__B rfl rfl (by show 2 * 0 + _ ≤ _; exact Nat.le_of_eq rfl) (by decide) (by decide) (by decide) (by decide) ?_
  intro T15 h15 v15 X15 P15
  obtain ⟨byv, rfl, Kc15, sz15, ga_byv, V15⟩ := P15
  have ne_a_byv : a ≠ byv := Nat.ne_of_lt (Nat.lt_of_lt_of_le F11_a.lt sz15)
  have ne_cb_byv : cb ≠ byv := Nat.ne_of_lt (Nat.lt_of_lt_of_le F12_cb.lt sz15)
  have ne_bt__byv : bt_ ≠ byv := Nat.ne_of_lt (Nat.lt_of_lt_of_le F13_bt_.lt sz15)
  have ne_bi_byv : bi ≠ byv := Nat.ne_of_lt (Nat.lt_of_lt_of_le F14_bi.lt sz15)
  have ne_bmv_byv : bmv ≠ byv := Nat.ne_of_lt (Nat.lt_of_lt_of_le V10.lt sz15)
  have sz_byv : h0.size ≤ byv := Nat.le_trans K10.1 sz15
  have K15 : Keep h0 h15 [] := K10.trans Kc15 all0
  have F16_a : own_Obj Z h15 a "com/example/libcachet/libcachet/Ghash" own_ns_Gh [(.long hi), (.long lo), (.ref bt_), (.int (0 : Int32)), (.long (0 : Int64)), (.long (0 : Int64)), (.long (0 : Int64)), (.long (0 : Int64)), .null, .null, (.ref bi)] := F11_a.keep Kc15 nin0
  have F17_cb : own_AF Z h15 cb .byte 16 (own_b16 ch cl) := F12_cb.keep Kc15 nin0
  have F18_bt_ : own_AL Z h15 bt_ .long [(.long th), (.long tl)] := F13_bt_.keep Kc15 nin0
  have F19_bi : own_AL Z h15 bi .long [(.long vh), (.long vl)] := F14_bi.keep Kc15 nin0
  have F20_bmv : own_AL Z h15 bmv .long [(.long zhv), (.long zlv)] := V10.keep Kc15 nin0
  show own_Wins p e below A T15 (mkF m 90 #[.val (.ref a), .val (.ref cb), .val (.ref bmv)] [(.ref byv)])
  exact own_retA X15 hret rfl rfl fin (by decide) (by decide) ⟨byv, zhv, zlv, rfl, K15, sz_byv, ga_byv, V15, by rw [hzv, own_pk_xor]⟩ own_d_prog_70_method_5_code_90
set_option maxRecDepth 65536 in
set_option maxHeartbeats 40000000 in
theorem own_addA (l : Launch) (Z : State) (a0 : Array Value) (hw : ∀ d ∈ tables_1, d.before a0 Z = true) (a cb bt_ : Addr) (hi lo ch cl : Int64) (uq : Value) (h0 : Heap) (n0 : Nat) (Z0 : n0 ≤ h0.size) (O : own_Obj Z h0 a "com/example/libcachet/libcachet/Ghash" own_ns_Gh [(.long hi), (.long lo), (.ref bt_), (.int (0 : Int32)), (.long (0 : Int64)), (.long (0 : Int64)), (.long (0 : Int64)), (.long (0 : Int64)), .null, .null, uq]) (ga : n0 ≤ a) (hac : a ≠ cb) (Vb : own_AF Z h0 cb .byte 16 (own_b16 ch cl)) :
    own_Con l Z n0 (⟨"com/example/libcachet/libcachet/Ghash", "add", "([BJ)V"⟩ : MethodName) prog_70_method_2_code 5 none ({ frames := 2, cells := 6, slots := 12, locals := 90 } : Room) [] #[(.ref a), (.ref cb), (.long (16 : Int64))] h0 (fun v h' => ∃ (bl_ bp_ : Addr) (nh nl lh lo_ wh wl : Int64), v = none ∧ Keep h0 h' [a] ∧ own_Obj Z h' a "com/example/libcachet/libcachet/Ghash" own_ns_Gh [(.long hi), (.long lo), (.ref bt_), (.int (0 : Int32)), (.long ((0 : Int64) + (16 : Int64))), (.long nh), (.long nl), (.long (16 : Int64)), (.ref bl_), (.ref bp_), uq] ∧ own_AL Z h' bl_ .long [.long lh, .long lo_] ∧ own_AL Z h' bp_ .long [.long wh, .long wl] ∧ h0.size ≤ bl_ ∧ h0.size ≤ bp_ ∧ own_pk nh nl = own_pk ch cl ^^^ own_pk lh lo_ ∧ own_pk lh lo_ = own_gM (own_pk 0 ((16 : Int64) * (8 : Int64))) (own_pk hi lo) ∧ own_pk wh wl = own_pk hi lo) := by
  refine own_enter (plainFor_of_name own_pn_com_example_libcachet_libcachet_Ghash) Z0 #[.val (.ref a), .val (.ref cb), .val (.long (16 : Int64)), .second, .unset] (fun m => by first | (simp [entryFrame, mkF, argsToLocals, Value.category]; done) | rfl) ?_
  intro p e s m below meth c T A X0 hret hnm fin
  refine own_aload X0 own_d_prog_70_method_2_code_0 rfl ?_
  refine own_getF X0 (host := "") (k := 3) (hw _ (List.mem_of_getElem? (i := 49) rfl)) O rfl rfl own_d_prog_70_method_2_code_1 ?_
  intro T1 X1
  refine own_ifYes X1 own_d_prog_70_method_2_code_4 ((if0 _ _).trans (teq rfl).1) ?_
  refine own_lload X1 own_d_prog_70_method_2_code_17 rfl ?_
  refine own_lpush X1 own_d_prog_70_method_2_code_18 ?_
  refine own_lcmp X1 own_d_prog_70_method_2_code_19 ?_
  refine own_ifNo X1 own_d_prog_70_method_2_code_20 ((if0 _ _).trans (tlt ((lw_gt (16 : Int64) (0 : Int64)).2 (by decide))).2.2.2) ?_
  refine own_lload X1 own_d_prog_70_method_2_code_23 rfl ?_
  refine own_aload X1 own_d_prog_70_method_2_code_24 rfl ?_
  refine own_getF X1 (host := "") (k := 7) (hw _ (List.mem_of_getElem? (i := 51) rfl)) O rfl rfl own_d_prog_70_method_2_code_25 ?_
  intro T2 X2
  refine own_lcmp X2 own_d_prog_70_method_2_code_28 ?_
  refine own_ifNo X2 own_d_prog_70_method_2_code_29 ((if0 _ _).trans (feq (mt (lw_eq (16 : Int64) (0 : Int64)).1 (by decide))).1) ?_
  refine own_aload X2 own_d_prog_70_method_2_code_32 rfl ?_
  refine own_lpush X2 own_d_prog_70_method_2_code_33 ?_
  refine own_lload X2 own_d_prog_70_method_2_code_34 rfl ?_
  refine own_ldc2 X2 (hw _ (List.mem_of_getElem? (i := 53) rfl)) own_d_prog_70_method_2_code_35 ?_
  refine own_lmul X2 own_d_prog_70_method_2_code_38 ?_
  refine own_aload X2 own_d_prog_70_method_2_code_39 rfl ?_
  refine own_getF X2 (host := "") (k := 0) (hw _ (List.mem_of_getElem? (i := 18) rfl)) O rfl rfl own_d_prog_70_method_2_code_40 ?_
  intro T3 X3
  refine own_aload X3 own_d_prog_70_method_2_code_43 rfl ?_
  refine own_getF X3 (host := "") (k := 1) (hw _ (List.mem_of_getElem? (i := 20) rfl)) O rfl rfl own_d_prog_70_method_2_code_44 ?_
  intro T4 X4
  refine own_callS X4 (y := (⟨"com/example/libcachet/libcachet/Ghash", "multiply", "(JJJJ)[J"⟩ : MethodName)) [(.long (0 : Int64)), (.long ((16 : Int64) * (8 : Int64))), (.long hi), (.long lo)] [(.ref a)] 1 rfl (hw _ (List.mem_of_getElem? (i := 23) rfl)) (hw _ (List.mem_of_getElem? (i := 24) rfl)) (hw _ (List.mem_of_getElem? (i := 8) rfl)) (hw _ (List.mem_of_getElem? (i := 25) rfl)) (by decide) (own_multiply l Z a0 hw (0 : Int64) ((16 : Int64) * (8 : Int64)) hi lo h0 n0 X4.sz) own_d_prog_70_method_2_code_47 own_pd__JJJJ__J rfl rfl (by show 2 * 0 + _ ≤ _; exact Nat.le_of_eq rfl) (by decide) (by decide) (by decide) (by decide) ?_
  intro T5 h5 v5 X5 P5
  obtain ⟨bml, zhl, zll, rfl, Kc5, sz5, ga_bml, V5, hzl⟩ := P5
  have ne_a_bml : a ≠ bml := Nat.ne_of_lt (Nat.lt_of_lt_of_le O.lt sz5)
  have ne_cb_bml : cb ≠ bml := Nat.ne_of_lt (Nat.lt_of_lt_of_le Vb.lt sz5)
  have sz_bml : h0.size ≤ bml := Nat.le_trans (Keep.refl h0 [a]).1 sz5
  have K5 : Keep h0 h5 [a] := (Keep.refl h0 [a]).trans Kc5 all0
  have F6_a : own_Obj Z h5 a "com/example/libcachet/libcachet/Ghash" own_ns_Gh [(.long hi), (.long lo), (.ref bt_), (.int (0 : Int32)), (.long (0 : Int64)), (.long (0 : Int64)), (.long (0 : Int64)), (.long (0 : Int64)), .null, .null, uq] := O.keep Kc5 nin0
  have F7_cb : own_AF Z h5 cb .byte 16 (own_b16 ch cl) := Vb.keep Kc5 nin0
  show own_Wins p e below A T5 (mkF m 50 #[.val (.ref a), .val (.ref cb), .val (.long (16 : Int64)), .second, .unset] [(.ref bml), (.ref a)])
  refine own_putF X5 (k := 8) (ty := (.array .long)) (hw _ (List.mem_of_getElem? (i := 54) rfl)) F6_a (own_laid_Gh hw) rfl (Or.inl (hw _ (List.mem_of_getElem? (i := 55) rfl))) (hw _ (List.mem_of_getElem? (i := 7) rfl)) (by decide) rfl rfl ga own_d_prog_70_method_2_code_50 ?_
  intro T8 h8 X8 W8 V8
  have K8 : Keep h0 h8 [a] := K5.wr W8 (Or.inl (by simp))
  replace V8 : own_Obj Z h8 a "com/example/libcachet/libcachet/Ghash" own_ns_Gh [(.long hi), (.long lo), (.ref bt_), (.int (0 : Int32)), (.long (0 : Int64)), (.long (0 : Int64)), (.long (0 : Int64)), (.long (0 : Int64)), (.ref bml), .null, uq] := V8
  have F9_cb : own_AF Z h8 cb .byte 16 (own_b16 ch cl) := F7_cb.other W8 (Ne.symm hac)
  have F10_bml : own_AL Z h8 bml .long [(.long zhl), (.long zll)] := V5.other W8 (Ne.symm ne_a_bml)
  refine own_aload X8 own_d_prog_70_method_2_code_53 rfl ?_
  refine own_aload X8 own_d_prog_70_method_2_code_54 rfl ?_
  refine own_lload X8 own_d_prog_70_method_2_code_55 rfl ?_
  refine own_ldc2 X8 (hw _ (List.mem_of_getElem? (i := 56) rfl)) own_d_prog_70_method_2_code_56 ?_
  refine own_ladd X8 own_d_prog_70_method_2_code_59 ?_
  refine own_lpush X8 own_d_prog_70_method_2_code_60 ?_
  refine own_lsub X8 own_d_prog_70_method_2_code_61 ?_
  refine own_ldc2 X8 (hw _ (List.mem_of_getElem? (i := 56) rfl)) own_d_prog_70_method_2_code_62 ?_
  refine own_ldiv X8 own_d_prog_70_method_2_code_65 (by decide) ?_
  rw [show (((16 : Int64) + (16 : Int64)) - (1 : Int64)) / (16 : Int64) = 1 by decide]
  refine own_callP X8 (y := (⟨"com/example/libcachet/libcachet/Ghash", "power", "(J)[J"⟩ : MethodName)) [(.long (1 : Int64))] [(.ref a)] 1 (a := a) rfl (hw _ (List.mem_of_getElem? (i := 57) rfl)) (hw _ (List.mem_of_getElem? (i := 59) rfl)) (hw _ (List.mem_of_getElem? (i := 58) rfl)) (hw _ (List.mem_of_getElem? (i := 8) rfl)) (hw _ (List.mem_of_getElem? (i := 60) rfl)) (hw _ (List.mem_of_getElem? (i := 7) rfl)) (by decide) V8.1 (own_power l Z a0 hw a hi lo (.ref bt_) (.int (0 : Int32)) (.long (0 : Int64)) (.long (0 : Int64)) (.long (0 : Int64)) (.long (0 : Int64)) (.ref bml) .null uq h8 n0 X8.sz V8) own_d_prog_70_method_2_code_66 own_pd__J__J rfl rfl (by show 2 * 0 + _ ≤ _; exact Nat.le_of_eq rfl) (by decide) (by decide) (by decide) (by decide) ?_
  intro T11 h11 v11 X11 P11
  obtain ⟨bp_, wh, wl, rfl, Kc11, sz11, ga_bp_, V11, hwp⟩ := P11
  have ne_a_bp_ : a ≠ bp_ := Nat.ne_of_lt (Nat.lt_of_lt_of_le V8.lt sz11)
  have ne_cb_bp_ : cb ≠ bp_ := Nat.ne_of_lt (Nat.lt_of_lt_of_le F9_cb.lt sz11)
  have ne_bml_bp_ : bml ≠ bp_ := Nat.ne_of_lt (Nat.lt_of_lt_of_le F10_bml.lt sz11)
  have sz_bp_ : h0.size ≤ bp_ := Nat.le_trans K8.1 sz11
  have K11 : Keep h0 h11 [a] := K8.trans Kc11 all0
  have F12_a : own_Obj Z h11 a "com/example/libcachet/libcachet/Ghash" own_ns_Gh [(.long hi), (.long lo), (.ref bt_), (.int (0 : Int32)), (.long (0 : Int64)), (.long (0 : Int64)), (.long (0 : Int64)), (.long (0 : Int64)), (.ref bml), .null, uq] := V8.keep Kc11 nin0
  have F13_cb : own_AF Z h11 cb .byte 16 (own_b16 ch cl) := F9_cb.keep Kc11 nin0
  have F14_bml : own_AL Z h11 bml .long [(.long zhl), (.long zll)] := F10_bml.keep Kc11 nin0
  show own_Wins p e below A T11 (mkF m 69 #[.val (.ref a), .val (.ref cb), .val (.long (16 : Int64)), .second, .unset] [(.ref bp_), (.ref a)])
  refine own_putF X11 (k := 9) (ty := (.array .long)) (hw _ (List.mem_of_getElem? (i := 62) rfl)) F12_a (own_laid_Gh hw) rfl (Or.inl (hw _ (List.mem_of_getElem? (i := 63) rfl))) (hw _ (List.mem_of_getElem? (i := 7) rfl)) (by decide) rfl rfl ga own_d_prog_70_method_2_code_69 ?_
  intro T15 h15 X15 W15 V15
  have K15 : Keep h0 h15 [a] := K11.wr W15 (Or.inl (by simp))
  replace V15 : own_Obj Z h15 a "com/example/libcachet/libcachet/Ghash" own_ns_Gh [(.long hi), (.long lo), (.ref bt_), (.int (0 : Int32)), (.long (0 : Int64)), (.long (0 : Int64)), (.long (0 : Int64)), (.long (0 : Int64)), (.ref bml), (.ref bp_), uq] := V15
  have F16_cb : own_AF Z h15 cb .byte 16 (own_b16 ch cl) := F13_cb.other W15 (Ne.symm hac)
  have F17_bml : own_AL Z h15 bml .long [(.long zhl), (.long zll)] := F14_bml.other W15 (Ne.symm ne_a_bml)
  have F18_bp_ : own_AL Z h15 bp_ .long [(.long wh), (.long wl)] := V11.other W15 (Ne.symm ne_a_bp_)
  refine own_aload X15 own_d_prog_70_method_2_code_72 rfl ?_
  refine own_lload X15 own_d_prog_70_method_2_code_73 rfl ?_
  refine own_putF X15 (k := 7) (ty := .long) (hw _ (List.mem_of_getElem? (i := 51) rfl)) V15 (own_laid_Gh hw) rfl (Or.inl (hw _ (List.mem_of_getElem? (i := 52) rfl))) (hw _ (List.mem_of_getElem? (i := 7) rfl)) (by decide) rfl rfl ga own_d_prog_70_method_2_code_74 ?_
  intro T19 h19 X19 W19 V19
  have K19 : Keep h0 h19 [a] := K15.wr W19 (Or.inl (by simp))
  replace V19 : own_Obj Z h19 a "com/example/libcachet/libcachet/Ghash" own_ns_Gh [(.long hi), (.long lo), (.ref bt_), (.int (0 : Int32)), (.long (0 : Int64)), (.long (0 : Int64)), (.long (0 : Int64)), (.long (16 : Int64)), (.ref bml), (.ref bp_), uq] := V19
  have F20_cb : own_AF Z h19 cb .byte 16 (own_b16 ch cl) := F16_cb.other W19 (Ne.symm hac)
  have F21_bml : own_AL Z h19 bml .long [(.long zhl), (.long zll)] := F17_bml.other W19 (Ne.symm ne_a_bml)
  have F22_bp_ : own_AL Z h19 bp_ .long [(.long wh), (.long wl)] := F18_bp_.other W19 (Ne.symm ne_a_bp_)
  refine own_aload X19 own_d_prog_70_method_2_code_77 rfl ?_
  refine own_getF X19 (host := "") (k := 5) (hw _ (List.mem_of_getElem? (i := 64) rfl)) V19 rfl rfl own_d_prog_70_method_2_code_78 ?_
  intro T23 X23
  refine own_aload X23 own_d_prog_70_method_2_code_81 rfl ?_
  refine own_getF X23 (host := "") (k := 6) (hw _ (List.mem_of_getElem? (i := 66) rfl)) V19 rfl rfl own_d_prog_70_method_2_code_82 ?_
  intro T24 X24
  refine own_aload X24 own_d_prog_70_method_2_code_85 rfl ?_
  refine own_getF X24 (host := "") (k := 9) (hw _ (List.mem_of_getElem? (i := 62) rfl)) V19 rfl rfl own_d_prog_70_method_2_code_86 ?_
  intro T25 X25
  refine own_ipush X25 own_d_prog_70_method_2_code_89 ?_
  refine own_laload X25 F22_bp_ (i := 0) ⟨by decide, by decide⟩ rfl own_d_prog_70_method_2_code_90 ?_
  refine own_aload X25 own_d_prog_70_method_2_code_91 rfl ?_
  refine own_getF X25 (host := "") (k := 9) (hw _ (List.mem_of_getElem? (i := 62) rfl)) V19 rfl rfl own_d_prog_70_method_2_code_92 ?_
  intro T26 X26
  refine own_ipush X26 own_d_prog_70_method_2_code_95 ?_
  refine own_laload X26 F22_bp_ (i := 1) ⟨by decide, by decide⟩ rfl own_d_prog_70_method_2_code_96 ?_
  refine own_callS X26 (y := (⟨"com/example/libcachet/libcachet/Ghash", "multiply", "(JJJJ)[J"⟩ : MethodName)) [(.long (0 : Int64)), (.long (0 : Int64)), (.long wh), (.long wl)] [] 0 rfl (hw _ (List.mem_of_getElem? (i := 23) rfl)) (hw _ (List.mem_of_getElem? (i := 24) rfl)) (hw _ (List.mem_of_getElem? (i := 8) rfl)) (hw _ (List.mem_of_getElem? (i := 25) rfl)) (by decide) (own_multiply l Z a0 hw (0 : Int64) (0 : Int64) wh wl h19 n0 X26.sz) own_d_prog_70_method_2_code_97 own_pd__JJJJ__J rfl rfl (by show 2 * 0 + _ ≤ _; exact Nat.le_of_eq rfl) (by decide) (by decide) (by decide) (by decide) ?_
  intro T27 h27 v27 X27 P27
  obtain ⟨bms, zhs, zls, rfl, Kc27, sz27, ga_bms, V27, hzs⟩ := P27
  have ne_a_bms : a ≠ bms := Nat.ne_of_lt (Nat.lt_of_lt_of_le V19.lt sz27)
  have ne_cb_bms : cb ≠ bms := Nat.ne_of_lt (Nat.lt_of_lt_of_le F20_cb.lt sz27)
  have ne_bml_bms : bml ≠ bms := Nat.ne_of_lt (Nat.lt_of_lt_of_le F21_bml.lt sz27)
  have ne_bp__bms : bp_ ≠ bms := Nat.ne_of_lt (Nat.lt_of_lt_of_le F22_bp_.lt sz27)
  have sz_bms : h0.size ≤ bms := Nat.le_trans K19.1 sz27
  have K27 : Keep h0 h27 [a] := K19.trans Kc27 all0
  have F28_a : own_Obj Z h27 a "com/example/libcachet/libcachet/Ghash" own_ns_Gh [(.long hi), (.long lo), (.ref bt_), (.int (0 : Int32)), (.long (0 : Int64)), (.long (0 : Int64)), (.long (0 : Int64)), (.long (16 : Int64)), (.ref bml), (.ref bp_), uq] := V19.keep Kc27 nin0
  have F29_cb : own_AF Z h27 cb .byte 16 (own_b16 ch cl) := F20_cb.keep Kc27 nin0
  have F30_bml : own_AL Z h27 bml .long [(.long zhl), (.long zll)] := F21_bml.keep Kc27 nin0
  have F31_bp_ : own_AL Z h27 bp_ .long [(.long wh), (.long wl)] := F22_bp_.keep Kc27 nin0
  show own_Wins p e below A T27 (mkF m 100 #[.val (.ref a), .val (.ref cb), .val (.long (16 : Int64)), .second, .unset] [(.ref bms)])
  refine own_astore X27 #[.val (.ref a), .val (.ref cb), .val (.long (16 : Int64)), .second, .val (.ref bms)] own_d_prog_70_method_2_code_100 rfl ?_
  refine own_aload X27 own_d_prog_70_method_2_code_102 rfl ?_
  refine own_aload X27 own_d_prog_70_method_2_code_103 rfl ?_
  refine own_ipush X27 own_d_prog_70_method_2_code_105 ?_
  refine own_laload X27 V27 (i := 0) ⟨by decide, by decide⟩ rfl own_d_prog_70_method_2_code_106 ?_
  refine own_aload X27 own_d_prog_70_method_2_code_107 rfl ?_
  refine own_ipush X27 own_d_prog_70_method_2_code_108 ?_
  refine own_callS X27 (y := (⟨"com/example/libcachet/libcachet/Ghash", "long8", "([BI)J"⟩ : MethodName)) [(.ref cb), (.int (0 : Int32))] [(.long zhs), (.ref a)] 3 rfl (hw _ (List.mem_of_getElem? (i := 15) rfl)) (hw _ (List.mem_of_getElem? (i := 16) rfl)) (hw _ (List.mem_of_getElem? (i := 8) rfl)) (hw _ (List.mem_of_getElem? (i := 17) rfl)) (by decide) (own_long8 l Z a0 hw cb (0 : Int32) 0 16 (own_bt ch) _ h27 n0 X27.sz F29_cb ⟨by decide, by decide⟩ (by decide) (by decide) (fun i hi => by simp only [own_b16]; rw [if_pos (by omega)]; congr 2; omega)) own_d_prog_70_method_2_code_109 own_pd___BI_J rfl rfl (by show 2 * 0 + _ ≤ _; exact Nat.le_of_eq rfl) (by decide) (by decide) (by decide) (by decide) ?_
  intro T33 h33 v33 X33 P33
  obtain ⟨rfl, eh33⟩ := P33
  rw [eh33] at X33
  show own_Wins p e below A T33 (mkF m 112 #[.val (.ref a), .val (.ref cb), .val (.long (16 : Int64)), .second, .val (.ref bms)] [(.long (own_be (own_bt ch) 8)), (.long zhs), (.ref a)])
  rw [(own_b16_be ch cl).1]
  show own_Wins p e below A T33 (mkF m 112 #[.val (.ref a), .val (.ref cb), .val (.long (16 : Int64)), .second, .val (.ref bms)] [(.long ch), (.long zhs), (.ref a)])
  refine own_lxor X33 own_d_prog_70_method_2_code_112 ?_
  refine own_aload X33 own_d_prog_70_method_2_code_113 rfl ?_
  refine own_getF X33 (host := "") (k := 8) (hw _ (List.mem_of_getElem? (i := 54) rfl)) F28_a rfl rfl own_d_prog_70_method_2_code_114 ?_
  intro T34 X34
  refine own_ipush X34 own_d_prog_70_method_2_code_117 ?_
  refine own_laload X34 F30_bml (i := 0) ⟨by decide, by decide⟩ rfl own_d_prog_70_method_2_code_118 ?_
  refine own_lxor X34 own_d_prog_70_method_2_code_119 ?_
  refine own_putF X34 (k := 5) (ty := .long) (hw _ (List.mem_of_getElem? (i := 64) rfl)) F28_a (own_laid_Gh hw) rfl (Or.inl (hw _ (List.mem_of_getElem? (i := 65) rfl))) (hw _ (List.mem_of_getElem? (i := 7) rfl)) (by decide) rfl rfl ga own_d_prog_70_method_2_code_120 ?_
  intro T35 h35 X35 W35 V35
  have K35 : Keep h0 h35 [a] := K27.wr W35 (Or.inl (by simp))
  replace V35 : own_Obj Z h35 a "com/example/libcachet/libcachet/Ghash" own_ns_Gh [(.long hi), (.long lo), (.ref bt_), (.int (0 : Int32)), (.long (0 : Int64)), (.long ((zhs ^^^ ch) ^^^ zhl)), (.long (0 : Int64)), (.long (16 : Int64)), (.ref bml), (.ref bp_), uq] := V35
  have F36_cb : own_AF Z h35 cb .byte 16 (own_b16 ch cl) := F29_cb.other W35 (Ne.symm hac)
  have F37_bml : own_AL Z h35 bml .long [(.long zhl), (.long zll)] := F30_bml.other W35 (Ne.symm ne_a_bml)
  have F38_bp_ : own_AL Z h35 bp_ .long [(.long wh), (.long wl)] := F31_bp_.other W35 (Ne.symm ne_a_bp_)
  have F39_bms : own_AL Z h35 bms .long [(.long zhs), (.long zls)] := V27.other W35 (Ne.symm ne_a_bms)
  refine own_aload X35 own_d_prog_70_method_2_code_123 rfl ?_
  refine own_aload X35 own_d_prog_70_method_2_code_124 rfl ?_
  refine own_ipush X35 own_d_prog_70_method_2_code_126 ?_
  refine own_laload X35 F39_bms (i := 1) ⟨by decide, by decide⟩ rfl own_d_prog_70_method_2_code_127 ?_
  refine own_aload X35 own_d_prog_70_method_2_code_128 rfl ?_
  refine own_ipush X35 own_d_prog_70_method_2_code_129 ?_
  refine own_callS X35 (y := (⟨"com/example/libcachet/libcachet/Ghash", "long8", "([BI)J"⟩ : MethodName)) [(.ref cb), (.int (8 : Int32))] [(.long zls), (.ref a)] 3 rfl (hw _ (List.mem_of_getElem? (i := 15) rfl)) (hw _ (List.mem_of_getElem? (i := 16) rfl)) (hw _ (List.mem_of_getElem? (i := 8) rfl)) (hw _ (List.mem_of_getElem? (i := 17) rfl)) (by decide) (own_long8 l Z a0 hw cb (8 : Int32) 8 16 (own_bt cl) _ h35 n0 X35.sz F36_cb ⟨by decide, by decide⟩ (by decide) (by decide) (fun i hi => by simp only [own_b16]; rw [if_neg (by omega)]; congr 2; omega)) own_d_prog_70_method_2_code_131 own_pd___BI_J rfl rfl (by show 2 * 0 + _ ≤ _; exact Nat.le_of_eq rfl) (by decide) (by decide) (by decide) (by decide) ?_
  intro T41 h41 v41 X41 P41
  obtain ⟨rfl, eh41⟩ := P41
  rw [eh41] at X41
  show own_Wins p e below A T41 (mkF m 134 #[.val (.ref a), .val (.ref cb), .val (.long (16 : Int64)), .second, .val (.ref bms)] [(.long (own_be (own_bt cl) 8)), (.long zls), (.ref a)])
  rw [(own_b16_be ch cl).2]
  show own_Wins p e below A T41 (mkF m 134 #[.val (.ref a), .val (.ref cb), .val (.long (16 : Int64)), .second, .val (.ref bms)] [(.long cl), (.long zls), (.ref a)])
  refine own_lxor X41 own_d_prog_70_method_2_code_134 ?_
  refine own_aload X41 own_d_prog_70_method_2_code_135 rfl ?_
  refine own_getF X41 (host := "") (k := 8) (hw _ (List.mem_of_getElem? (i := 54) rfl)) V35 rfl rfl own_d_prog_70_method_2_code_136 ?_
  intro T42 X42
  refine own_ipush X42 own_d_prog_70_method_2_code_139 ?_
  refine own_laload X42 F37_bml (i := 1) ⟨by decide, by decide⟩ rfl own_d_prog_70_method_2_code_140 ?_
  refine own_lxor X42 own_d_prog_70_method_2_code_141 ?_
  refine own_putF X42 (k := 6) (ty := .long) (hw _ (List.mem_of_getElem? (i := 66) rfl)) V35 (own_laid_Gh hw) rfl (Or.inl (hw _ (List.mem_of_getElem? (i := 67) rfl))) (hw _ (List.mem_of_getElem? (i := 7) rfl)) (by decide) rfl rfl ga own_d_prog_70_method_2_code_142 ?_
  intro T43 h43 X43 W43 V43
  have K43 : Keep h0 h43 [a] := K35.wr W43 (Or.inl (by simp))
  replace V43 : own_Obj Z h43 a "com/example/libcachet/libcachet/Ghash" own_ns_Gh [(.long hi), (.long lo), (.ref bt_), (.int (0 : Int32)), (.long (0 : Int64)), (.long ((zhs ^^^ ch) ^^^ zhl)), (.long ((zls ^^^ cl) ^^^ zll)), (.long (16 : Int64)), (.ref bml), (.ref bp_), uq] := V43
  have F44_cb : own_AF Z h43 cb .byte 16 (own_b16 ch cl) := F36_cb.other W43 (Ne.symm hac)
  have F45_bml : own_AL Z h43 bml .long [(.long zhl), (.long zll)] := F37_bml.other W43 (Ne.symm ne_a_bml)
  have F46_bp_ : own_AL Z h43 bp_ .long [(.long wh), (.long wl)] := F38_bp_.other W43 (Ne.symm ne_a_bp_)
  have F47_bms : own_AL Z h43 bms .long [(.long zhs), (.long zls)] := F39_bms.other W43 (Ne.symm ne_a_bms)
  refine own_aload X43 own_d_prog_70_method_2_code_145 rfl ?_
  refine own_dup X43 own_d_prog_70_method_2_code_146 rfl ?_
  refine own_getF X43 (host := "") (k := 4) (hw _ (List.mem_of_getElem? (i := 68) rfl)) V43 rfl rfl own_d_prog_70_method_2_code_147 ?_
  intro T48 X48
  refine own_lload X48 own_d_prog_70_method_2_code_150 rfl ?_
  refine own_ladd X48 own_d_prog_70_method_2_code_151 ?_
  refine own_putF X48 (k := 4) (ty := .long) (hw _ (List.mem_of_getElem? (i := 68) rfl)) V43 (own_laid_Gh hw) rfl (Or.inl (hw _ (List.mem_of_getElem? (i := 69) rfl))) (hw _ (List.mem_of_getElem? (i := 7) rfl)) (by decide) rfl rfl ga own_d_prog_70_method_2_code_152 ?_
  intro T49 h49 X49 W49 V49
  have K49 : Keep h0 h49 [a] := K43.wr W49 (Or.inl (by simp))
  replace V49 : own_Obj Z h49 a "com/example/libcachet/libcachet/Ghash" own_ns_Gh [(.long hi), (.long lo), (.ref bt_), (.int (0 : Int32)), (.long ((0 : Int64) + (16 : Int64))), (.long ((zhs ^^^ ch) ^^^ zhl)), (.long ((zls ^^^ cl) ^^^ zll)), (.long (16 : Int64)), (.ref bml), (.ref bp_), uq] := V49
  have F50_cb : own_AF Z h49 cb .byte 16 (own_b16 ch cl) := F44_cb.other W49 (Ne.symm hac)
  have F51_bml : own_AL Z h49 bml .long [(.long zhl), (.long zll)] := F45_bml.other W49 (Ne.symm ne_a_bml)
  have F52_bp_ : own_AL Z h49 bp_ .long [(.long wh), (.long wl)] := F46_bp_.other W49 (Ne.symm ne_a_bp_)
  have F53_bms : own_AL Z h49 bms .long [(.long zhs), (.long zls)] := F47_bms.other W49 (Ne.symm ne_a_bms)
  refine own_aload X49 own_d_prog_70_method_2_code_155 rfl ?_
  refine own_lload X49 own_d_prog_70_method_2_code_156 rfl ?_
  refine own_ldc2 X49 (hw _ (List.mem_of_getElem? (i := 56) rfl)) own_d_prog_70_method_2_code_157 ?_
  refine own_lrem X49 own_d_prog_70_method_2_code_160 (by decide) ?_
  refine own_lpush X49 own_d_prog_70_method_2_code_161 ?_
  refine own_lcmp X49 own_d_prog_70_method_2_code_162 ?_
  refine own_ifYes X49 own_d_prog_70_method_2_code_163 ((if0 _ _).trans (teq ((lw_eq ((16 : Int64) % (16 : Int64)) (0 : Int64)).2 (by decide))).1) ?_
  refine own_ipush X49 own_d_prog_70_method_2_code_170 ?_
  refine own_putF X49 (k := 3) (ty := .boolean) (hw _ (List.mem_of_getElem? (i := 49) rfl)) V49 (own_laid_Gh hw) rfl (Or.inl (hw _ (List.mem_of_getElem? (i := 50) rfl))) (hw _ (List.mem_of_getElem? (i := 7) rfl)) (by decide) rfl rfl ga own_d_prog_70_method_2_code_171 ?_
  intro T54 h54 X54 W54 V54
  have K54 : Keep h0 h54 [a] := K49.wr W54 (Or.inl (by simp))
  replace V54 : own_Obj Z h54 a "com/example/libcachet/libcachet/Ghash" own_ns_Gh [(.long hi), (.long lo), (.ref bt_), (.int (0 : Int32)), (.long ((0 : Int64) + (16 : Int64))), (.long ((zhs ^^^ ch) ^^^ zhl)), (.long ((zls ^^^ cl) ^^^ zll)), (.long (16 : Int64)), (.ref bml), (.ref bp_), uq] := V54
  have F55_cb : own_AF Z h54 cb .byte 16 (own_b16 ch cl) := F50_cb.other W54 (Ne.symm hac)
  have F56_bml : own_AL Z h54 bml .long [(.long zhl), (.long zll)] := F51_bml.other W54 (Ne.symm ne_a_bml)
  have F57_bp_ : own_AL Z h54 bp_ .long [(.long wh), (.long wl)] := F52_bp_.other W54 (Ne.symm ne_a_bp_)
  have F58_bms : own_AL Z h54 bms .long [(.long zhs), (.long zls)] := F53_bms.other W54 (Ne.symm ne_a_bms)
  exact own_ret0 X54 hret fin (by decide) (by decide) ⟨bml, bp_, ((zhs ^^^ ch) ^^^ zhl), ((zls ^^^ cl) ^^^ zll), zhl, zll, wh, wl, rfl, K54, V54, F56_bml, F57_bp_, sz_bml, sz_bp_, by rw [own_pk_xor, own_pk_xor, hzs, own_pk_0, own_gM_0, Nat.zero_xor], hzl, hwp⟩ own_d_prog_70_method_2_code_174
set_option maxRecDepth 65536 in
set_option maxHeartbeats 40000000 in
theorem own_addB (l : Launch) (Z : State) (a0 : Array Value) (hw : ∀ d ∈ tables_1, d.before a0 Z = true) (a cb bt_ bl_ bp_ : Addr) (hi lo ch cl ll sh sl lh lo_ wh wl : Int64) (uq : Value) (h0 : Heap) (n0 : Nat) (Z0 : n0 ≤ h0.size) (O : own_Obj Z h0 a "com/example/libcachet/libcachet/Ghash" own_ns_Gh [(.long hi), (.long lo), (.ref bt_), (.int (0 : Int32)), (.long ll), (.long sh), (.long sl), (.long (16 : Int64)), (.ref bl_), (.ref bp_), uq]) (ga : n0 ≤ a) (hac : a ≠ cb) (hal : a ≠ bl_) (hap : a ≠ bp_) (Vb : own_AF Z h0 cb .byte 16 (own_b16 ch cl)) (Vl : own_AL Z h0 bl_ .long [.long lh, .long lo_]) (Vp : own_AL Z h0 bp_ .long [.long wh, .long wl]) :
    own_Con l Z n0 (⟨"com/example/libcachet/libcachet/Ghash", "add", "([BJ)V"⟩ : MethodName) prog_70_method_2_code 5 none ({ frames := 2, cells := 1, slots := 2, locals := 90 } : Room) [] #[(.ref a), (.ref cb), (.long (16 : Int64))] h0 (fun v h' => ∃ (nh nl : Int64), v = none ∧ Keep h0 h' [a] ∧ own_Obj Z h' a "com/example/libcachet/libcachet/Ghash" own_ns_Gh [(.long hi), (.long lo), (.ref bt_), (.int (0 : Int32)), (.long (ll + (16 : Int64))), (.long nh), (.long nl), (.long (16 : Int64)), (.ref bl_), (.ref bp_), uq] ∧ own_pk nh nl = own_gM (own_pk sh sl) (own_pk wh wl) ^^^ own_pk ch cl ^^^ own_pk lh lo_) := by
  refine own_enter (plainFor_of_name own_pn_com_example_libcachet_libcachet_Ghash) Z0 #[.val (.ref a), .val (.ref cb), .val (.long (16 : Int64)), .second, .unset] (fun m => by first | (simp [entryFrame, mkF, argsToLocals, Value.category]; done) | rfl) ?_
  intro p e s m below meth c T A X0 hret hnm fin
  refine own_aload X0 own_d_prog_70_method_2_code_0 rfl ?_
  refine own_getF X0 (host := "") (k := 3) (hw _ (List.mem_of_getElem? (i := 49) rfl)) O rfl rfl own_d_prog_70_method_2_code_1 ?_
  intro T1 X1
  refine own_ifYes X1 own_d_prog_70_method_2_code_4 ((if0 _ _).trans (teq rfl).1) ?_
  refine own_lload X1 own_d_prog_70_method_2_code_17 rfl ?_
  refine own_lpush X1 own_d_prog_70_method_2_code_18 ?_
  refine own_lcmp X1 own_d_prog_70_method_2_code_19 ?_
  refine own_ifNo X1 own_d_prog_70_method_2_code_20 ((if0 _ _).trans (tlt ((lw_gt (16 : Int64) (0 : Int64)).2 (by decide))).2.2.2) ?_
  refine own_lload X1 own_d_prog_70_method_2_code_23 rfl ?_
  refine own_aload X1 own_d_prog_70_method_2_code_24 rfl ?_
  refine own_getF X1 (host := "") (k := 7) (hw _ (List.mem_of_getElem? (i := 51) rfl)) O rfl rfl own_d_prog_70_method_2_code_25 ?_
  intro T2 X2
  refine own_lcmp X2 own_d_prog_70_method_2_code_28 ?_
  refine own_ifYes X2 own_d_prog_70_method_2_code_29 ((if0 _ _).trans (teq ((lw_eq (16 : Int64) (16 : Int64)).2 rfl)).1) ?_
  refine own_aload X2 own_d_prog_70_method_2_code_77 rfl ?_
  refine own_getF X2 (host := "") (k := 5) (hw _ (List.mem_of_getElem? (i := 64) rfl)) O rfl rfl own_d_prog_70_method_2_code_78 ?_
  intro T3 X3
  refine own_aload X3 own_d_prog_70_method_2_code_81 rfl ?_
  refine own_getF X3 (host := "") (k := 6) (hw _ (List.mem_of_getElem? (i := 66) rfl)) O rfl rfl own_d_prog_70_method_2_code_82 ?_
  intro T4 X4
  refine own_aload X4 own_d_prog_70_method_2_code_85 rfl ?_
  refine own_getF X4 (host := "") (k := 9) (hw _ (List.mem_of_getElem? (i := 62) rfl)) O rfl rfl own_d_prog_70_method_2_code_86 ?_
  intro T5 X5
  refine own_ipush X5 own_d_prog_70_method_2_code_89 ?_
  refine own_laload X5 Vp (i := 0) ⟨by decide, by decide⟩ rfl own_d_prog_70_method_2_code_90 ?_
  refine own_aload X5 own_d_prog_70_method_2_code_91 rfl ?_
  refine own_getF X5 (host := "") (k := 9) (hw _ (List.mem_of_getElem? (i := 62) rfl)) O rfl rfl own_d_prog_70_method_2_code_92 ?_
  intro T6 X6
  refine own_ipush X6 own_d_prog_70_method_2_code_95 ?_
  refine own_laload X6 Vp (i := 1) ⟨by decide, by decide⟩ rfl own_d_prog_70_method_2_code_96 ?_
  refine own_callS X6 (y := (⟨"com/example/libcachet/libcachet/Ghash", "multiply", "(JJJJ)[J"⟩ : MethodName)) [(.long sh), (.long sl), (.long wh), (.long wl)] [] 0 rfl (hw _ (List.mem_of_getElem? (i := 23) rfl)) (hw _ (List.mem_of_getElem? (i := 24) rfl)) (hw _ (List.mem_of_getElem? (i := 8) rfl)) (hw _ (List.mem_of_getElem? (i := 25) rfl)) (by decide) (own_multiply l Z a0 hw sh sl wh wl h0 n0 X6.sz) own_d_prog_70_method_2_code_97 own_pd__JJJJ__J rfl rfl (by show 2 * 0 + _ ≤ _; exact Nat.le_of_eq rfl) (by decide) (by decide) (by decide) (by decide) ?_
  intro T7 h7 v7 X7 P7
  obtain ⟨bms, zhs, zls, rfl, Kc7, sz7, ga_bms, V7, hzs⟩ := P7
  have ne_a_bms : a ≠ bms := Nat.ne_of_lt (Nat.lt_of_lt_of_le O.lt sz7)
  have ne_cb_bms : cb ≠ bms := Nat.ne_of_lt (Nat.lt_of_lt_of_le Vb.lt sz7)
  have ne_bl__bms : bl_ ≠ bms := Nat.ne_of_lt (Nat.lt_of_lt_of_le Vl.lt sz7)
  have ne_bp__bms : bp_ ≠ bms := Nat.ne_of_lt (Nat.lt_of_lt_of_le Vp.lt sz7)
  have sz_bms : h0.size ≤ bms := Nat.le_trans (Keep.refl h0 [a]).1 sz7
  have K7 : Keep h0 h7 [a] := (Keep.refl h0 [a]).trans Kc7 all0
  have F8_a : own_Obj Z h7 a "com/example/libcachet/libcachet/Ghash" own_ns_Gh [(.long hi), (.long lo), (.ref bt_), (.int (0 : Int32)), (.long ll), (.long sh), (.long sl), (.long (16 : Int64)), (.ref bl_), (.ref bp_), uq] := O.keep Kc7 nin0
  have F9_cb : own_AF Z h7 cb .byte 16 (own_b16 ch cl) := Vb.keep Kc7 nin0
  have F10_bl_ : own_AL Z h7 bl_ .long [(.long lh), (.long lo_)] := Vl.keep Kc7 nin0
  have F11_bp_ : own_AL Z h7 bp_ .long [(.long wh), (.long wl)] := Vp.keep Kc7 nin0
  show own_Wins p e below A T7 (mkF m 100 #[.val (.ref a), .val (.ref cb), .val (.long (16 : Int64)), .second, .unset] [(.ref bms)])
  refine own_astore X7 #[.val (.ref a), .val (.ref cb), .val (.long (16 : Int64)), .second, .val (.ref bms)] own_d_prog_70_method_2_code_100 rfl ?_
  refine own_aload X7 own_d_prog_70_method_2_code_102 rfl ?_
  refine own_aload X7 own_d_prog_70_method_2_code_103 rfl ?_
  refine own_ipush X7 own_d_prog_70_method_2_code_105 ?_
  refine own_laload X7 V7 (i := 0) ⟨by decide, by decide⟩ rfl own_d_prog_70_method_2_code_106 ?_
  refine own_aload X7 own_d_prog_70_method_2_code_107 rfl ?_
  refine own_ipush X7 own_d_prog_70_method_2_code_108 ?_
  refine own_callS X7 (y := (⟨"com/example/libcachet/libcachet/Ghash", "long8", "([BI)J"⟩ : MethodName)) [(.ref cb), (.int (0 : Int32))] [(.long zhs), (.ref a)] 3 rfl (hw _ (List.mem_of_getElem? (i := 15) rfl)) (hw _ (List.mem_of_getElem? (i := 16) rfl)) (hw _ (List.mem_of_getElem? (i := 8) rfl)) (hw _ (List.mem_of_getElem? (i := 17) rfl)) (by decide) (own_long8 l Z a0 hw cb (0 : Int32) 0 16 (own_bt ch) _ h7 n0 X7.sz F9_cb ⟨by decide, by decide⟩ (by decide) (by decide) (fun i hi => by simp only [own_b16]; rw [if_pos (by omega)]; congr 2; omega)) own_d_prog_70_method_2_code_109 own_pd___BI_J rfl rfl (by show 2 * 0 + _ ≤ _; exact Nat.le_of_eq rfl) (by decide) (by decide) (by decide) (by decide) ?_
  intro T13 h13 v13 X13 P13
  obtain ⟨rfl, eh13⟩ := P13
  rw [eh13] at X13
  show own_Wins p e below A T13 (mkF m 112 #[.val (.ref a), .val (.ref cb), .val (.long (16 : Int64)), .second, .val (.ref bms)] [(.long (own_be (own_bt ch) 8)), (.long zhs), (.ref a)])
  rw [(own_b16_be ch cl).1]
  show own_Wins p e below A T13 (mkF m 112 #[.val (.ref a), .val (.ref cb), .val (.long (16 : Int64)), .second, .val (.ref bms)] [(.long ch), (.long zhs), (.ref a)])
  refine own_lxor X13 own_d_prog_70_method_2_code_112 ?_
  refine own_aload X13 own_d_prog_70_method_2_code_113 rfl ?_
  refine own_getF X13 (host := "") (k := 8) (hw _ (List.mem_of_getElem? (i := 54) rfl)) F8_a rfl rfl own_d_prog_70_method_2_code_114 ?_
  intro T14 X14
  refine own_ipush X14 own_d_prog_70_method_2_code_117 ?_
  refine own_laload X14 F10_bl_ (i := 0) ⟨by decide, by decide⟩ rfl own_d_prog_70_method_2_code_118 ?_
  refine own_lxor X14 own_d_prog_70_method_2_code_119 ?_
  refine own_putF X14 (k := 5) (ty := .long) (hw _ (List.mem_of_getElem? (i := 64) rfl)) F8_a (own_laid_Gh hw) rfl (Or.inl (hw _ (List.mem_of_getElem? (i := 65) rfl))) (hw _ (List.mem_of_getElem? (i := 7) rfl)) (by decide) rfl rfl ga own_d_prog_70_method_2_code_120 ?_
  intro T15 h15 X15 W15 V15
  have K15 : Keep h0 h15 [a] := K7.wr W15 (Or.inl (by simp))
  replace V15 : own_Obj Z h15 a "com/example/libcachet/libcachet/Ghash" own_ns_Gh [(.long hi), (.long lo), (.ref bt_), (.int (0 : Int32)), (.long ll), (.long ((zhs ^^^ ch) ^^^ lh)), (.long sl), (.long (16 : Int64)), (.ref bl_), (.ref bp_), uq] := V15
  have F16_cb : own_AF Z h15 cb .byte 16 (own_b16 ch cl) := F9_cb.other W15 (Ne.symm hac)
  have F17_bl_ : own_AL Z h15 bl_ .long [(.long lh), (.long lo_)] := F10_bl_.other W15 (Ne.symm hal)
  have F18_bp_ : own_AL Z h15 bp_ .long [(.long wh), (.long wl)] := F11_bp_.other W15 (Ne.symm hap)
  have F19_bms : own_AL Z h15 bms .long [(.long zhs), (.long zls)] := V7.other W15 (Ne.symm ne_a_bms)
  refine own_aload X15 own_d_prog_70_method_2_code_123 rfl ?_
  refine own_aload X15 own_d_prog_70_method_2_code_124 rfl ?_
  refine own_ipush X15 own_d_prog_70_method_2_code_126 ?_
  refine own_laload X15 F19_bms (i := 1) ⟨by decide, by decide⟩ rfl own_d_prog_70_method_2_code_127 ?_
  refine own_aload X15 own_d_prog_70_method_2_code_128 rfl ?_
  refine own_ipush X15 own_d_prog_70_method_2_code_129 ?_
  refine own_callS X15 (y := (⟨"com/example/libcachet/libcachet/Ghash", "long8", "([BI)J"⟩ : MethodName)) [(.ref cb), (.int (8 : Int32))] [(.long zls), (.ref a)] 3 rfl (hw _ (List.mem_of_getElem? (i := 15) rfl)) (hw _ (List.mem_of_getElem? (i := 16) rfl)) (hw _ (List.mem_of_getElem? (i := 8) rfl)) (hw _ (List.mem_of_getElem? (i := 17) rfl)) (by decide) (own_long8 l Z a0 hw cb (8 : Int32) 8 16 (own_bt cl) _ h15 n0 X15.sz F16_cb ⟨by decide, by decide⟩ (by decide) (by decide) (fun i hi => by simp only [own_b16]; rw [if_neg (by omega)]; congr 2; omega)) own_d_prog_70_method_2_code_131 own_pd___BI_J rfl rfl (by show 2 * 0 + _ ≤ _; exact Nat.le_of_eq rfl) (by decide) (by decide) (by decide) (by decide) ?_
  intro T21 h21 v21 X21 P21
  obtain ⟨rfl, eh21⟩ := P21
  rw [eh21] at X21
  show own_Wins p e below A T21 (mkF m 134 #[.val (.ref a), .val (.ref cb), .val (.long (16 : Int64)), .second, .val (.ref bms)] [(.long (own_be (own_bt cl) 8)), (.long zls), (.ref a)])
  rw [(own_b16_be ch cl).2]
  show own_Wins p e below A T21 (mkF m 134 #[.val (.ref a), .val (.ref cb), .val (.long (16 : Int64)), .second, .val (.ref bms)] [(.long cl), (.long zls), (.ref a)])
  refine own_lxor X21 own_d_prog_70_method_2_code_134 ?_
  refine own_aload X21 own_d_prog_70_method_2_code_135 rfl ?_
  refine own_getF X21 (host := "") (k := 8) (hw _ (List.mem_of_getElem? (i := 54) rfl)) V15 rfl rfl own_d_prog_70_method_2_code_136 ?_
  intro T22 X22
  refine own_ipush X22 own_d_prog_70_method_2_code_139 ?_
  refine own_laload X22 F17_bl_ (i := 1) ⟨by decide, by decide⟩ rfl own_d_prog_70_method_2_code_140 ?_
  refine own_lxor X22 own_d_prog_70_method_2_code_141 ?_
  refine own_putF X22 (k := 6) (ty := .long) (hw _ (List.mem_of_getElem? (i := 66) rfl)) V15 (own_laid_Gh hw) rfl (Or.inl (hw _ (List.mem_of_getElem? (i := 67) rfl))) (hw _ (List.mem_of_getElem? (i := 7) rfl)) (by decide) rfl rfl ga own_d_prog_70_method_2_code_142 ?_
  intro T23 h23 X23 W23 V23
  have K23 : Keep h0 h23 [a] := K15.wr W23 (Or.inl (by simp))
  replace V23 : own_Obj Z h23 a "com/example/libcachet/libcachet/Ghash" own_ns_Gh [(.long hi), (.long lo), (.ref bt_), (.int (0 : Int32)), (.long ll), (.long ((zhs ^^^ ch) ^^^ lh)), (.long ((zls ^^^ cl) ^^^ lo_)), (.long (16 : Int64)), (.ref bl_), (.ref bp_), uq] := V23
  have F24_cb : own_AF Z h23 cb .byte 16 (own_b16 ch cl) := F16_cb.other W23 (Ne.symm hac)
  have F25_bl_ : own_AL Z h23 bl_ .long [(.long lh), (.long lo_)] := F17_bl_.other W23 (Ne.symm hal)
  have F26_bp_ : own_AL Z h23 bp_ .long [(.long wh), (.long wl)] := F18_bp_.other W23 (Ne.symm hap)
  have F27_bms : own_AL Z h23 bms .long [(.long zhs), (.long zls)] := F19_bms.other W23 (Ne.symm ne_a_bms)
  refine own_aload X23 own_d_prog_70_method_2_code_145 rfl ?_
  refine own_dup X23 own_d_prog_70_method_2_code_146 rfl ?_
  refine own_getF X23 (host := "") (k := 4) (hw _ (List.mem_of_getElem? (i := 68) rfl)) V23 rfl rfl own_d_prog_70_method_2_code_147 ?_
  intro T28 X28
  refine own_lload X28 own_d_prog_70_method_2_code_150 rfl ?_
  refine own_ladd X28 own_d_prog_70_method_2_code_151 ?_
  refine own_putF X28 (k := 4) (ty := .long) (hw _ (List.mem_of_getElem? (i := 68) rfl)) V23 (own_laid_Gh hw) rfl (Or.inl (hw _ (List.mem_of_getElem? (i := 69) rfl))) (hw _ (List.mem_of_getElem? (i := 7) rfl)) (by decide) rfl rfl ga own_d_prog_70_method_2_code_152 ?_
  intro T29 h29 X29 W29 V29
  have K29 : Keep h0 h29 [a] := K23.wr W29 (Or.inl (by simp))
  replace V29 : own_Obj Z h29 a "com/example/libcachet/libcachet/Ghash" own_ns_Gh [(.long hi), (.long lo), (.ref bt_), (.int (0 : Int32)), (.long (ll + (16 : Int64))), (.long ((zhs ^^^ ch) ^^^ lh)), (.long ((zls ^^^ cl) ^^^ lo_)), (.long (16 : Int64)), (.ref bl_), (.ref bp_), uq] := V29
  have F30_cb : own_AF Z h29 cb .byte 16 (own_b16 ch cl) := F24_cb.other W29 (Ne.symm hac)
  have F31_bl_ : own_AL Z h29 bl_ .long [(.long lh), (.long lo_)] := F25_bl_.other W29 (Ne.symm hal)
  have F32_bp_ : own_AL Z h29 bp_ .long [(.long wh), (.long wl)] := F26_bp_.other W29 (Ne.symm hap)
  have F33_bms : own_AL Z h29 bms .long [(.long zhs), (.long zls)] := F27_bms.other W29 (Ne.symm ne_a_bms)
  refine own_aload X29 own_d_prog_70_method_2_code_155 rfl ?_
  refine own_lload X29 own_d_prog_70_method_2_code_156 rfl ?_
  refine own_ldc2 X29 (hw _ (List.mem_of_getElem? (i := 56) rfl)) own_d_prog_70_method_2_code_157 ?_
  refine own_lrem X29 own_d_prog_70_method_2_code_160 (by decide) ?_
  refine own_lpush X29 own_d_prog_70_method_2_code_161 ?_
  refine own_lcmp X29 own_d_prog_70_method_2_code_162 ?_
  refine own_ifYes X29 own_d_prog_70_method_2_code_163 ((if0 _ _).trans (teq ((lw_eq ((16 : Int64) % (16 : Int64)) (0 : Int64)).2 (by decide))).1) ?_
  refine own_ipush X29 own_d_prog_70_method_2_code_170 ?_
  refine own_putF X29 (k := 3) (ty := .boolean) (hw _ (List.mem_of_getElem? (i := 49) rfl)) V29 (own_laid_Gh hw) rfl (Or.inl (hw _ (List.mem_of_getElem? (i := 50) rfl))) (hw _ (List.mem_of_getElem? (i := 7) rfl)) (by decide) rfl rfl ga own_d_prog_70_method_2_code_171 ?_
  intro T34 h34 X34 W34 V34
  have K34 : Keep h0 h34 [a] := K29.wr W34 (Or.inl (by simp))
  replace V34 : own_Obj Z h34 a "com/example/libcachet/libcachet/Ghash" own_ns_Gh [(.long hi), (.long lo), (.ref bt_), (.int (0 : Int32)), (.long (ll + (16 : Int64))), (.long ((zhs ^^^ ch) ^^^ lh)), (.long ((zls ^^^ cl) ^^^ lo_)), (.long (16 : Int64)), (.ref bl_), (.ref bp_), uq] := V34
  have F35_cb : own_AF Z h34 cb .byte 16 (own_b16 ch cl) := F30_cb.other W34 (Ne.symm hac)
  have F36_bl_ : own_AL Z h34 bl_ .long [(.long lh), (.long lo_)] := F31_bl_.other W34 (Ne.symm hal)
  have F37_bp_ : own_AL Z h34 bp_ .long [(.long wh), (.long wl)] := F32_bp_.other W34 (Ne.symm hap)
  have F38_bms : own_AL Z h34 bms .long [(.long zhs), (.long zls)] := F33_bms.other W34 (Ne.symm ne_a_bms)
  exact own_ret0 X34 hret fin (by decide) (by decide) ⟨((zhs ^^^ ch) ^^^ lh), ((zls ^^^ cl) ^^^ lo_), rfl, K34, V34, by rw [own_pk_xor, own_pk_xor, hzs]⟩ own_d_prog_70_method_2_code_174
set_option maxRecDepth 65536 in
set_option maxHeartbeats 40000000 in
theorem own_finish (l : Launch) (Z : State) (a0 : Array Value) (hw : ∀ d ∈ tables_1, d.before a0 Z = true) (a : Addr) (hi lo ll sh sl : Int64) (u_ivLengthTerm u_ended u_termLength u_lengthTerm u_power u_inverseSquare : Value) (h0 : Heap) (n0 : Nat) (Z0 : n0 ≤ h0.size) (O : own_Obj Z h0 a "com/example/libcachet/libcachet/Ghash" own_ns_Gh [(.long hi), (.long lo), u_ivLengthTerm, u_ended, (.long ll), (.long sh), (.long sl), u_termLength, u_lengthTerm, u_power, u_inverseSquare]) :
    own_Con l Z n0 (⟨"com/example/libcachet/libcachet/Ghash", "finish", "()[B"⟩ : MethodName) prog_70_method_4_code 2 (some (.array .byte)) ({ frames := 1, cells := 2, slots := 18, locals := 35 } : Room) [] #[(.ref a)] h0 (fun v h' => ∃ (b : Addr) (oh ol : Int64), v = some (.ref b) ∧ Keep h0 h' [] ∧ h0.size ≤ b ∧ n0 ≤ b ∧ own_AF Z h' b .byte 16 (own_b16 oh ol) ∧ own_pk oh ol = own_pk sh sl ^^^ own_gM (own_pk 0 (ll * (8 : Int64))) (own_pk hi lo)) := by
  refine own_enter (plainFor_of_name own_pn_com_example_libcachet_libcachet_Ghash) Z0 #[.val (.ref a), .unset] (fun m => by first | (simp [entryFrame, mkF, argsToLocals, Value.category]; done) | rfl) ?_
  intro p e s m below meth c T A X0 hret hnm fin
  refine own_lpush X0 own_d_prog_70_method_4_code_0 ?_
  refine own_aload X0 own_d_prog_70_method_4_code_1 rfl ?_
  refine own_getF X0 (host := "") (k := 4) (hw _ (List.mem_of_getElem? (i := 68) rfl)) O rfl rfl own_d_prog_70_method_4_code_2 ?_
  intro T1 X1
  refine own_ldc2 X1 (hw _ (List.mem_of_getElem? (i := 53) rfl)) own_d_prog_70_method_4_code_5 ?_
  refine own_lmul X1 own_d_prog_70_method_4_code_8 ?_
  refine own_aload X1 own_d_prog_70_method_4_code_9 rfl ?_
  refine own_getF X1 (host := "") (k := 0) (hw _ (List.mem_of_getElem? (i := 18) rfl)) O rfl rfl own_d_prog_70_method_4_code_10 ?_
  intro T2 X2
  refine own_aload X2 own_d_prog_70_method_4_code_13 rfl ?_
  refine own_getF X2 (host := "") (k := 1) (hw _ (List.mem_of_getElem? (i := 20) rfl)) O rfl rfl own_d_prog_70_method_4_code_14 ?_
  intro T3 X3
  refine own_callS X3 (y := (⟨"com/example/libcachet/libcachet/Ghash", "multiply", "(JJJJ)[J"⟩ : MethodName)) [(.long (0 : Int64)), (.long (ll * (8 : Int64))), (.long hi), (.long lo)] [] 0 rfl (hw _ (List.mem_of_getElem? (i := 23) rfl)) (hw _ (List.mem_of_getElem? (i := 24) rfl)) (hw _ (List.mem_of_getElem? (i := 8) rfl)) (hw _ (List.mem_of_getElem? (i := 25) rfl)) (by decide) (own_multiply l Z a0 hw (0 : Int64) (ll * (8 : Int64)) hi lo h0 n0 X3.sz) own_d_prog_70_method_4_code_17 own_pd__JJJJ__J rfl rfl (by show 2 * 0 + _ ≤ _; exact Nat.le_of_eq rfl) (by decide) (by decide) (by decide) (by decide) ?_
  intro T4 h4 v4 X4 P4
  obtain ⟨bmf, zhf, zlf, rfl, Kc4, sz4, ga_bmf, V4, hzf⟩ := P4
  have ne_a_bmf : a ≠ bmf := Nat.ne_of_lt (Nat.lt_of_lt_of_le O.lt sz4)
  have sz_bmf : h0.size ≤ bmf := Nat.le_trans (Keep.refl h0 []).1 sz4
  have K4 : Keep h0 h4 [] := (Keep.refl h0 []).trans Kc4 all0
  have F5_a : own_Obj Z h4 a "com/example/libcachet/libcachet/Ghash" own_ns_Gh [(.long hi), (.long lo), u_ivLengthTerm, u_ended, (.long ll), (.long sh), (.long sl), u_termLength, u_lengthTerm, u_power, u_inverseSquare] := O.keep Kc4 nin0
  show own_Wins p e below A T4 (mkF m 20 #[.val (.ref a), .unset] [(.ref bmf)])
  refine own_astore X4 #[.val (.ref a), .val (.ref bmf)] own_d_prog_70_method_4_code_20 rfl ?_
  refine own_aload X4 own_d_prog_70_method_4_code_21 rfl ?_
  refine own_getF X4 (host := "") (k := 5) (hw _ (List.mem_of_getElem? (i := 64) rfl)) F5_a rfl rfl own_d_prog_70_method_4_code_22 ?_
  intro T6 X6
  refine own_aload X6 own_d_prog_70_method_4_code_25 rfl ?_
  refine own_ipush X6 own_d_prog_70_method_4_code_26 ?_
  refine own_laload X6 V4 (i := 0) ⟨by decide, by decide⟩ rfl own_d_prog_70_method_4_code_27 ?_
  refine own_lxor X6 own_d_prog_70_method_4_code_28 ?_
  refine own_aload X6 own_d_prog_70_method_4_code_29 rfl ?_
  refine own_getF X6 (host := "") (k := 6) (hw _ (List.mem_of_getElem? (i := 66) rfl)) F5_a rfl rfl own_d_prog_70_method_4_code_30 ?_
  intro T7 X7
  refine own_aload X7 own_d_prog_70_method_4_code_33 rfl ?_
  refine own_ipush X7 own_d_prog_70_method_4_code_34 ?_
  refine own_laload X7 V4 (i := 1) ⟨by decide, by decide⟩ rfl own_d_prog_70_method_4_code_35 ?_
  refine own_lxor X7 own_d_prog_70_method_4_code_36 ?_
  refine own_callS X7 (y := (⟨"com/example/libcachet/libcachet/Ghash", "bytes", "(JJ)[B"⟩ : MethodName)) [(.long (sh ^^^ zhf)), (.long (sl ^^^ zlf))] [] 0 rfl (hw _ (List.mem_of_getElem? (i := 40) rfl)) (hw _ (List.mem_of_getElem? (i := 41) rfl)) (hw _ (List.mem_of_getElem? (i := 8) rfl)) (hw _ (List.mem_of_getElem? (i := 42) rfl)) (by decide) (own_bytes l Z a0 hw (sh ^^^ zhf) (sl ^^^ zlf) h4 n0 X7.sz) own_d_prog_70_method_4_code_37 own_pd__JJ__B rfl rfl (by show 2 * 0 + _ ≤ _; exact Nat.le_of_eq rfl) (by decide) (by decide) (by decide) (by decide) ?_
  intro T8 h8 v8 X8 P8
  obtain ⟨byf, rfl, Kc8, sz8, ga_byf, V8⟩ := P8
  have ne_a_byf : a ≠ byf := Nat.ne_of_lt (Nat.lt_of_lt_of_le F5_a.lt sz8)
  have ne_bmf_byf : bmf ≠ byf := Nat.ne_of_lt (Nat.lt_of_lt_of_le V4.lt sz8)
  have sz_byf : h0.size ≤ byf := Nat.le_trans K4.1 sz8
  have K8 : Keep h0 h8 [] := K4.trans Kc8 all0
  have F9_a : own_Obj Z h8 a "com/example/libcachet/libcachet/Ghash" own_ns_Gh [(.long hi), (.long lo), u_ivLengthTerm, u_ended, (.long ll), (.long sh), (.long sl), u_termLength, u_lengthTerm, u_power, u_inverseSquare] := F5_a.keep Kc8 nin0
  have F10_bmf : own_AL Z h8 bmf .long [(.long zhf), (.long zlf)] := V4.keep Kc8 nin0
  show own_Wins p e below A T8 (mkF m 40 #[.val (.ref a), .val (.ref bmf)] [(.ref byf)])
  exact own_retA X8 hret rfl rfl fin (by decide) (by decide) ⟨byf, (sh ^^^ zhf), (sl ^^^ zlf), rfl, K8, sz_byf, ga_byf, V8, by rw [own_pk_xor, hzf]⟩ own_d_prog_70_method_4_code_40
set_option maxRecDepth 65536 in
set_option maxHeartbeats 40000000 in
theorem own_law (l : Launch) (Z : State) (a0 : Array Value) (hw : ∀ d ∈ tables_1, d.before a0 Z = true) (i0 i1 i2 i3 i4 : Int64) (i5 : Int32) (h0 : Heap) (n0 : Nat) (Z0 : n0 ≤ h0.size)  :
    own_Con l Z n0 x code maxLocals ret room_1 tables_1 #[(.long i0), (.long i1), (.long i2), (.long i3), (.long i4), (.int i5)] h0 (fun v _ => v = some (.int 1)) := by
  refine own_enter (plainFor_of_name own_pn_com_example_libcachet_libcachet_GhashIvForPinLaw) Z0 #[.val (.long i0), .second, .val (.long i1), .second, .val (.long i2), .second, .val (.long i3), .second, .val (.long i4), .second, .val (.int i5), .unset, .unset, .unset, .unset, .unset, .unset, .unset, .unset, .unset, .unset, .unset, .unset] (fun m => by first | (simp [entryFrame, mkF, argsToLocals, Value.category, maxLocals]; done) | rfl) ?_
  intro p e s m below meth c T A X0 hret hnm fin
  refine own_lload X0 own_d_code_0 rfl ?_
  refine own_lstore X0 #[.val (.long i0), .second, .val (.long i1), .second, .val (.long i2), .second, .val (.long i3), .second, .val (.long i4), .second, .val (.int i5), .val (.long i0), .second, .unset, .unset, .unset, .unset, .unset, .unset, .unset, .unset, .unset, .unset] own_d_code_1 rfl ?_
  refine own_lload X0 own_d_code_3 rfl ?_
  refine own_lload X0 own_d_code_4 rfl ?_
  refine own_lor X0 own_d_code_5 ?_
  refine own_lpush X0 own_d_code_6 ?_
  refine own_lcmp X0 own_d_code_7 ?_
  suffices J1 : ∀ h1 : Int64, own_pk h1 i1 ≠ 0 → own_Wins p e below A T (mkF m 16 #[.val (.long i0), .second, .val (.long i1), .second, .val (.long i2), .second, .val (.long i3), .second, .val (.long i4), .second, .val (.int i5), .val (.long h1), .second, .unset, .unset, .unset, .unset, .unset, .unset, .unset, .unset, .unset, .unset] []) by
    by_cases c0 : (i0 ||| i1) = (0 : Int64)
    · skip
      refine own_ifNo X0 own_d_code_8 ((if0 _ _).trans (teq ((lw_eq (i0 ||| i1) (0 : Int64)).2 c0)).2) ?_
      refine own_ldc2 X0 (hw _ (List.mem_of_getElem? (i := 78) rfl)) own_d_code_11 ?_
      refine own_lstore X0 #[.val (.long i0), .second, .val (.long i1), .second, .val (.long i2), .second, .val (.long i3), .second, .val (.long i4), .second, .val (.int i5), .val (.long (-9223372036854775808 : Int64)), .second, .unset, .unset, .unset, .unset, .unset, .unset, .unset, .unset, .unset, .unset] own_d_code_14 rfl ?_
      exact J1 _ (own_nz1 i1)
    · skip
      refine own_ifYes X0 own_d_code_8 ((if0 _ _).trans (feq (mt (lw_eq (i0 ||| i1) (0 : Int64)).1 c0)).2) ?_
      exact J1 _ (own_nz2 i0 i1 c0)
  intro h1 hnz
  refine own_lload X0 own_d_code_16 rfl ?_
  refine own_lload X0 own_d_code_18 rfl ?_
  refine own_callS X0 (y := (⟨"com/example/libcachet/libcachet/GhashIvForPinLaw", "block", "(JJ)[B"⟩ : MethodName)) [(.long h1), (.long i1)] [] 0 rfl (hw _ (List.mem_of_getElem? (i := 0) rfl)) (hw _ (List.mem_of_getElem? (i := 1) rfl)) (hw _ (List.mem_of_getElem? (i := 2) rfl)) (hw _ (List.mem_of_getElem? (i := 3) rfl)) (by decide) (own_block l Z a0 hw h1 i1 h0 n0 X0.sz) own_d_code_19 own_pd__JJ__B rfl rfl (by show 2 * 0 + _ ≤ _; exact Nat.le_of_eq rfl) (by decide) (by decide) (by decide) (by decide) ?_
  intro T2 h2 v2 X2 P2
  obtain ⟨bk0, rfl, Kc2, sz2, ga_bk0, V2⟩ := P2
  show own_Wins p e below A T2 (mkF m 22 #[.val (.long i0), .second, .val (.long i1), .second, .val (.long i2), .second, .val (.long i3), .second, .val (.long i4), .second, .val (.int i5), .val (.long h1), .second, .unset, .unset, .unset, .unset, .unset, .unset, .unset, .unset, .unset, .unset] [(.ref bk0)])
  refine own_astore X2 #[.val (.long i0), .second, .val (.long i1), .second, .val (.long i2), .second, .val (.long i3), .second, .val (.long i4), .second, .val (.int i5), .val (.long h1), .second, .val (.ref bk0), .unset, .unset, .unset, .unset, .unset, .unset, .unset, .unset, .unset] own_d_code_22 rfl ?_
  refine own_lload X2 own_d_code_24 rfl ?_
  refine own_lload X2 own_d_code_26 rfl ?_
  refine own_callS X2 (y := (⟨"com/example/libcachet/libcachet/GhashIvForPinLaw", "block", "(JJ)[B"⟩ : MethodName)) [(.long i2), (.long i3)] [] 0 rfl (hw _ (List.mem_of_getElem? (i := 0) rfl)) (hw _ (List.mem_of_getElem? (i := 1) rfl)) (hw _ (List.mem_of_getElem? (i := 2) rfl)) (hw _ (List.mem_of_getElem? (i := 3) rfl)) (by decide) (own_block l Z a0 hw i2 i3 h2 n0 X2.sz) own_d_code_28 own_pd__JJ__B rfl rfl (by show 2 * 0 + _ ≤ _; exact Nat.le_of_eq rfl) (by decide) (by decide) (by decide) (by decide) ?_
  intro T3 h3 v3 X3 P3
  obtain ⟨bk1, rfl, Kc3, sz3, ga_bk1, V3⟩ := P3
  have ne_bk0_bk1 : bk0 ≠ bk1 := Nat.ne_of_lt (Nat.lt_of_lt_of_le V2.lt sz3)
  have F4_bk0 : own_AF Z h3 bk0 .byte 16 (own_b16 h1 i1) := V2.keep Kc3 nin0
  show own_Wins p e below A T3 (mkF m 31 #[.val (.long i0), .second, .val (.long i1), .second, .val (.long i2), .second, .val (.long i3), .second, .val (.long i4), .second, .val (.int i5), .val (.long h1), .second, .val (.ref bk0), .unset, .unset, .unset, .unset, .unset, .unset, .unset, .unset, .unset] [(.ref bk1)])
  refine own_astore X3 #[.val (.long i0), .second, .val (.long i1), .second, .val (.long i2), .second, .val (.long i3), .second, .val (.long i4), .second, .val (.int i5), .val (.long h1), .second, .val (.ref bk0), .val (.ref bk1), .unset, .unset, .unset, .unset, .unset, .unset, .unset, .unset] own_d_code_31 rfl ?_
  refine own_lload X3 own_d_code_33 rfl ?_
  refine own_lload X3 own_d_code_35 rfl ?_
  refine own_lload X3 own_d_code_37 rfl ?_
  refine own_lxor X3 own_d_code_38 ?_
  refine own_callS X3 (y := (⟨"com/example/libcachet/libcachet/GhashIvForPinLaw", "block", "(JJ)[B"⟩ : MethodName)) [(.long i4), (.long (i3 ^^^ i0))] [] 0 rfl (hw _ (List.mem_of_getElem? (i := 0) rfl)) (hw _ (List.mem_of_getElem? (i := 1) rfl)) (hw _ (List.mem_of_getElem? (i := 2) rfl)) (hw _ (List.mem_of_getElem? (i := 3) rfl)) (by decide) (own_block l Z a0 hw i4 (i3 ^^^ i0) h3 n0 X3.sz) own_d_code_39 own_pd__JJ__B rfl rfl (by show 2 * 0 + _ ≤ _; exact Nat.le_of_eq rfl) (by decide) (by decide) (by decide) (by decide) ?_
  intro T5 h5 v5 X5 P5
  obtain ⟨bk2, rfl, Kc5, sz5, ga_bk2, V5⟩ := P5
  have ne_bk0_bk2 : bk0 ≠ bk2 := Nat.ne_of_lt (Nat.lt_of_lt_of_le F4_bk0.lt sz5)
  have ne_bk1_bk2 : bk1 ≠ bk2 := Nat.ne_of_lt (Nat.lt_of_lt_of_le V3.lt sz5)
  have F6_bk0 : own_AF Z h5 bk0 .byte 16 (own_b16 h1 i1) := F4_bk0.keep Kc5 nin0
  have F7_bk1 : own_AF Z h5 bk1 .byte 16 (own_b16 i2 i3) := V3.keep Kc5 nin0
  show own_Wins p e below A T5 (mkF m 42 #[.val (.long i0), .second, .val (.long i1), .second, .val (.long i2), .second, .val (.long i3), .second, .val (.long i4), .second, .val (.int i5), .val (.long h1), .second, .val (.ref bk0), .val (.ref bk1), .unset, .unset, .unset, .unset, .unset, .unset, .unset, .unset] [(.ref bk2)])
  refine own_astore X5 #[.val (.long i0), .second, .val (.long i1), .second, .val (.long i2), .second, .val (.long i3), .second, .val (.long i4), .second, .val (.int i5), .val (.long h1), .second, .val (.ref bk0), .val (.ref bk1), .val (.ref bk2), .unset, .unset, .unset, .unset, .unset, .unset, .unset] own_d_code_42 rfl ?_
  refine own_lpush X5 own_d_code_44 ?_
  refine own_ldc2 X5 (hw _ (List.mem_of_getElem? (i := 5) rfl)) own_d_code_45 ?_
  refine own_callS X5 (y := (⟨"com/example/libcachet/libcachet/GhashIvForPinLaw", "block", "(JJ)[B"⟩ : MethodName)) [(.long (0 : Int64)), (.long (128 : Int64))] [] 0 rfl (hw _ (List.mem_of_getElem? (i := 0) rfl)) (hw _ (List.mem_of_getElem? (i := 1) rfl)) (hw _ (List.mem_of_getElem? (i := 2) rfl)) (hw _ (List.mem_of_getElem? (i := 3) rfl)) (by decide) (own_block l Z a0 hw (0 : Int64) (128 : Int64) h5 n0 X5.sz) own_d_code_48 own_pd__JJ__B rfl rfl (by show 2 * 0 + _ ≤ _; exact Nat.le_of_eq rfl) (by decide) (by decide) (by decide) (by decide) ?_
  intro T8 h8 v8 X8 P8
  obtain ⟨bk3, rfl, Kc8, sz8, ga_bk3, V8⟩ := P8
  have ne_bk0_bk3 : bk0 ≠ bk3 := Nat.ne_of_lt (Nat.lt_of_lt_of_le F6_bk0.lt sz8)
  have ne_bk1_bk3 : bk1 ≠ bk3 := Nat.ne_of_lt (Nat.lt_of_lt_of_le F7_bk1.lt sz8)
  have ne_bk2_bk3 : bk2 ≠ bk3 := Nat.ne_of_lt (Nat.lt_of_lt_of_le V5.lt sz8)
  have F9_bk0 : own_AF Z h8 bk0 .byte 16 (own_b16 h1 i1) := F6_bk0.keep Kc8 nin0
  have F10_bk1 : own_AF Z h8 bk1 .byte 16 (own_b16 i2 i3) := F7_bk1.keep Kc8 nin0
  have F11_bk2 : own_AF Z h8 bk2 .byte 16 (own_b16 i4 (i3 ^^^ i0)) := V5.keep Kc8 nin0
  show own_Wins p e below A T8 (mkF m 51 #[.val (.long i0), .second, .val (.long i1), .second, .val (.long i2), .second, .val (.long i3), .second, .val (.long i4), .second, .val (.int i5), .val (.long h1), .second, .val (.ref bk0), .val (.ref bk1), .val (.ref bk2), .unset, .unset, .unset, .unset, .unset, .unset, .unset] [(.ref bk3)])
  refine own_astore X8 #[.val (.long i0), .second, .val (.long i1), .second, .val (.long i2), .second, .val (.long i3), .second, .val (.long i4), .second, .val (.int i5), .val (.long h1), .second, .val (.ref bk0), .val (.ref bk1), .val (.ref bk2), .val (.ref bk3), .unset, .unset, .unset, .unset, .unset, .unset] own_d_code_51 rfl ?_
  refine own_lpush X8 own_d_code_53 ?_
  refine own_lpush X8 own_d_code_54 ?_
  refine own_callS X8 (y := (⟨"com/example/libcachet/libcachet/GhashIvForPinLaw", "block", "(JJ)[B"⟩ : MethodName)) [(.long (0 : Int64)), (.long (0 : Int64))] [] 0 rfl (hw _ (List.mem_of_getElem? (i := 0) rfl)) (hw _ (List.mem_of_getElem? (i := 1) rfl)) (hw _ (List.mem_of_getElem? (i := 2) rfl)) (hw _ (List.mem_of_getElem? (i := 3) rfl)) (by decide) (own_block l Z a0 hw (0 : Int64) (0 : Int64) h8 n0 X8.sz) own_d_code_55 own_pd__JJ__B rfl rfl (by show 2 * 0 + _ ≤ _; exact Nat.le_of_eq rfl) (by decide) (by decide) (by decide) (by decide) ?_
  intro T12 h12 v12 X12 P12
  obtain ⟨bk4, rfl, Kc12, sz12, ga_bk4, V12⟩ := P12
  have ne_bk0_bk4 : bk0 ≠ bk4 := Nat.ne_of_lt (Nat.lt_of_lt_of_le F9_bk0.lt sz12)
  have ne_bk1_bk4 : bk1 ≠ bk4 := Nat.ne_of_lt (Nat.lt_of_lt_of_le F10_bk1.lt sz12)
  have ne_bk2_bk4 : bk2 ≠ bk4 := Nat.ne_of_lt (Nat.lt_of_lt_of_le F11_bk2.lt sz12)
  have ne_bk3_bk4 : bk3 ≠ bk4 := Nat.ne_of_lt (Nat.lt_of_lt_of_le V8.lt sz12)
  have F13_bk0 : own_AF Z h12 bk0 .byte 16 (own_b16 h1 i1) := F9_bk0.keep Kc12 nin0
  have F14_bk1 : own_AF Z h12 bk1 .byte 16 (own_b16 i2 i3) := F10_bk1.keep Kc12 nin0
  have F15_bk2 : own_AF Z h12 bk2 .byte 16 (own_b16 i4 (i3 ^^^ i0)) := F11_bk2.keep Kc12 nin0
  have F16_bk3 : own_AF Z h12 bk3 .byte 16 (own_b16 (0 : Int64) (128 : Int64)) := V8.keep Kc12 nin0
  show own_Wins p e below A T12 (mkF m 58 #[.val (.long i0), .second, .val (.long i1), .second, .val (.long i2), .second, .val (.long i3), .second, .val (.long i4), .second, .val (.int i5), .val (.long h1), .second, .val (.ref bk0), .val (.ref bk1), .val (.ref bk2), .val (.ref bk3), .unset, .unset, .unset, .unset, .unset, .unset] [(.ref bk4)])
  refine own_astore X12 #[.val (.long i0), .second, .val (.long i1), .second, .val (.long i2), .second, .val (.long i3), .second, .val (.long i4), .second, .val (.int i5), .val (.long h1), .second, .val (.ref bk0), .val (.ref bk1), .val (.ref bk2), .val (.ref bk3), .val (.ref bk4), .unset, .unset, .unset, .unset, .unset] own_d_code_58 rfl ?_
  refine own_new X12 (hw _ (List.mem_of_getElem? (i := 6) rfl)) (hw _ (List.mem_of_getElem? (i := 7) rfl)) (hw _ (List.mem_of_getElem? (i := 8) rfl)) (own_laid_Gh hw) [(.long (0 : Int64)), (.long (0 : Int64)), .null, (.int (0 : Int32)), (.long (0 : Int64)), (.long (0 : Int64)), (.long (0 : Int64)), (.long (0 : Int64)), .null, .null, .null] (by decide) own_d_code_60 (by decide) (by decide) ?_
  intro T17 h17 b17 X17 E17 g17 ga_b17 V17
  have ne_bk0_b17 : bk0 ≠ b17 := by rw [g17]; exact Nat.ne_of_lt F13_bk0.lt
  have ne_bk1_b17 : bk1 ≠ b17 := by rw [g17]; exact Nat.ne_of_lt F14_bk1.lt
  have ne_bk2_b17 : bk2 ≠ b17 := by rw [g17]; exact Nat.ne_of_lt F15_bk2.lt
  have ne_bk3_b17 : bk3 ≠ b17 := by rw [g17]; exact Nat.ne_of_lt F16_bk3.lt
  have ne_bk4_b17 : bk4 ≠ b17 := by rw [g17]; exact Nat.ne_of_lt V12.lt
  have F18_bk0 : own_AF Z h17 bk0 .byte 16 (own_b16 h1 i1) := F13_bk0.ext E17
  have F19_bk1 : own_AF Z h17 bk1 .byte 16 (own_b16 i2 i3) := F14_bk1.ext E17
  have F20_bk2 : own_AF Z h17 bk2 .byte 16 (own_b16 i4 (i3 ^^^ i0)) := F15_bk2.ext E17
  have F21_bk3 : own_AF Z h17 bk3 .byte 16 (own_b16 (0 : Int64) (128 : Int64)) := F16_bk3.ext E17
  have F22_bk4 : own_AF Z h17 bk4 .byte 16 (own_b16 (0 : Int64) (0 : Int64)) := V12.ext E17
  refine own_dup X17 own_d_code_63 rfl ?_
  refine own_aload X17 own_d_code_64 rfl ?_
  refine own_callI X17 (y := (⟨"com/example/libcachet/libcachet/Ghash", "<init>", "([B)V"⟩ : MethodName)) [(.ref bk0)] [(.ref b17)] 1 (a := b17) rfl rfl (hw _ (List.mem_of_getElem? (i := 9) rfl)) (hw _ (List.mem_of_getElem? (i := 10) rfl)) (hw _ (List.mem_of_getElem? (i := 8) rfl)) (hw _ (List.mem_of_getElem? (i := 11) rfl)) (by decide) (own_ctor l Z a0 hw b17 bk0 h1 i1 h17 n0 X17.sz V17 ga_b17 (Ne.symm ne_bk0_b17) F18_bk0) own_d_code_66 own_pd___B_V rfl rfl (by show 2 * 0 + _ ≤ _; exact Nat.le_of_eq rfl) (by decide) (by decide) (by decide) (by decide) ?_
  intro T23 h23 v23 X23 P23
  obtain ⟨btg, thg, tlg, rfl, Kc23, U23, Vtg, sztg, gatg, htg⟩ := P23
  have ne_bk0_btg : bk0 ≠ btg := Nat.ne_of_lt (Nat.lt_of_lt_of_le F18_bk0.lt sztg)
  have ne_bk1_btg : bk1 ≠ btg := Nat.ne_of_lt (Nat.lt_of_lt_of_le F19_bk1.lt sztg)
  have ne_bk2_btg : bk2 ≠ btg := Nat.ne_of_lt (Nat.lt_of_lt_of_le F20_bk2.lt sztg)
  have ne_bk3_btg : bk3 ≠ btg := Nat.ne_of_lt (Nat.lt_of_lt_of_le F21_bk3.lt sztg)
  have ne_bk4_btg : bk4 ≠ btg := Nat.ne_of_lt (Nat.lt_of_lt_of_le F22_bk4.lt sztg)
  have ne_b17_btg : b17 ≠ btg := Nat.ne_of_lt (Nat.lt_of_lt_of_le V17.lt sztg)
  have F24_bk0 : own_AF Z h23 bk0 .byte 16 (own_b16 h1 i1) := F18_bk0.keep Kc23 (ninS (Ne.symm (Ne.symm ne_bk0_b17)) nin0)
  have F25_bk1 : own_AF Z h23 bk1 .byte 16 (own_b16 i2 i3) := F19_bk1.keep Kc23 (ninS (Ne.symm (Ne.symm ne_bk1_b17)) nin0)
  have F26_bk2 : own_AF Z h23 bk2 .byte 16 (own_b16 i4 (i3 ^^^ i0)) := F20_bk2.keep Kc23 (ninS (Ne.symm (Ne.symm ne_bk2_b17)) nin0)
  have F27_bk3 : own_AF Z h23 bk3 .byte 16 (own_b16 (0 : Int64) (128 : Int64)) := F21_bk3.keep Kc23 (ninS (Ne.symm (Ne.symm ne_bk3_b17)) nin0)
  have F28_bk4 : own_AF Z h23 bk4 .byte 16 (own_b16 (0 : Int64) (0 : Int64)) := F22_bk4.keep Kc23 (ninS (Ne.symm (Ne.symm ne_bk4_b17)) nin0)
  show own_Wins p e below A T23 (mkF m 69 #[.val (.long i0), .second, .val (.long i1), .second, .val (.long i2), .second, .val (.long i3), .second, .val (.long i4), .second, .val (.int i5), .val (.long h1), .second, .val (.ref bk0), .val (.ref bk1), .val (.ref bk2), .val (.ref bk3), .val (.ref bk4), .unset, .unset, .unset, .unset, .unset] [(.ref b17)])
  refine own_astore X23 #[.val (.long i0), .second, .val (.long i1), .second, .val (.long i2), .second, .val (.long i3), .second, .val (.long i4), .second, .val (.int i5), .val (.long h1), .second, .val (.ref bk0), .val (.ref bk1), .val (.ref bk2), .val (.ref bk3), .val (.ref bk4), .val (.ref b17), .unset, .unset, .unset, .unset] own_d_code_69 rfl ?_
  refine own_iload X23 own_d_code_71 rfl ?_
  refine own_ipush X23 own_d_code_73 ?_
  refine own_iand X23 own_d_code_74 ?_
  suffices J29 : ∀ (Tv : State) (hv : Heap) (iv bi : Addr) (oh ol : Int64), own_St p l e room_1 s m #[(.long i0), (.long i1), (.long i2), (.long i3), (.long i4), (.int i5)] below meth c Z n0 code maxLocals "com/example/libcachet/libcachet/GhashIvForPinLaw" Tv hv 266 639 → own_AF Z hv bk0 .byte 16 (own_b16 h1 i1) → own_AF Z hv bk3 .byte 16 (own_b16 (0 : Int64) (128 : Int64)) → own_AF Z hv bk4 .byte 16 (own_b16 (0 : Int64) (0 : Int64)) → own_Obj Z hv b17 "com/example/libcachet/libcachet/Ghash" own_ns_Gh [(.long h1), (.long i1), (.ref btg), (.int (0 : Int32)), (.long (0 : Int64)), (.long (0 : Int64)), (.long (0 : Int64)), (.long (0 : Int64)), .null, .null, (.ref bi)] → own_AF Z hv iv .byte 16 (own_b16 oh ol) → own_pk oh ol = own_gM (own_pk i2 i3 ^^^ own_pk thg tlg) (own_gInv (own_gQ (own_pk h1 i1))) → b17 ≠ iv → own_Wins p e below A Tv (mkF m 93 #[.val (.long i0), .second, .val (.long i1), .second, .val (.long i2), .second, .val (.long i3), .second, .val (.long i4), .second, .val (.int i5), .val (.long h1), .second, .val (.ref bk0), .val (.ref bk1), .val (.ref bk2), .val (.ref bk3), .val (.ref bk4), .val (.ref b17), .unset, .unset, .unset, .unset] [(.ref iv)]) by
    by_cases cf : (i5 &&& (1 : Int32)) = (0 : Int32)
    · skip
      refine own_ifYes X23 own_d_code_75 ((if0 _ _).trans (teq cf).1) ?_
      refine own_aload X23 own_d_code_86 rfl ?_
      refine own_aload X23 own_d_code_88 rfl ?_
      refine own_callV X23 (y := (⟨"com/example/libcachet/libcachet/Ghash", "ivFor", "([B)[B"⟩ : MethodName)) [(.ref bk1)] [] 0 (a := b17) rfl (hw _ (List.mem_of_getElem? (i := 30) rfl)) (hw _ (List.mem_of_getElem? (i := 31) rfl)) (hw _ (List.mem_of_getElem? (i := 33) rfl)) (hw _ (List.mem_of_getElem? (i := 32) rfl)) (hw _ (List.mem_of_getElem? (i := 8) rfl)) (hw _ (List.mem_of_getElem? (i := 34) rfl)) (by decide) U23.1 (own_ivFor1 l Z a0 hw b17 bk1 btg h1 i1 i2 i3 thg tlg h23 n0 X23.sz U23 ga_b17 (Ne.symm ne_bk1_b17) (Ne.symm (Ne.symm ne_b17_btg)) F25_bk1 Vtg) own_d_code_90 own_pd___B__B rfl rfl (by show 2 * 0 + _ ≤ _; exact Nat.le_of_eq rfl) (by decide) (by decide) (by decide) (by decide) ?_
      intro T30 h30 v30 X30 P30
      obtain ⟨ivA, bi, ohA, olA, vh, vl, rfl, Kc30, U30, Vi, szi, gai, szv, gav, VvA, hvi, hovA⟩ := P30
      have ne_bk0_bi : bk0 ≠ bi := Nat.ne_of_lt (Nat.lt_of_lt_of_le F24_bk0.lt szi)
      have ne_bk0_ivA : bk0 ≠ ivA := Nat.ne_of_lt (Nat.lt_of_lt_of_le F24_bk0.lt szv)
      have ne_bk1_bi : bk1 ≠ bi := Nat.ne_of_lt (Nat.lt_of_lt_of_le F25_bk1.lt szi)
      have ne_bk1_ivA : bk1 ≠ ivA := Nat.ne_of_lt (Nat.lt_of_lt_of_le F25_bk1.lt szv)
      have ne_bk2_bi : bk2 ≠ bi := Nat.ne_of_lt (Nat.lt_of_lt_of_le F26_bk2.lt szi)
      have ne_bk2_ivA : bk2 ≠ ivA := Nat.ne_of_lt (Nat.lt_of_lt_of_le F26_bk2.lt szv)
      have ne_bk3_bi : bk3 ≠ bi := Nat.ne_of_lt (Nat.lt_of_lt_of_le F27_bk3.lt szi)
      have ne_bk3_ivA : bk3 ≠ ivA := Nat.ne_of_lt (Nat.lt_of_lt_of_le F27_bk3.lt szv)
      have ne_bk4_bi : bk4 ≠ bi := Nat.ne_of_lt (Nat.lt_of_lt_of_le F28_bk4.lt szi)
      have ne_bk4_ivA : bk4 ≠ ivA := Nat.ne_of_lt (Nat.lt_of_lt_of_le F28_bk4.lt szv)
      have ne_b17_bi : b17 ≠ bi := Nat.ne_of_lt (Nat.lt_of_lt_of_le U23.lt szi)
      have ne_b17_ivA : b17 ≠ ivA := Nat.ne_of_lt (Nat.lt_of_lt_of_le U23.lt szv)
      have ne_btg_bi : btg ≠ bi := Nat.ne_of_lt (Nat.lt_of_lt_of_le Vtg.lt szi)
      have ne_btg_ivA : btg ≠ ivA := Nat.ne_of_lt (Nat.lt_of_lt_of_le Vtg.lt szv)
      have F31_bk0 : own_AF Z h30 bk0 .byte 16 (own_b16 h1 i1) := F24_bk0.keep Kc30 (ninS (Ne.symm (Ne.symm ne_bk0_b17)) nin0)
      have F32_bk1 : own_AF Z h30 bk1 .byte 16 (own_b16 i2 i3) := F25_bk1.keep Kc30 (ninS (Ne.symm (Ne.symm ne_bk1_b17)) nin0)
      have F33_bk2 : own_AF Z h30 bk2 .byte 16 (own_b16 i4 (i3 ^^^ i0)) := F26_bk2.keep Kc30 (ninS (Ne.symm (Ne.symm ne_bk2_b17)) nin0)
      have F34_bk3 : own_AF Z h30 bk3 .byte 16 (own_b16 (0 : Int64) (128 : Int64)) := F27_bk3.keep Kc30 (ninS (Ne.symm (Ne.symm ne_bk3_b17)) nin0)
      have F35_bk4 : own_AF Z h30 bk4 .byte 16 (own_b16 (0 : Int64) (0 : Int64)) := F28_bk4.keep Kc30 (ninS (Ne.symm (Ne.symm ne_bk4_b17)) nin0)
      have F36_btg : own_AL Z h30 btg .long [(.long thg), (.long tlg)] := Vtg.keep Kc30 (ninS (Ne.symm ne_b17_btg) nin0)
      show own_Wins p e below A T30 (mkF m 93 #[.val (.long i0), .second, .val (.long i1), .second, .val (.long i2), .second, .val (.long i3), .second, .val (.long i4), .second, .val (.int i5), .val (.long h1), .second, .val (.ref bk0), .val (.ref bk1), .val (.ref bk2), .val (.ref bk3), .val (.ref bk4), .val (.ref b17), .unset, .unset, .unset, .unset] [(.ref ivA)])
      exact J29 T30 h30 ivA bi _ _ (X30.more (by decide) (by decide)) F31_bk0 F34_bk3 F35_bk4 U30 VvA (by rw [hovA, hvi]) (Ne.symm (Ne.symm ne_b17_ivA))
    · skip
      refine own_ifNo X23 own_d_code_75 ((if0 _ _).trans (feq cf).1) ?_
      refine own_aload X23 own_d_code_78 rfl ?_
      refine own_aload X23 own_d_code_80 rfl ?_
      refine own_callV X23 (y := (⟨"com/example/libcachet/libcachet/Ghash", "ivFor", "([B)[B"⟩ : MethodName)) [(.ref bk2)] [] 0 (a := b17) rfl (hw _ (List.mem_of_getElem? (i := 30) rfl)) (hw _ (List.mem_of_getElem? (i := 31) rfl)) (hw _ (List.mem_of_getElem? (i := 33) rfl)) (hw _ (List.mem_of_getElem? (i := 32) rfl)) (hw _ (List.mem_of_getElem? (i := 8) rfl)) (hw _ (List.mem_of_getElem? (i := 34) rfl)) (by decide) U23.1 (own_ivFor1 l Z a0 hw b17 bk2 btg h1 i1 i4 (i3 ^^^ i0) thg tlg h23 n0 X23.sz U23 ga_b17 (Ne.symm ne_bk2_b17) (Ne.symm (Ne.symm ne_b17_btg)) F26_bk2 Vtg) own_d_code_82 own_pd___B__B rfl rfl (by show 2 * 0 + _ ≤ _; exact Nat.le_of_eq rfl) (by decide) (by decide) (by decide) (by decide) ?_
      intro T37 h37 v37 X37 P37
      obtain ⟨ivB, bi, ohB, olB, vh, vl, rfl, Kc37, U37, Vi, szi, gai, szv, gav, VvB, hvi, hovB⟩ := P37
      have ne_bk0_bi : bk0 ≠ bi := Nat.ne_of_lt (Nat.lt_of_lt_of_le F24_bk0.lt szi)
      have ne_bk0_ivB : bk0 ≠ ivB := Nat.ne_of_lt (Nat.lt_of_lt_of_le F24_bk0.lt szv)
      have ne_bk1_bi : bk1 ≠ bi := Nat.ne_of_lt (Nat.lt_of_lt_of_le F25_bk1.lt szi)
      have ne_bk1_ivB : bk1 ≠ ivB := Nat.ne_of_lt (Nat.lt_of_lt_of_le F25_bk1.lt szv)
      have ne_bk2_bi : bk2 ≠ bi := Nat.ne_of_lt (Nat.lt_of_lt_of_le F26_bk2.lt szi)
      have ne_bk2_ivB : bk2 ≠ ivB := Nat.ne_of_lt (Nat.lt_of_lt_of_le F26_bk2.lt szv)
      have ne_bk3_bi : bk3 ≠ bi := Nat.ne_of_lt (Nat.lt_of_lt_of_le F27_bk3.lt szi)
      have ne_bk3_ivB : bk3 ≠ ivB := Nat.ne_of_lt (Nat.lt_of_lt_of_le F27_bk3.lt szv)
      have ne_bk4_bi : bk4 ≠ bi := Nat.ne_of_lt (Nat.lt_of_lt_of_le F28_bk4.lt szi)
      have ne_bk4_ivB : bk4 ≠ ivB := Nat.ne_of_lt (Nat.lt_of_lt_of_le F28_bk4.lt szv)
      have ne_b17_bi : b17 ≠ bi := Nat.ne_of_lt (Nat.lt_of_lt_of_le U23.lt szi)
      have ne_b17_ivB : b17 ≠ ivB := Nat.ne_of_lt (Nat.lt_of_lt_of_le U23.lt szv)
      have ne_btg_bi : btg ≠ bi := Nat.ne_of_lt (Nat.lt_of_lt_of_le Vtg.lt szi)
      have ne_btg_ivB : btg ≠ ivB := Nat.ne_of_lt (Nat.lt_of_lt_of_le Vtg.lt szv)
      have F38_bk0 : own_AF Z h37 bk0 .byte 16 (own_b16 h1 i1) := F24_bk0.keep Kc37 (ninS (Ne.symm (Ne.symm ne_bk0_b17)) nin0)
      have F39_bk1 : own_AF Z h37 bk1 .byte 16 (own_b16 i2 i3) := F25_bk1.keep Kc37 (ninS (Ne.symm (Ne.symm ne_bk1_b17)) nin0)
      have F40_bk2 : own_AF Z h37 bk2 .byte 16 (own_b16 i4 (i3 ^^^ i0)) := F26_bk2.keep Kc37 (ninS (Ne.symm (Ne.symm ne_bk2_b17)) nin0)
      have F41_bk3 : own_AF Z h37 bk3 .byte 16 (own_b16 (0 : Int64) (128 : Int64)) := F27_bk3.keep Kc37 (ninS (Ne.symm (Ne.symm ne_bk3_b17)) nin0)
      have F42_bk4 : own_AF Z h37 bk4 .byte 16 (own_b16 (0 : Int64) (0 : Int64)) := F28_bk4.keep Kc37 (ninS (Ne.symm (Ne.symm ne_bk4_b17)) nin0)
      have F43_btg : own_AL Z h37 btg .long [(.long thg), (.long tlg)] := Vtg.keep Kc37 (ninS (Ne.symm ne_b17_btg) nin0)
      show own_Wins p e below A T37 (mkF m 85 #[.val (.long i0), .second, .val (.long i1), .second, .val (.long i2), .second, .val (.long i3), .second, .val (.long i4), .second, .val (.int i5), .val (.long h1), .second, .val (.ref bk0), .val (.ref bk1), .val (.ref bk2), .val (.ref bk3), .val (.ref bk4), .val (.ref b17), .unset, .unset, .unset, .unset] [(.ref ivB)])
      refine own_pop X37 own_d_code_85 rfl ?_
      refine own_aload X37 own_d_code_86 rfl ?_
      refine own_aload X37 own_d_code_88 rfl ?_
      refine own_callV X37 (y := (⟨"com/example/libcachet/libcachet/Ghash", "ivFor", "([B)[B"⟩ : MethodName)) [(.ref bk1)] [] 0 (a := b17) rfl (hw _ (List.mem_of_getElem? (i := 30) rfl)) (hw _ (List.mem_of_getElem? (i := 31) rfl)) (hw _ (List.mem_of_getElem? (i := 33) rfl)) (hw _ (List.mem_of_getElem? (i := 32) rfl)) (hw _ (List.mem_of_getElem? (i := 8) rfl)) (hw _ (List.mem_of_getElem? (i := 34) rfl)) (by decide) U37.1 (own_ivFor2 l Z a0 hw b17 bk1 btg bi h1 i1 i2 i3 thg tlg vh vl h37 n0 X37.sz U37 ga_b17 (Ne.symm ne_bk1_b17) (Ne.symm (Ne.symm ne_b17_btg)) F39_bk1 F43_btg Vi) own_d_code_90 own_pd___B__B rfl rfl (by show 2 * 0 + _ ≤ _; exact Nat.le_of_eq rfl) (by decide) (by decide) (by decide) (by decide) ?_
      intro T44 h44 v44 X44 P44
      obtain ⟨ivA, ohA, olA, rfl, Kc44, sz44, gavA, VvA, hovA⟩ := P44
      have ne_bk0_ivA : bk0 ≠ ivA := Nat.ne_of_lt (Nat.lt_of_lt_of_le F38_bk0.lt sz44)
      have ne_bk1_ivA : bk1 ≠ ivA := Nat.ne_of_lt (Nat.lt_of_lt_of_le F39_bk1.lt sz44)
      have ne_bk2_ivA : bk2 ≠ ivA := Nat.ne_of_lt (Nat.lt_of_lt_of_le F40_bk2.lt sz44)
      have ne_bk3_ivA : bk3 ≠ ivA := Nat.ne_of_lt (Nat.lt_of_lt_of_le F41_bk3.lt sz44)
      have ne_bk4_ivA : bk4 ≠ ivA := Nat.ne_of_lt (Nat.lt_of_lt_of_le F42_bk4.lt sz44)
      have ne_b17_ivA : b17 ≠ ivA := Nat.ne_of_lt (Nat.lt_of_lt_of_le U37.lt sz44)
      have ne_btg_ivA : btg ≠ ivA := Nat.ne_of_lt (Nat.lt_of_lt_of_le F43_btg.lt sz44)
      have ne_bi_ivA : bi ≠ ivA := Nat.ne_of_lt (Nat.lt_of_lt_of_le Vi.lt sz44)
      have ne_ivB_ivA : ivB ≠ ivA := Nat.ne_of_lt (Nat.lt_of_lt_of_le VvB.lt sz44)
      have F45_bk0 : own_AF Z h44 bk0 .byte 16 (own_b16 h1 i1) := F38_bk0.keep Kc44 nin0
      have F46_bk1 : own_AF Z h44 bk1 .byte 16 (own_b16 i2 i3) := F39_bk1.keep Kc44 nin0
      have F47_bk2 : own_AF Z h44 bk2 .byte 16 (own_b16 i4 (i3 ^^^ i0)) := F40_bk2.keep Kc44 nin0
      have F48_bk3 : own_AF Z h44 bk3 .byte 16 (own_b16 (0 : Int64) (128 : Int64)) := F41_bk3.keep Kc44 nin0
      have F49_bk4 : own_AF Z h44 bk4 .byte 16 (own_b16 (0 : Int64) (0 : Int64)) := F42_bk4.keep Kc44 nin0
      have F50_b17 : own_Obj Z h44 b17 "com/example/libcachet/libcachet/Ghash" own_ns_Gh [(.long h1), (.long i1), (.ref btg), (.int (0 : Int32)), (.long (0 : Int64)), (.long (0 : Int64)), (.long (0 : Int64)), (.long (0 : Int64)), .null, .null, (.ref bi)] := U37.keep Kc44 nin0
      have F51_btg : own_AL Z h44 btg .long [(.long thg), (.long tlg)] := F43_btg.keep Kc44 nin0
      have F52_bi : own_AL Z h44 bi .long [(.long vh), (.long vl)] := Vi.keep Kc44 nin0
      have F53_ivB : own_AF Z h44 ivB .byte 16 (own_b16 ohB olB) := VvB.keep Kc44 nin0
      show own_Wins p e below A T44 (mkF m 93 #[.val (.long i0), .second, .val (.long i1), .second, .val (.long i2), .second, .val (.long i3), .second, .val (.long i4), .second, .val (.int i5), .val (.long h1), .second, .val (.ref bk0), .val (.ref bk1), .val (.ref bk2), .val (.ref bk3), .val (.ref bk4), .val (.ref b17), .unset, .unset, .unset, .unset] [(.ref ivA)])
      exact J29 T44 h44 ivA bi _ _ (X44.more (by decide) (by decide)) F45_bk0 F48_bk3 F49_bk4 F50_b17 VvA (by rw [hovA, hvi]) (Ne.symm (Ne.symm ne_b17_ivA))
  intro Tv hv iv bi oh ol Xv Fv_bk0 Fv_bk3 Fv_bk4 Fv_b17 Fv_iv hov ne_g_iv
  refine own_astore Xv #[.val (.long i0), .second, .val (.long i1), .second, .val (.long i2), .second, .val (.long i3), .second, .val (.long i4), .second, .val (.int i5), .val (.long h1), .second, .val (.ref bk0), .val (.ref bk1), .val (.ref bk2), .val (.ref bk3), .val (.ref bk4), .val (.ref b17), .val (.ref iv), .unset, .unset, .unset] own_d_code_93 rfl ?_
  refine own_aload Xv own_d_code_95 rfl ?_
  refine own_aload Xv own_d_code_97 rfl ?_
  refine own_ldc2 Xv (hw _ (List.mem_of_getElem? (i := 43) rfl)) own_d_code_99 ?_
  refine own_callV Xv (y := (⟨"com/example/libcachet/libcachet/Ghash", "add", "([BJ)V"⟩ : MethodName)) [(.ref iv), (.long (16 : Int64))] [] 0 (a := b17) rfl (hw _ (List.mem_of_getElem? (i := 44) rfl)) (hw _ (List.mem_of_getElem? (i := 45) rfl)) (hw _ (List.mem_of_getElem? (i := 47) rfl)) (hw _ (List.mem_of_getElem? (i := 46) rfl)) (hw _ (List.mem_of_getElem? (i := 8) rfl)) (hw _ (List.mem_of_getElem? (i := 48) rfl)) (by decide) Fv_b17.1 (own_addA l Z a0 hw b17 iv btg h1 i1 oh ol (.ref bi) hv n0 Xv.sz Fv_b17 ga_b17 (Ne.symm (Ne.symm ne_g_iv)) Fv_iv) own_d_code_102 own_pd___BJ_V rfl rfl (by show 2 * 0 + _ ≤ _; exact Nat.le_of_eq rfl) (by decide) (by decide) (by decide) (by decide) ?_
  intro T54 h54 v54 X54 P54
  obtain ⟨blg, bpg, nhg, nlg, lhg, log, whg, wlg, rfl, Kc54, U54, Vlg, Vpg, szlg, szpg, hng1, hlg, hwg⟩ := P54
  have ne_b17_blg : b17 ≠ blg := Nat.ne_of_lt (Nat.lt_of_lt_of_le Fv_b17.lt szlg)
  have ne_b17_bpg : b17 ≠ bpg := Nat.ne_of_lt (Nat.lt_of_lt_of_le Fv_b17.lt szpg)
  have F55_bk0 : own_AF Z h54 bk0 .byte 16 (own_b16 h1 i1) := Fv_bk0.keep Kc54 (ninS (Ne.symm (Ne.symm ne_bk0_b17)) nin0)
  have F56_bk3 : own_AF Z h54 bk3 .byte 16 (own_b16 (0 : Int64) (128 : Int64)) := Fv_bk3.keep Kc54 (ninS (Ne.symm (Ne.symm ne_bk3_b17)) nin0)
  have F57_bk4 : own_AF Z h54 bk4 .byte 16 (own_b16 (0 : Int64) (0 : Int64)) := Fv_bk4.keep Kc54 (ninS (Ne.symm (Ne.symm ne_bk4_b17)) nin0)
  have F58_iv : own_AF Z h54 iv .byte 16 (own_b16 oh ol) := Fv_iv.keep Kc54 (ninS (Ne.symm ne_g_iv) nin0)
  show own_Wins p e below A T54 (mkF m 105 #[.val (.long i0), .second, .val (.long i1), .second, .val (.long i2), .second, .val (.long i3), .second, .val (.long i4), .second, .val (.int i5), .val (.long h1), .second, .val (.ref bk0), .val (.ref bk1), .val (.ref bk2), .val (.ref bk3), .val (.ref bk4), .val (.ref b17), .val (.ref iv), .unset, .unset, .unset] [])
  refine own_aload X54 own_d_code_105 rfl ?_
  refine own_aload X54 own_d_code_107 rfl ?_
  refine own_ldc2 X54 (hw _ (List.mem_of_getElem? (i := 43) rfl)) own_d_code_109 ?_
  refine own_callV X54 (y := (⟨"com/example/libcachet/libcachet/Ghash", "add", "([BJ)V"⟩ : MethodName)) [(.ref bk3), (.long (16 : Int64))] [] 0 (a := b17) rfl (hw _ (List.mem_of_getElem? (i := 44) rfl)) (hw _ (List.mem_of_getElem? (i := 45) rfl)) (hw _ (List.mem_of_getElem? (i := 47) rfl)) (hw _ (List.mem_of_getElem? (i := 46) rfl)) (hw _ (List.mem_of_getElem? (i := 8) rfl)) (hw _ (List.mem_of_getElem? (i := 48) rfl)) (by decide) U54.1 (own_addB l Z a0 hw b17 bk3 btg blg bpg h1 i1 (0 : Int64) (128 : Int64) ((0 : Int64) + (16 : Int64)) nhg nlg lhg log whg wlg (.ref bi) h54 n0 X54.sz U54 ga_b17 (Ne.symm ne_bk3_b17) (Ne.symm (Ne.symm ne_b17_blg)) (Ne.symm (Ne.symm ne_b17_bpg)) F56_bk3 Vlg Vpg) own_d_code_112 own_pd___BJ_V rfl rfl (by show 2 * 0 + _ ≤ _; exact Nat.le_of_eq rfl) (by decide) (by decide) (by decide) (by decide) ?_
  intro T59 h59 v59 X59 P59
  obtain ⟨nhg2, nlg2, rfl, Kc59, U59, hng2⟩ := P59
  have F60_bk0 : own_AF Z h59 bk0 .byte 16 (own_b16 h1 i1) := F55_bk0.keep Kc59 (ninS (Ne.symm (Ne.symm ne_bk0_b17)) nin0)
  have F61_bk3 : own_AF Z h59 bk3 .byte 16 (own_b16 (0 : Int64) (128 : Int64)) := F56_bk3.keep Kc59 (ninS (Ne.symm (Ne.symm ne_bk3_b17)) nin0)
  have F62_bk4 : own_AF Z h59 bk4 .byte 16 (own_b16 (0 : Int64) (0 : Int64)) := F57_bk4.keep Kc59 (ninS (Ne.symm (Ne.symm ne_bk4_b17)) nin0)
  have F63_iv : own_AF Z h59 iv .byte 16 (own_b16 oh ol) := F58_iv.keep Kc59 (ninS (Ne.symm ne_g_iv) nin0)
  have F64_blg : own_AL Z h59 blg .long [(.long lhg), (.long log)] := Vlg.keep Kc59 (ninS (Ne.symm ne_b17_blg) nin0)
  have F65_bpg : own_AL Z h59 bpg .long [(.long whg), (.long wlg)] := Vpg.keep Kc59 (ninS (Ne.symm ne_b17_bpg) nin0)
  show own_Wins p e below A T59 (mkF m 115 #[.val (.long i0), .second, .val (.long i1), .second, .val (.long i2), .second, .val (.long i3), .second, .val (.long i4), .second, .val (.int i5), .val (.long h1), .second, .val (.ref bk0), .val (.ref bk1), .val (.ref bk2), .val (.ref bk3), .val (.ref bk4), .val (.ref b17), .val (.ref iv), .unset, .unset, .unset] [])
  refine own_aload X59 own_d_code_115 rfl ?_
  refine own_aload X59 own_d_code_117 rfl ?_
  refine own_ldc2 X59 (hw _ (List.mem_of_getElem? (i := 43) rfl)) own_d_code_119 ?_
  refine own_callV X59 (y := (⟨"com/example/libcachet/libcachet/Ghash", "add", "([BJ)V"⟩ : MethodName)) [(.ref bk4), (.long (16 : Int64))] [] 0 (a := b17) rfl (hw _ (List.mem_of_getElem? (i := 44) rfl)) (hw _ (List.mem_of_getElem? (i := 45) rfl)) (hw _ (List.mem_of_getElem? (i := 47) rfl)) (hw _ (List.mem_of_getElem? (i := 46) rfl)) (hw _ (List.mem_of_getElem? (i := 8) rfl)) (hw _ (List.mem_of_getElem? (i := 48) rfl)) (by decide) U59.1 (own_addB l Z a0 hw b17 bk4 btg blg bpg h1 i1 (0 : Int64) (0 : Int64) (((0 : Int64) + (16 : Int64)) + (16 : Int64)) nhg2 nlg2 lhg log whg wlg (.ref bi) h59 n0 X59.sz U59 ga_b17 (Ne.symm ne_bk4_b17) (Ne.symm (Ne.symm ne_b17_blg)) (Ne.symm (Ne.symm ne_b17_bpg)) F62_bk4 F64_blg F65_bpg) own_d_code_122 own_pd___BJ_V rfl rfl (by show 2 * 0 + _ ≤ _; exact Nat.le_of_eq rfl) (by decide) (by decide) (by decide) (by decide) ?_
  intro T66 h66 v66 X66 P66
  obtain ⟨nhg3, nlg3, rfl, Kc66, U66, hng3⟩ := P66
  have F67_bk0 : own_AF Z h66 bk0 .byte 16 (own_b16 h1 i1) := F60_bk0.keep Kc66 (ninS (Ne.symm (Ne.symm ne_bk0_b17)) nin0)
  have F68_bk3 : own_AF Z h66 bk3 .byte 16 (own_b16 (0 : Int64) (128 : Int64)) := F61_bk3.keep Kc66 (ninS (Ne.symm (Ne.symm ne_bk3_b17)) nin0)
  have F69_bk4 : own_AF Z h66 bk4 .byte 16 (own_b16 (0 : Int64) (0 : Int64)) := F62_bk4.keep Kc66 (ninS (Ne.symm (Ne.symm ne_bk4_b17)) nin0)
  have F70_iv : own_AF Z h66 iv .byte 16 (own_b16 oh ol) := F63_iv.keep Kc66 (ninS (Ne.symm ne_g_iv) nin0)
  have F71_blg : own_AL Z h66 blg .long [(.long lhg), (.long log)] := F64_blg.keep Kc66 (ninS (Ne.symm ne_b17_blg) nin0)
  have F72_bpg : own_AL Z h66 bpg .long [(.long whg), (.long wlg)] := F65_bpg.keep Kc66 (ninS (Ne.symm ne_b17_bpg) nin0)
  show own_Wins p e below A T66 (mkF m 125 #[.val (.long i0), .second, .val (.long i1), .second, .val (.long i2), .second, .val (.long i3), .second, .val (.long i4), .second, .val (.int i5), .val (.long h1), .second, .val (.ref bk0), .val (.ref bk1), .val (.ref bk2), .val (.ref bk3), .val (.ref bk4), .val (.ref b17), .val (.ref iv), .unset, .unset, .unset] [])
  refine own_aload X66 own_d_code_125 rfl ?_
  refine own_callV X66 (y := (⟨"com/example/libcachet/libcachet/Ghash", "finish", "()[B"⟩ : MethodName)) [] [] 0 (a := b17) rfl (hw _ (List.mem_of_getElem? (i := 70) rfl)) (hw _ (List.mem_of_getElem? (i := 71) rfl)) (hw _ (List.mem_of_getElem? (i := 73) rfl)) (hw _ (List.mem_of_getElem? (i := 72) rfl)) (hw _ (List.mem_of_getElem? (i := 8) rfl)) (hw _ (List.mem_of_getElem? (i := 74) rfl)) (by decide) U66.1 (own_finish l Z a0 hw b17 h1 i1 ((((0 : Int64) + (16 : Int64)) + (16 : Int64)) + (16 : Int64)) nhg3 nlg3 (.ref btg) (.int (0 : Int32)) (.long (16 : Int64)) (.ref blg) (.ref bpg) (.ref bi) h66 n0 X66.sz U66) own_d_code_127 own_pd____B rfl rfl (by show 2 * 0 + _ ≤ _; exact Nat.le_of_eq rfl) (by decide) (by decide) (by decide) (by decide) ?_
  intro T73 h73 v73 X73 P73
  obtain ⟨fo, fgh, fgl, rfl, Kc73, sz73, ga_fo, V73, hfg⟩ := P73
  have ne_bk0_fo : bk0 ≠ fo := Nat.ne_of_lt (Nat.lt_of_lt_of_le F67_bk0.lt sz73)
  have ne_bk3_fo : bk3 ≠ fo := Nat.ne_of_lt (Nat.lt_of_lt_of_le F68_bk3.lt sz73)
  have ne_bk4_fo : bk4 ≠ fo := Nat.ne_of_lt (Nat.lt_of_lt_of_le F69_bk4.lt sz73)
  have ne_b17_fo : b17 ≠ fo := Nat.ne_of_lt (Nat.lt_of_lt_of_le U66.lt sz73)
  have ne_iv_fo : iv ≠ fo := Nat.ne_of_lt (Nat.lt_of_lt_of_le F70_iv.lt sz73)
  have ne_blg_fo : blg ≠ fo := Nat.ne_of_lt (Nat.lt_of_lt_of_le F71_blg.lt sz73)
  have ne_bpg_fo : bpg ≠ fo := Nat.ne_of_lt (Nat.lt_of_lt_of_le F72_bpg.lt sz73)
  have F74_bk0 : own_AF Z h73 bk0 .byte 16 (own_b16 h1 i1) := F67_bk0.keep Kc73 nin0
  have F75_bk3 : own_AF Z h73 bk3 .byte 16 (own_b16 (0 : Int64) (128 : Int64)) := F68_bk3.keep Kc73 nin0
  have F76_bk4 : own_AF Z h73 bk4 .byte 16 (own_b16 (0 : Int64) (0 : Int64)) := F69_bk4.keep Kc73 nin0
  have F77_b17 : own_Obj Z h73 b17 "com/example/libcachet/libcachet/Ghash" own_ns_Gh [(.long h1), (.long i1), (.ref btg), (.int (0 : Int32)), (.long ((((0 : Int64) + (16 : Int64)) + (16 : Int64)) + (16 : Int64))), (.long nhg3), (.long nlg3), (.long (16 : Int64)), (.ref blg), (.ref bpg), (.ref bi)] := U66.keep Kc73 nin0
  have F78_iv : own_AF Z h73 iv .byte 16 (own_b16 oh ol) := F70_iv.keep Kc73 nin0
  have F79_blg : own_AL Z h73 blg .long [(.long lhg), (.long log)] := F71_blg.keep Kc73 nin0
  have F80_bpg : own_AL Z h73 bpg .long [(.long whg), (.long wlg)] := F72_bpg.keep Kc73 nin0
  show own_Wins p e below A T73 (mkF m 130 #[.val (.long i0), .second, .val (.long i1), .second, .val (.long i2), .second, .val (.long i3), .second, .val (.long i4), .second, .val (.int i5), .val (.long h1), .second, .val (.ref bk0), .val (.ref bk1), .val (.ref bk2), .val (.ref bk3), .val (.ref bk4), .val (.ref b17), .val (.ref iv), .unset, .unset, .unset] [(.ref fo)])
  refine own_astore X73 #[.val (.long i0), .second, .val (.long i1), .second, .val (.long i2), .second, .val (.long i3), .second, .val (.long i4), .second, .val (.int i5), .val (.long h1), .second, .val (.ref bk0), .val (.ref bk1), .val (.ref bk2), .val (.ref bk3), .val (.ref bk4), .val (.ref b17), .val (.ref iv), .val (.ref fo), .unset, .unset] own_d_code_130 rfl ?_
  refine own_new X73 (hw _ (List.mem_of_getElem? (i := 6) rfl)) (hw _ (List.mem_of_getElem? (i := 7) rfl)) (hw _ (List.mem_of_getElem? (i := 8) rfl)) (own_laid_Gh hw) [(.long (0 : Int64)), (.long (0 : Int64)), .null, (.int (0 : Int32)), (.long (0 : Int64)), (.long (0 : Int64)), (.long (0 : Int64)), (.long (0 : Int64)), .null, .null, .null] (by decide) own_d_code_132 (by decide) (by decide) ?_
  intro T81 h81 b81 X81 E81 g81 ga_b81 V81
  have ne_bk0_b81 : bk0 ≠ b81 := by rw [g81]; exact Nat.ne_of_lt F74_bk0.lt
  have ne_bk4_b81 : bk4 ≠ b81 := by rw [g81]; exact Nat.ne_of_lt F76_bk4.lt
  have ne_fo_b81 : fo ≠ b81 := by rw [g81]; exact Nat.ne_of_lt V73.lt
  have F82_bk0 : own_AF Z h81 bk0 .byte 16 (own_b16 h1 i1) := F74_bk0.ext E81
  have F83_bk4 : own_AF Z h81 bk4 .byte 16 (own_b16 (0 : Int64) (0 : Int64)) := F76_bk4.ext E81
  have F84_fo : own_AF Z h81 fo .byte 16 (own_b16 fgh fgl) := V73.ext E81
  refine own_dup X81 own_d_code_135 rfl ?_
  refine own_aload X81 own_d_code_136 rfl ?_
  refine own_callI X81 (y := (⟨"com/example/libcachet/libcachet/Ghash", "<init>", "([B)V"⟩ : MethodName)) [(.ref bk0)] [(.ref b81)] 1 (a := b81) rfl rfl (hw _ (List.mem_of_getElem? (i := 9) rfl)) (hw _ (List.mem_of_getElem? (i := 10) rfl)) (hw _ (List.mem_of_getElem? (i := 8) rfl)) (hw _ (List.mem_of_getElem? (i := 11) rfl)) (by decide) (own_ctor l Z a0 hw b81 bk0 h1 i1 h81 n0 X81.sz V81 ga_b81 (Ne.symm ne_bk0_b81) F82_bk0) own_d_code_138 own_pd___B_V rfl rfl (by show 2 * 0 + _ ≤ _; exact Nat.le_of_eq rfl) (by decide) (by decide) (by decide) (by decide) ?_
  intro T85 h85 v85 X85 P85
  obtain ⟨btz, thz, tlz, rfl, Kc85, U85, Vtz, sztz, gatz, htz⟩ := P85
  have ne_bk0_btz : bk0 ≠ btz := Nat.ne_of_lt (Nat.lt_of_lt_of_le F82_bk0.lt sztz)
  have ne_bk4_btz : bk4 ≠ btz := Nat.ne_of_lt (Nat.lt_of_lt_of_le F83_bk4.lt sztz)
  have ne_fo_btz : fo ≠ btz := Nat.ne_of_lt (Nat.lt_of_lt_of_le F84_fo.lt sztz)
  have ne_b81_btz : b81 ≠ btz := Nat.ne_of_lt (Nat.lt_of_lt_of_le V81.lt sztz)
  have F86_bk0 : own_AF Z h85 bk0 .byte 16 (own_b16 h1 i1) := F82_bk0.keep Kc85 (ninS (Ne.symm (Ne.symm ne_bk0_b81)) nin0)
  have F87_bk4 : own_AF Z h85 bk4 .byte 16 (own_b16 (0 : Int64) (0 : Int64)) := F83_bk4.keep Kc85 (ninS (Ne.symm (Ne.symm ne_bk4_b81)) nin0)
  have F88_fo : own_AF Z h85 fo .byte 16 (own_b16 fgh fgl) := F84_fo.keep Kc85 (ninS (Ne.symm (Ne.symm ne_fo_b81)) nin0)
  show own_Wins p e below A T85 (mkF m 141 #[.val (.long i0), .second, .val (.long i1), .second, .val (.long i2), .second, .val (.long i3), .second, .val (.long i4), .second, .val (.int i5), .val (.long h1), .second, .val (.ref bk0), .val (.ref bk1), .val (.ref bk2), .val (.ref bk3), .val (.ref bk4), .val (.ref b17), .val (.ref iv), .val (.ref fo), .unset, .unset] [(.ref b81)])
  refine own_astore X85 #[.val (.long i0), .second, .val (.long i1), .second, .val (.long i2), .second, .val (.long i3), .second, .val (.long i4), .second, .val (.int i5), .val (.long h1), .second, .val (.ref bk0), .val (.ref bk1), .val (.ref bk2), .val (.ref bk3), .val (.ref bk4), .val (.ref b17), .val (.ref iv), .val (.ref fo), .val (.ref b81), .unset] own_d_code_141 rfl ?_
  refine own_aload X85 own_d_code_143 rfl ?_
  refine own_aload X85 own_d_code_145 rfl ?_
  refine own_ldc2 X85 (hw _ (List.mem_of_getElem? (i := 43) rfl)) own_d_code_147 ?_
  refine own_callV X85 (y := (⟨"com/example/libcachet/libcachet/Ghash", "add", "([BJ)V"⟩ : MethodName)) [(.ref bk4), (.long (16 : Int64))] [] 0 (a := b81) rfl (hw _ (List.mem_of_getElem? (i := 44) rfl)) (hw _ (List.mem_of_getElem? (i := 45) rfl)) (hw _ (List.mem_of_getElem? (i := 47) rfl)) (hw _ (List.mem_of_getElem? (i := 46) rfl)) (hw _ (List.mem_of_getElem? (i := 8) rfl)) (hw _ (List.mem_of_getElem? (i := 48) rfl)) (by decide) U85.1 (own_addA l Z a0 hw b81 bk4 btz h1 i1 (0 : Int64) (0 : Int64) .null h85 n0 X85.sz U85 ga_b81 (Ne.symm ne_bk4_b81) F87_bk4) own_d_code_150 own_pd___BJ_V rfl rfl (by show 2 * 0 + _ ≤ _; exact Nat.le_of_eq rfl) (by decide) (by decide) (by decide) (by decide) ?_
  intro T89 h89 v89 X89 P89
  obtain ⟨blz, bpz, nhz, nlz, lhz, loz, whz, wlz, rfl, Kc89, U89, Vlz, Vpz, szlz, szpz, hnz1, hlz, hwz⟩ := P89
  have ne_b81_blz : b81 ≠ blz := Nat.ne_of_lt (Nat.lt_of_lt_of_le U85.lt szlz)
  have ne_b81_bpz : b81 ≠ bpz := Nat.ne_of_lt (Nat.lt_of_lt_of_le U85.lt szpz)
  have F90_bk0 : own_AF Z h89 bk0 .byte 16 (own_b16 h1 i1) := F86_bk0.keep Kc89 (ninS (Ne.symm (Ne.symm ne_bk0_b81)) nin0)
  have F91_bk4 : own_AF Z h89 bk4 .byte 16 (own_b16 (0 : Int64) (0 : Int64)) := F87_bk4.keep Kc89 (ninS (Ne.symm (Ne.symm ne_bk4_b81)) nin0)
  have F92_fo : own_AF Z h89 fo .byte 16 (own_b16 fgh fgl) := F88_fo.keep Kc89 (ninS (Ne.symm (Ne.symm ne_fo_b81)) nin0)
  have F93_btz : own_AL Z h89 btz .long [(.long thz), (.long tlz)] := Vtz.keep Kc89 (ninS (Ne.symm ne_b81_btz) nin0)
  show own_Wins p e below A T89 (mkF m 153 #[.val (.long i0), .second, .val (.long i1), .second, .val (.long i2), .second, .val (.long i3), .second, .val (.long i4), .second, .val (.int i5), .val (.long h1), .second, .val (.ref bk0), .val (.ref bk1), .val (.ref bk2), .val (.ref bk3), .val (.ref bk4), .val (.ref b17), .val (.ref iv), .val (.ref fo), .val (.ref b81), .unset] [])
  refine own_aload X89 own_d_code_153 rfl ?_
  refine own_aload X89 own_d_code_155 rfl ?_
  refine own_ldc2 X89 (hw _ (List.mem_of_getElem? (i := 43) rfl)) own_d_code_157 ?_
  refine own_callV X89 (y := (⟨"com/example/libcachet/libcachet/Ghash", "add", "([BJ)V"⟩ : MethodName)) [(.ref bk4), (.long (16 : Int64))] [] 0 (a := b81) rfl (hw _ (List.mem_of_getElem? (i := 44) rfl)) (hw _ (List.mem_of_getElem? (i := 45) rfl)) (hw _ (List.mem_of_getElem? (i := 47) rfl)) (hw _ (List.mem_of_getElem? (i := 46) rfl)) (hw _ (List.mem_of_getElem? (i := 8) rfl)) (hw _ (List.mem_of_getElem? (i := 48) rfl)) (by decide) U89.1 (own_addB l Z a0 hw b81 bk4 btz blz bpz h1 i1 (0 : Int64) (0 : Int64) ((0 : Int64) + (16 : Int64)) nhz nlz lhz loz whz wlz .null h89 n0 X89.sz U89 ga_b81 (Ne.symm ne_bk4_b81) (Ne.symm (Ne.symm ne_b81_blz)) (Ne.symm (Ne.symm ne_b81_bpz)) F91_bk4 Vlz Vpz) own_d_code_160 own_pd___BJ_V rfl rfl (by show 2 * 0 + _ ≤ _; exact Nat.le_of_eq rfl) (by decide) (by decide) (by decide) (by decide) ?_
  intro T94 h94 v94 X94 P94
  obtain ⟨nhz2, nlz2, rfl, Kc94, U94, hnz2⟩ := P94
  have F95_bk0 : own_AF Z h94 bk0 .byte 16 (own_b16 h1 i1) := F90_bk0.keep Kc94 (ninS (Ne.symm (Ne.symm ne_bk0_b81)) nin0)
  have F96_bk4 : own_AF Z h94 bk4 .byte 16 (own_b16 (0 : Int64) (0 : Int64)) := F91_bk4.keep Kc94 (ninS (Ne.symm (Ne.symm ne_bk4_b81)) nin0)
  have F97_fo : own_AF Z h94 fo .byte 16 (own_b16 fgh fgl) := F92_fo.keep Kc94 (ninS (Ne.symm (Ne.symm ne_fo_b81)) nin0)
  have F98_btz : own_AL Z h94 btz .long [(.long thz), (.long tlz)] := F93_btz.keep Kc94 (ninS (Ne.symm ne_b81_btz) nin0)
  have F99_blz : own_AL Z h94 blz .long [(.long lhz), (.long loz)] := Vlz.keep Kc94 (ninS (Ne.symm ne_b81_blz) nin0)
  have F100_bpz : own_AL Z h94 bpz .long [(.long whz), (.long wlz)] := Vpz.keep Kc94 (ninS (Ne.symm ne_b81_bpz) nin0)
  show own_Wins p e below A T94 (mkF m 163 #[.val (.long i0), .second, .val (.long i1), .second, .val (.long i2), .second, .val (.long i3), .second, .val (.long i4), .second, .val (.int i5), .val (.long h1), .second, .val (.ref bk0), .val (.ref bk1), .val (.ref bk2), .val (.ref bk3), .val (.ref bk4), .val (.ref b17), .val (.ref iv), .val (.ref fo), .val (.ref b81), .unset] [])
  refine own_aload X94 own_d_code_163 rfl ?_
  refine own_aload X94 own_d_code_165 rfl ?_
  refine own_ldc2 X94 (hw _ (List.mem_of_getElem? (i := 43) rfl)) own_d_code_167 ?_
  refine own_callV X94 (y := (⟨"com/example/libcachet/libcachet/Ghash", "add", "([BJ)V"⟩ : MethodName)) [(.ref bk4), (.long (16 : Int64))] [] 0 (a := b81) rfl (hw _ (List.mem_of_getElem? (i := 44) rfl)) (hw _ (List.mem_of_getElem? (i := 45) rfl)) (hw _ (List.mem_of_getElem? (i := 47) rfl)) (hw _ (List.mem_of_getElem? (i := 46) rfl)) (hw _ (List.mem_of_getElem? (i := 8) rfl)) (hw _ (List.mem_of_getElem? (i := 48) rfl)) (by decide) U94.1 (own_addB l Z a0 hw b81 bk4 btz blz bpz h1 i1 (0 : Int64) (0 : Int64) (((0 : Int64) + (16 : Int64)) + (16 : Int64)) nhz2 nlz2 lhz loz whz wlz .null h94 n0 X94.sz U94 ga_b81 (Ne.symm ne_bk4_b81) (Ne.symm (Ne.symm ne_b81_blz)) (Ne.symm (Ne.symm ne_b81_bpz)) F96_bk4 F99_blz F100_bpz) own_d_code_170 own_pd___BJ_V rfl rfl (by show 2 * 0 + _ ≤ _; exact Nat.le_of_eq rfl) (by decide) (by decide) (by decide) (by decide) ?_
  intro T101 h101 v101 X101 P101
  obtain ⟨nhz3, nlz3, rfl, Kc101, U101, hnz3⟩ := P101
  have F102_bk0 : own_AF Z h101 bk0 .byte 16 (own_b16 h1 i1) := F95_bk0.keep Kc101 (ninS (Ne.symm (Ne.symm ne_bk0_b81)) nin0)
  have F103_bk4 : own_AF Z h101 bk4 .byte 16 (own_b16 (0 : Int64) (0 : Int64)) := F96_bk4.keep Kc101 (ninS (Ne.symm (Ne.symm ne_bk4_b81)) nin0)
  have F104_fo : own_AF Z h101 fo .byte 16 (own_b16 fgh fgl) := F97_fo.keep Kc101 (ninS (Ne.symm (Ne.symm ne_fo_b81)) nin0)
  have F105_btz : own_AL Z h101 btz .long [(.long thz), (.long tlz)] := F98_btz.keep Kc101 (ninS (Ne.symm ne_b81_btz) nin0)
  have F106_blz : own_AL Z h101 blz .long [(.long lhz), (.long loz)] := F99_blz.keep Kc101 (ninS (Ne.symm ne_b81_blz) nin0)
  have F107_bpz : own_AL Z h101 bpz .long [(.long whz), (.long wlz)] := F100_bpz.keep Kc101 (ninS (Ne.symm ne_b81_bpz) nin0)
  show own_Wins p e below A T101 (mkF m 173 #[.val (.long i0), .second, .val (.long i1), .second, .val (.long i2), .second, .val (.long i3), .second, .val (.long i4), .second, .val (.int i5), .val (.long h1), .second, .val (.ref bk0), .val (.ref bk1), .val (.ref bk2), .val (.ref bk3), .val (.ref bk4), .val (.ref b17), .val (.ref iv), .val (.ref fo), .val (.ref b81), .unset] [])
  refine own_aload X101 own_d_code_173 rfl ?_
  refine own_callV X101 (y := (⟨"com/example/libcachet/libcachet/Ghash", "finish", "()[B"⟩ : MethodName)) [] [] 0 (a := b81) rfl (hw _ (List.mem_of_getElem? (i := 70) rfl)) (hw _ (List.mem_of_getElem? (i := 71) rfl)) (hw _ (List.mem_of_getElem? (i := 73) rfl)) (hw _ (List.mem_of_getElem? (i := 72) rfl)) (hw _ (List.mem_of_getElem? (i := 8) rfl)) (hw _ (List.mem_of_getElem? (i := 74) rfl)) (by decide) U101.1 (own_finish l Z a0 hw b81 h1 i1 ((((0 : Int64) + (16 : Int64)) + (16 : Int64)) + (16 : Int64)) nhz3 nlz3 (.ref btz) (.int (0 : Int32)) (.long (16 : Int64)) (.ref blz) (.ref bpz) .null h101 n0 X101.sz U101) own_d_code_175 own_pd____B rfl rfl (by show 2 * 0 + _ ≤ _; exact Nat.le_of_eq rfl) (by decide) (by decide) (by decide) (by decide) ?_
  intro T108 h108 v108 X108 P108
  obtain ⟨zo, fzh, fzl, rfl, Kc108, sz108, ga_zo, V108, hfz⟩ := P108
  have ne_bk0_zo : bk0 ≠ zo := Nat.ne_of_lt (Nat.lt_of_lt_of_le F102_bk0.lt sz108)
  have ne_bk4_zo : bk4 ≠ zo := Nat.ne_of_lt (Nat.lt_of_lt_of_le F103_bk4.lt sz108)
  have ne_fo_zo : fo ≠ zo := Nat.ne_of_lt (Nat.lt_of_lt_of_le F104_fo.lt sz108)
  have ne_b81_zo : b81 ≠ zo := Nat.ne_of_lt (Nat.lt_of_lt_of_le U101.lt sz108)
  have ne_btz_zo : btz ≠ zo := Nat.ne_of_lt (Nat.lt_of_lt_of_le F105_btz.lt sz108)
  have ne_blz_zo : blz ≠ zo := Nat.ne_of_lt (Nat.lt_of_lt_of_le F106_blz.lt sz108)
  have ne_bpz_zo : bpz ≠ zo := Nat.ne_of_lt (Nat.lt_of_lt_of_le F107_bpz.lt sz108)
  have F109_bk0 : own_AF Z h108 bk0 .byte 16 (own_b16 h1 i1) := F102_bk0.keep Kc108 nin0
  have F110_bk4 : own_AF Z h108 bk4 .byte 16 (own_b16 (0 : Int64) (0 : Int64)) := F103_bk4.keep Kc108 nin0
  have F111_fo : own_AF Z h108 fo .byte 16 (own_b16 fgh fgl) := F104_fo.keep Kc108 nin0
  have F112_b81 : own_Obj Z h108 b81 "com/example/libcachet/libcachet/Ghash" own_ns_Gh [(.long h1), (.long i1), (.ref btz), (.int (0 : Int32)), (.long ((((0 : Int64) + (16 : Int64)) + (16 : Int64)) + (16 : Int64))), (.long nhz3), (.long nlz3), (.long (16 : Int64)), (.ref blz), (.ref bpz), .null] := U101.keep Kc108 nin0
  have F113_btz : own_AL Z h108 btz .long [(.long thz), (.long tlz)] := F105_btz.keep Kc108 nin0
  have F114_blz : own_AL Z h108 blz .long [(.long lhz), (.long loz)] := F106_blz.keep Kc108 nin0
  have F115_bpz : own_AL Z h108 bpz .long [(.long whz), (.long wlz)] := F107_bpz.keep Kc108 nin0
  show own_Wins p e below A T108 (mkF m 178 #[.val (.long i0), .second, .val (.long i1), .second, .val (.long i2), .second, .val (.long i3), .second, .val (.long i4), .second, .val (.int i5), .val (.long h1), .second, .val (.ref bk0), .val (.ref bk1), .val (.ref bk2), .val (.ref bk3), .val (.ref bk4), .val (.ref b17), .val (.ref iv), .val (.ref fo), .val (.ref b81), .unset] [(.ref zo)])
  refine own_astore X108 #[.val (.long i0), .second, .val (.long i1), .second, .val (.long i2), .second, .val (.long i3), .second, .val (.long i4), .second, .val (.int i5), .val (.long h1), .second, .val (.ref bk0), .val (.ref bk1), .val (.ref bk2), .val (.ref bk3), .val (.ref bk4), .val (.ref b17), .val (.ref iv), .val (.ref fo), .val (.ref b81), .val (.ref zo)] own_d_code_178 rfl ?_
  refine own_aload X108 own_d_code_180 rfl ?_
  refine own_ipush X108 own_d_code_182 ?_
  have key : own_pk (fgh ^^^ fzh) (fgl ^^^ fzl) = own_pk i2 i3 := by
    rw [own_pk_xor]
    have hlt : own_pk lhg log = own_pk lhz loz := by rw [hlg, hlz]
    have htt : own_pk thg tlg = own_pk lhg log := by rw [htg, hlg]; rfl
    exact own_law3 (own_pk h1 i1) (own_pk i2 i3) (own_pk oh ol) (own_pk lhg log) (own_pk 0 128) (own_gM (own_pk 0 (((((0 : Int64) + (16 : Int64)) + (16 : Int64)) + (16 : Int64)) * 8)) (own_pk h1 i1)) (own_pk nhg nlg) (own_pk nhg2 nlg2) (own_pk nhg3 nlg3) _ _ (own_pk nhz nlz) (own_pk nhz2 nlz2) (own_pk nhz3 nlz3) (own_pk_lt _ _) (own_pk_lt _ _) (own_pk_lt _ _) hnz hlg (by rw [hov, htt]) hng1 (by rw [hng2, hwg]) (by rw [hng3, hwg]; rfl) hfg (by rw [hnz1, hlt]; rfl) (by rw [hnz2, hwz, hlt]; rfl) (by rw [hnz3, hwz, hlt]; rfl) hfz
  obtain ⟨k1, k2⟩ := own_pk_inj key
  refine own_callS X108 (y := (⟨"com/example/libcachet/libcachet/GhashIvForPinLaw", "read", "([BI)J"⟩ : MethodName)) [(.ref fo), (.int (0 : Int32))] [] 0 rfl (hw _ (List.mem_of_getElem? (i := 75) rfl)) (hw _ (List.mem_of_getElem? (i := 76) rfl)) (hw _ (List.mem_of_getElem? (i := 2) rfl)) (hw _ (List.mem_of_getElem? (i := 77) rfl)) (by decide) (own_read l Z a0 hw fo (0 : Int32) 0 fgh _ h108 n0 X108.sz F111_fo ⟨by decide, by decide⟩ (by decide) (fun i hi => by simp only [own_b16]; rw [if_pos (by omega)]; congr 2; omega)) own_d_code_183 own_pd___BI_J rfl rfl (by show 2 * 0 + _ ≤ _; exact Nat.le_of_eq rfl) (by decide) (by decide) (by decide) (by decide) ?_
  intro T116 h116 v116 X116 P116
  obtain ⟨rfl, eh116⟩ := P116
  rw [eh116] at X116
  show own_Wins p e below A T116 (mkF m 186 #[.val (.long i0), .second, .val (.long i1), .second, .val (.long i2), .second, .val (.long i3), .second, .val (.long i4), .second, .val (.int i5), .val (.long h1), .second, .val (.ref bk0), .val (.ref bk1), .val (.ref bk2), .val (.ref bk3), .val (.ref bk4), .val (.ref b17), .val (.ref iv), .val (.ref fo), .val (.ref b81), .val (.ref zo)] [(.long fgh)])
  refine own_aload X116 own_d_code_186 rfl ?_
  refine own_ipush X116 own_d_code_188 ?_
  refine own_callS X116 (y := (⟨"com/example/libcachet/libcachet/GhashIvForPinLaw", "read", "([BI)J"⟩ : MethodName)) [(.ref zo), (.int (0 : Int32))] [(.long fgh)] 2 rfl (hw _ (List.mem_of_getElem? (i := 75) rfl)) (hw _ (List.mem_of_getElem? (i := 76) rfl)) (hw _ (List.mem_of_getElem? (i := 2) rfl)) (hw _ (List.mem_of_getElem? (i := 77) rfl)) (by decide) (own_read l Z a0 hw zo (0 : Int32) 0 fzh _ h108 n0 X116.sz V108 ⟨by decide, by decide⟩ (by decide) (fun i hi => by simp only [own_b16]; rw [if_pos (by omega)]; congr 2; omega)) own_d_code_189 own_pd___BI_J rfl rfl (by show 2 * 0 + _ ≤ _; exact Nat.le_of_eq rfl) (by decide) (by decide) (by decide) (by decide) ?_
  intro T117 h117 v117 X117 P117
  obtain ⟨rfl, eh117⟩ := P117
  rw [eh117] at X117
  show own_Wins p e below A T117 (mkF m 192 #[.val (.long i0), .second, .val (.long i1), .second, .val (.long i2), .second, .val (.long i3), .second, .val (.long i4), .second, .val (.int i5), .val (.long h1), .second, .val (.ref bk0), .val (.ref bk1), .val (.ref bk2), .val (.ref bk3), .val (.ref bk4), .val (.ref b17), .val (.ref iv), .val (.ref fo), .val (.ref b81), .val (.ref zo)] [(.long fzh), (.long fgh)])
  refine own_lxor X117 own_d_code_192 ?_
  refine own_lload X117 own_d_code_193 rfl ?_
  refine own_lcmp X117 own_d_code_195 ?_
  refine own_ifNo X117 own_d_code_196 ((if0 _ _).trans (teq ((lw_eq (fgh ^^^ fzh) i2).2 k1)).2) ?_
  refine own_aload X117 own_d_code_199 rfl ?_
  refine own_ipush X117 own_d_code_201 ?_
  refine own_callS X117 (y := (⟨"com/example/libcachet/libcachet/GhashIvForPinLaw", "read", "([BI)J"⟩ : MethodName)) [(.ref fo), (.int (8 : Int32))] [] 0 rfl (hw _ (List.mem_of_getElem? (i := 75) rfl)) (hw _ (List.mem_of_getElem? (i := 76) rfl)) (hw _ (List.mem_of_getElem? (i := 2) rfl)) (hw _ (List.mem_of_getElem? (i := 77) rfl)) (by decide) (own_read l Z a0 hw fo (8 : Int32) 8 fgl _ h108 n0 X117.sz F111_fo ⟨by decide, by decide⟩ (by decide) (fun i hi => by simp only [own_b16]; rw [if_neg (by omega)]; congr 2; omega)) own_d_code_203 own_pd___BI_J rfl rfl (by show 2 * 0 + _ ≤ _; exact Nat.le_of_eq rfl) (by decide) (by decide) (by decide) (by decide) ?_
  intro T118 h118 v118 X118 P118
  obtain ⟨rfl, eh118⟩ := P118
  rw [eh118] at X118
  show own_Wins p e below A T118 (mkF m 206 #[.val (.long i0), .second, .val (.long i1), .second, .val (.long i2), .second, .val (.long i3), .second, .val (.long i4), .second, .val (.int i5), .val (.long h1), .second, .val (.ref bk0), .val (.ref bk1), .val (.ref bk2), .val (.ref bk3), .val (.ref bk4), .val (.ref b17), .val (.ref iv), .val (.ref fo), .val (.ref b81), .val (.ref zo)] [(.long fgl)])
  refine own_aload X118 own_d_code_206 rfl ?_
  refine own_ipush X118 own_d_code_208 ?_
  refine own_callS X118 (y := (⟨"com/example/libcachet/libcachet/GhashIvForPinLaw", "read", "([BI)J"⟩ : MethodName)) [(.ref zo), (.int (8 : Int32))] [(.long fgl)] 2 rfl (hw _ (List.mem_of_getElem? (i := 75) rfl)) (hw _ (List.mem_of_getElem? (i := 76) rfl)) (hw _ (List.mem_of_getElem? (i := 2) rfl)) (hw _ (List.mem_of_getElem? (i := 77) rfl)) (by decide) (own_read l Z a0 hw zo (8 : Int32) 8 fzl _ h108 n0 X118.sz V108 ⟨by decide, by decide⟩ (by decide) (fun i hi => by simp only [own_b16]; rw [if_neg (by omega)]; congr 2; omega)) own_d_code_210 own_pd___BI_J rfl rfl (by show 2 * 0 + _ ≤ _; exact Nat.le_of_eq rfl) (by decide) (by decide) (by decide) (by decide) ?_
  intro T119 h119 v119 X119 P119
  obtain ⟨rfl, eh119⟩ := P119
  rw [eh119] at X119
  show own_Wins p e below A T119 (mkF m 213 #[.val (.long i0), .second, .val (.long i1), .second, .val (.long i2), .second, .val (.long i3), .second, .val (.long i4), .second, .val (.int i5), .val (.long h1), .second, .val (.ref bk0), .val (.ref bk1), .val (.ref bk2), .val (.ref bk3), .val (.ref bk4), .val (.ref b17), .val (.ref iv), .val (.ref fo), .val (.ref b81), .val (.ref zo)] [(.long fzl), (.long fgl)])
  refine own_lxor X119 own_d_code_213 ?_
  refine own_lload X119 own_d_code_214 rfl ?_
  refine own_lcmp X119 own_d_code_216 ?_
  refine own_ifNo X119 own_d_code_217 ((if0 _ _).trans (teq ((lw_eq (fgl ^^^ fzl) i3).2 k2)).2) ?_
  refine own_ipush X119 own_d_code_220 ?_
  refine own_goto X119 own_d_code_221 ?_
  exact own_retZ X119 hret rfl fin (by decide) (by decide) rfl own_d_code_225
set_option maxRecDepth 65536 in
set_option maxHeartbeats 40000000 in
theorem own_comes {Post : Tables → Env → Array Value → State → Outcome → State → Prop} (hpost : ∀ tb e args s v u, (limb_1_1.after args s (.returned v) u = true ∧ limb_1_2.after args s (.returned v) u = true) → FrameEnd s (.returned v) u (Jvm.fieldLocs frame_1_writes args s ++ Jvm.arrayLocs frame_1_arrays args s ++ Jvm.staticLocs frame_1_statics s) 360 1088 → Post tb e args s (.returned v) u) :
    ArmFor flags0 classFile x code maxLocals ret World_1 tables_1 room_1 Calls_1 rest_1 Pre_1 Post := by
  intro l hfl _ _ p e ha hc hk s m args below hf hA hF happ hP
  obtain ⟨hcalls, hrest, hpre⟩ := hP
  obtain ⟨-, -, -, hnamed, -, -, -, hat⟩ := (Spec.applies_iff hf).mp happ
  obtain ⟨hg, hn⟩ := and_e (Cond.before_iff.mp (show (Jvm.Cond.and given_1 narrow_1).before args s = true from hpre))
  obtain ⟨gc, g0⟩ := and_e hg
  obtain ⟨q0, g1⟩ := and_e g0
  obtain ⟨q1, g2⟩ := and_e g1
  obtain ⟨q2, g3⟩ := and_e g2
  obtain ⟨q3, g4⟩ := and_e g3
  obtain ⟨q4, g5⟩ := and_e g4
  obtain ⟨w0, w1, w2, w3, w4, w5, rfl⟩ : ∃ w0 w1 w2 w3 w4 w5 : Value, args = #[w0, w1, w2, w3, w4, w5] := by
    have hs : args.size = 6 := by simpa [Cond.value, given_1] using gc
    obtain ⟨L⟩ := args
    match L, hs with
    | [w0, w1, w2, w3, w4, w5], _ => exact ⟨w0, w1, w2, w3, w4, w5, rfl⟩
  have hw := fun d (hd : d ∈ tables_1) => atoms_spec (ws := Jvm.Cond.code x code maxLocals ret :: tables_1) hat d (List.mem_cons_of_mem _ hd)
  obtain ⟨i0, ei0⟩ := isL_v q0
  obtain rfl : w0 = (.long i0) := Option.some.inj ei0
  obtain ⟨i1, ei1⟩ := isL_v q1
  obtain rfl : w1 = (.long i1) := Option.some.inj ei1
  obtain ⟨i2, ei2⟩ := isL_v q2
  obtain rfl : w2 = (.long i2) := Option.some.inj ei2
  obtain ⟨i3, ei3⟩ := isL_v q3
  obtain rfl : w3 = (.long i3) := Option.some.inj ei3
  obtain ⟨i4, ei4⟩ := isL_v q4
  obtain rfl : w4 = (.long i4) := Option.some.inj ei4
  obtain ⟨i5, ei5⟩ := is_v g5
  obtain rfl : w5 = (.int i5) := Option.some.inj ei5
  obtain ⟨n, o, h1, h2, h3, _, L, rfl, ⟨N, -, rfl⟩, hq⟩ := own_law l s _ hw i0 i1 i2 i3 i4 i5 s.heap s.heap.size (Nat.le_refl _) p e ha hc hk s m _ below hf ((Spec.applies_iff_loose hf).mp happ).1 ⟨rfl, State.Warmed39.refl s, rfl⟩ trivial
  refine ⟨n, _, h1, h2, h3, hpost _ _ _ _ _ _ ⟨Cond.after_iff.mpr rfl, Cond.after_iff.mpr (eq_i res_at (Term.int_eval (1)) rfl)⟩ ⟨hq.1, hq.2.1, (hq.2.2.sift fun y hy => Or.inr (N y hy)).mono (by decide) (by decide)⟩⟩
theorem main_1_1 : Claimed_1_1 := own_comes fun _ _ _ _ _ _ h hF => ⟨h.1, hF⟩
theorem main_1_2 : Claimed_1_2 := own_comes fun _ _ _ _ _ _ h hF => ⟨h.2, hF⟩
end Jvm.Pilot.@@N@@
namespace Jvm.Pilot.@@N@@
open Jvm Jvm.ClassFile Sem Op Lib Jvm.Free Jvm.Stand Jvm.Pilot.@@N@@.Jvm.D
/-! MADE BY PROGRAM (witnessworld.py) out of the Statement's table words and the real class files: 11 classes; the members and pool entries that the words name. The judged class is class 1, her method 1. -/
namespace start1
open Jvm.ClassFile
def u (s : String) : CpInfo := .utf8 (stringToUtf16 s)
/-- a pool by its gaps: so many unusable entries, then the entry; so many at the end -/
def gap : Nat → List CpInfo → List CpInfo
  | 0, r => r
  | n + 1, r => .unusable :: gap n r
def poolList (es : List (Nat × CpInfo)) (last : Nat) : List CpInfo := es.foldr (fun e r => gap e.1 (e.2 :: r)) (gap last [])
def pool (es : List (Nat × CpInfo)) (last : Nat) : Array CpInfo := ⟨poolList es last⟩
def fileOf (pool : Array CpInfo) (this : Nat) (attrs : Array Attribute := #[]) (ms : Array MethodInfo := #[]) (fl : Nat := 33) (sup : Nat := 0) (ifs : Array Nat := #[]) (fds : Array FieldInfo := #[]) : ClassFile where
  minorVersion := 0
  majorVersion := 65
  constantPool := pool
  accessFlags := fl
  thisClass := this
  superClass := sup
  interfaces := ifs
  fields := fds
  methods := ms
  attributes := attrs
def plain (name : String) (sup : Option ClassId) : Class where
  name := name
  kind := .ordinary
  loader := none
  accessFlags := 33
  super := sup
  interfaces := #[]
  cf := none
  fields := #[]
  methods := #[]
  instanceTypes := #[]
  staticTypes := #[]
  resolved := #[]
  callSites := []
  init := .initialized
  statics := none
  mirror := none

def pool0 : Array CpInfo := pool [(5, u "<init>"), (0, u "()V"), (1, .class_ 10), (1, u "java/lang/Object")] 113

def k0c0 : Code := { maxStack := 0, maxLocals := 1, code := object_method_1_code, exceptionTable := #[], attributes := #[] }
def k0m0 : Method := { name := "<init>", desc := "()V", sig := { parameters := [], returnType := none }, accessFlags := 1, code := some k0c0 }
/-- java/lang/Object -/
def k0 : Class := { plain "java/lang/Object" none with
  accessFlags := 33
  interfaces := #[]
  cf := some (fileOf pool0 8 #[] #[{ accessFlags := 1, nameIndex := 5, descriptorIndex := 6, attributes := #[] }] 33 0 #[] #[])
  fields := #[]
  methods := #[k0m0]
  instanceTypes := #[]
  staticTypes := #[]
  resolved := Array.replicate 124 none
  statics := none }

def pool1 : Array CpInfo := pool [(2, .class_ 4), (1, u "java/lang/Object"), (0, u "<init>"), (0, u "()V"), (2, .long 9223372036854775808), (1, .methodref 12 13), (0, .class_ 14), (0, .nameAndType 15 16), (0, u "com/example/libcachet/libcachet/GhashIvForPinLaw"), (0, u "block"), (0, u "(JJ)[B"), (0, .long 128), (1, .class_ 20), (0, u "com/example/libcachet/libcachet/Ghash"), (0, .methodref 19 22), (0, .nameAndType 5 23), (0, u "([B)V"), (0, .methodref 19 25), (0, .nameAndType 26 27), (0, u "ivFor"), (0, u "([B)[B"), (0, .long 16), (1, .methodref 19 31), (0, .nameAndType 32 33), (0, u "add"), (0, u "([BJ)V"), (0, .methodref 19 35), (0, .nameAndType 36 37), (0, u "finish"), (0, u "()[B"), (0, .methodref 12 39), (0, .nameAndType 40 41), (0, u "read"), (0, u "([BI)J"), (2, u "law"), (0, u "(JJJJJI)Z")] 5

def k1m0 : Method := { name := "<init>", desc := "()V", sig := { parameters := [], returnType := none }, accessFlags := 1, code := none }
def k1c1 : Code := { maxStack := 6, maxLocals := 23, code := code, exceptionTable := #[], attributes := #[] }
def k1m1 : Method := { name := "law", desc := "(JJJJJI)Z", sig := { parameters := [.long, .long, .long, .long, .long, .int], returnType := some .boolean }, accessFlags := 9, code := some k1c1 }
def k1c2 : Code := { maxStack := 5, maxLocals := 5, code := method_3_code, exceptionTable := #[], attributes := #[] }
def k1m2 : Method := { name := "block", desc := "(JJ)[B", sig := { parameters := [.long, .long], returnType := some (.array .byte) }, accessFlags := 10, code := some k1c2 }
def k1c3 : Code := { maxStack := 5, maxLocals := 2, code := method_4_code, exceptionTable := #[], attributes := #[] }
def k1m3 : Method := { name := "read", desc := "([BI)J", sig := { parameters := [(.array .byte), .int], returnType := some .long }, accessFlags := 10, code := some k1c3 }
/-- com/example/libcachet/libcachet/GhashIvForPinLaw -/
def k1 : Class := { plain "com/example/libcachet/libcachet/GhashIvForPinLaw" (some 0) with
  accessFlags := 49
  interfaces := #[]
  cf := some (fileOf pool1 12 #[] #[{ accessFlags := 1, nameIndex := 5, descriptorIndex := 6, attributes := #[] }, { accessFlags := 9, nameIndex := 44, descriptorIndex := 45, attributes := #[] }, { accessFlags := 10, nameIndex := 15, descriptorIndex := 16, attributes := #[] }, { accessFlags := 10, nameIndex := 40, descriptorIndex := 41, attributes := #[] }] 49 2 #[] #[])
  fields := #[]
  methods := #[k1m0, k1m1, k1m2, k1m3]
  instanceTypes := #[]
  staticTypes := #[]
  resolved := Array.replicate 51 none
  statics := none }

def pool2 : Array CpInfo := pool [(1, .methodref 2 3), (0, .class_ 4), (0, .nameAndType 5 6), (0, u "java/lang/Object"), (0, u "<init>"), (0, u "()V"), (0, .methodref 8 9), (0, .class_ 10), (0, .nameAndType 11 12), (0, u "com/example/libcachet/libcachet/Ghash"), (0, u "long8"), (0, u "([BI)J"), (0, .fieldref 8 14), (0, .nameAndType 15 16), (0, u "subkeyHigh"), (0, u "J"), (0, .fieldref 8 18), (0, .nameAndType 19 16), (0, u "subkeyLow"), (0, .long 128), (1, .methodref 8 23), (0, .nameAndType 24 25), (0, u "multiply"), (0, u "(JJJJ)[J"), (0, .fieldref 8 27), (0, .nameAndType 28 29), (0, u "ivLengthTerm"), (0, u "[J"), (0, .fieldref 8 31), (0, .nameAndType 32 33), (0, u "ended"), (0, u "Z"), (7, .fieldref 8 42), (0, .nameAndType 43 16), (0, u "termLength"), (0, .long 8), (1, .fieldref 8 47), (0, .nameAndType 48 29), (0, u "lengthTerm"), (0, .long 16), (1, .methodref 8 52), (0, .nameAndType 53 54), (0, u "power"), (0, u "(J)[J"), (0, .fieldref 8 56), (0, .nameAndType 53 29), (0, .fieldref 8 58), (0, .nameAndType 59 16), (0, u "sumHigh"), (0, .fieldref 8 61), (0, .nameAndType 62 16), (0, u "sumLow"), (0, .fieldref 8 64), (0, .nameAndType 65 16), (0, u "length"), (0, .methodref 8 67), (0, .nameAndType 68 69), (0, u "bytes"), (0, u "(JJ)[B"), (0, .fieldref 8 71), (0, .nameAndType 72 29), (0, u "inverseSquare"), (0, .methodref 8 74), (0, .nameAndType 75 76), (0, u "inverse"), (0, u "(JJ)[J"), (2, .long 9223372036854775808), (1, .long 16212958658533785600), (1, u "BLOCK"), (0, u "I"), (2, u "R"), (0, u "IV_BITS"), (0, u "([B)V"), (2, u "add"), (0, u "([BJ)V"), (5, u "finish"), (0, u "()[B"), (0, u "ivFor"), (0, u "([B)[B")] 2

def k2c0 : Code := { maxStack := 9, maxLocals := 2, code := prog_70_method_1_code, exceptionTable := #[], attributes := #[] }
def k2m0 : Method := { name := "<init>", desc := "([B)V", sig := { parameters := [(.array .byte)], returnType := none }, accessFlags := 0, code := some k2c0 }
def k2c1 : Code := { maxStack := 9, maxLocals := 5, code := prog_70_method_2_code, exceptionTable := #[], attributes := #[] }
def k2m1 : Method := { name := "add", desc := "([BJ)V", sig := { parameters := [(.array .byte), .long], returnType := none }, accessFlags := 0, code := some k2c1 }
def k2c2 : Code := { maxStack := 8, maxLocals := 2, code := prog_70_method_4_code, exceptionTable := #[], attributes := #[] }
def k2m2 : Method := { name := "finish", desc := "()[B", sig := { parameters := [], returnType := some (.array .byte) }, accessFlags := 0, code := some k2c2 }
def k2c3 : Code := { maxStack := 8, maxLocals := 3, code := prog_70_method_5_code, exceptionTable := #[], attributes := #[] }
def k2m3 : Method := { name := "ivFor", desc := "([B)[B", sig := { parameters := [(.array .byte)], returnType := some (.array .byte) }, accessFlags := 0, code := some k2c3 }
def k2c4 : Code := { maxStack := 8, maxLocals := 7, code := prog_70_method_6_code, exceptionTable := #[], attributes := #[] }
def k2m4 : Method := { name := "power", desc := "(J)[J", sig := { parameters := [.long], returnType := some (.array .long) }, accessFlags := 2, code := some k2c4 }
def k2c5 : Code := { maxStack := 8, maxLocals := 11, code := prog_70_method_7_code, exceptionTable := #[], attributes := #[] }
def k2m5 : Method := { name := "inverse", desc := "(JJ)[J", sig := { parameters := [.long, .long], returnType := some (.array .long) }, accessFlags := 10, code := some k2c5 }
def k2c6 : Code := { maxStack := 6, maxLocals := 24, code := prog_70_method_8_code, exceptionTable := #[], attributes := #[] }
def k2m6 : Method := { name := "multiply", desc := "(JJJJ)[J", sig := { parameters := [.long, .long, .long, .long], returnType := some (.array .long) }, accessFlags := 10, code := some k2c6 }
def k2c7 : Code := { maxStack := 5, maxLocals := 5, code := prog_70_method_9_code, exceptionTable := #[], attributes := #[] }
def k2m7 : Method := { name := "long8", desc := "([BI)J", sig := { parameters := [(.array .byte), .int], returnType := some .long }, accessFlags := 10, code := some k2c7 }
def k2c8 : Code := { maxStack := 7, maxLocals := 6, code := prog_70_method_10_code, exceptionTable := #[], attributes := #[] }
def k2m8 : Method := { name := "bytes", desc := "(JJ)[B", sig := { parameters := [.long, .long], returnType := some (.array .byte) }, accessFlags := 10, code := some k2c8 }
/-- com/example/libcachet/libcachet/Ghash -/
def k2 : Class := { plain "com/example/libcachet/libcachet/Ghash" (some 0) with
  accessFlags := 32
  interfaces := #[]
  cf := some (fileOf pool2 8 #[] #[{ accessFlags := 0, nameIndex := 5, descriptorIndex := 89, attributes := #[] }, { accessFlags := 0, nameIndex := 92, descriptorIndex := 93, attributes := #[] }, { accessFlags := 0, nameIndex := 99, descriptorIndex := 100, attributes := #[] }, { accessFlags := 0, nameIndex := 101, descriptorIndex := 102, attributes := #[] }, { accessFlags := 2, nameIndex := 53, descriptorIndex := 54, attributes := #[] }, { accessFlags := 10, nameIndex := 75, descriptorIndex := 76, attributes := #[] }, { accessFlags := 10, nameIndex := 24, descriptorIndex := 25, attributes := #[] }, { accessFlags := 10, nameIndex := 11, descriptorIndex := 12, attributes := #[] }, { accessFlags := 10, nameIndex := 68, descriptorIndex := 69, attributes := #[] }] 32 2 #[] #[{ accessFlags := 24, nameIndex := 83, descriptorIndex := 84, attributes := #[] }, { accessFlags := 26, nameIndex := 87, descriptorIndex := 16, attributes := #[] }, { accessFlags := 26, nameIndex := 88, descriptorIndex := 16, attributes := #[] }, { accessFlags := 18, nameIndex := 15, descriptorIndex := 16, attributes := #[] }, { accessFlags := 18, nameIndex := 19, descriptorIndex := 16, attributes := #[] }, { accessFlags := 18, nameIndex := 28, descriptorIndex := 29, attributes := #[] }, { accessFlags := 2, nameIndex := 59, descriptorIndex := 16, attributes := #[] }, { accessFlags := 2, nameIndex := 62, descriptorIndex := 16, attributes := #[] }, { accessFlags := 2, nameIndex := 65, descriptorIndex := 16, attributes := #[] }, { accessFlags := 2, nameIndex := 32, descriptorIndex := 33, attributes := #[] }, { accessFlags := 2, nameIndex := 43, descriptorIndex := 16, attributes := #[] }, { accessFlags := 2, nameIndex := 48, descriptorIndex := 29, attributes := #[] }, { accessFlags := 2, nameIndex := 53, descriptorIndex := 29, attributes := #[] }, { accessFlags := 2, nameIndex := 72, descriptorIndex := 29, attributes := #[] }])
  fields := #[{ name := "BLOCK", type := .int, accessFlags := 24, slot := 0, constantValue := 0 }, { name := "R", type := .long, accessFlags := 26, slot := 1, constantValue := 0 }, { name := "IV_BITS", type := .long, accessFlags := 26, slot := 2, constantValue := 0 }, { name := "subkeyHigh", type := .long, accessFlags := 18, slot := 0, constantValue := 0 }, { name := "subkeyLow", type := .long, accessFlags := 18, slot := 1, constantValue := 0 }, { name := "ivLengthTerm", type := (.array .long), accessFlags := 18, slot := 2, constantValue := 0 }, { name := "sumHigh", type := .long, accessFlags := 2, slot := 3, constantValue := 0 }, { name := "sumLow", type := .long, accessFlags := 2, slot := 4, constantValue := 0 }, { name := "length", type := .long, accessFlags := 2, slot := 5, constantValue := 0 }, { name := "ended", type := .boolean, accessFlags := 2, slot := 6, constantValue := 0 }, { name := "termLength", type := .long, accessFlags := 2, slot := 7, constantValue := 0 }, { name := "lengthTerm", type := (.array .long), accessFlags := 2, slot := 8, constantValue := 0 }, { name := "power", type := (.array .long), accessFlags := 2, slot := 9, constantValue := 0 }, { name := "inverseSquare", type := (.array .long), accessFlags := 2, slot := 10, constantValue := 0 }]
  methods := #[k2m0, k2m1, k2m2, k2m3, k2m4, k2m5, k2m6, k2m7, k2m8]
  instanceTypes := #[.long, .long, (.array .long), .long, .long, .long, .boolean, .long, (.array .long), (.array .long), (.array .long)]
  staticTypes := #[.int, .long, .long]
  resolved := Array.replicate 105 none
  statics := none }

def pool3 : Array CpInfo := pool [(1, u "java/lang/Cloneable"), (0, .class_ 1), (0, u "java/lang/Object"), (0, .class_ 3)] 3

/-- java/lang/Cloneable -/
def k3 : Class := { plain "java/lang/Cloneable" (some 0) with
  accessFlags := 1537
  interfaces := #[]
  cf := some (fileOf pool3 2 #[] #[] 1537 4 #[] #[])
  fields := #[]
  methods := #[]
  instanceTypes := #[]
  staticTypes := #[]
  resolved := Array.replicate 8 none
  statics := none }

def pool4 : Array CpInfo := pool [(1, u "java/io/Serializable"), (0, .class_ 1), (0, u "java/lang/Object"), (0, .class_ 3)] 3

/-- java/io/Serializable -/
def k4 : Class := { plain "java/io/Serializable" (some 0) with
  accessFlags := 1537
  interfaces := #[]
  cf := some (fileOf pool4 2 #[] #[] 1537 4 #[] #[])
  fields := #[]
  methods := #[]
  instanceTypes := #[]
  staticTypes := #[]
  resolved := Array.replicate 8 none
  statics := none }

/-- the primitive byte -/
def k5 : Class := { plain "byte" none with kind := .primitive 'B', accessFlags := 0x411 }
/-- [B -/
def k6 : Class := { plain "[B" (some 0) with kind := .array 5 .byte, interfaces := #[3, 4], accessFlags := 1041 }

/-- the primitive int -/
def k7 : Class := { plain "int" none with kind := .primitive 'I', accessFlags := 0x411 }
/-- [I -/
def k8 : Class := { plain "[I" (some 0) with kind := .array 7 .int, interfaces := #[3, 4], accessFlags := 1041 }

/-- the primitive long -/
def k9 : Class := { plain "long" none with kind := .primitive 'J', accessFlags := 0x411 }
/-- [J -/
def k10 : Class := { plain "[J" (some 0) with kind := .array 9 .long, interfaces := #[3, 4], accessFlags := 1041 }

def heap : Heap := #[]
def classes : Array Class := #[k0, k1, k2, k3, k4, k5, k6, k7, k8, k9, k10]
def interned : List (Array UInt16 × Addr) := []
def slotsUsed : Nat := 0
def theMethod : MethodId := ⟨1, 1⟩
def args0 : Array Value := #[.long 5, .long 6, .long 7, .long 8, .long 9, .int 10]
def aboutOver (below : List Frame) : State where
  vm := { classes := classes, interned := interned.toArray }
  heap := heap
  slotsUsed := slotsUsed
  threads := #[{ frames := .invoking theMethod args0 :: below }]
def below0 : List Frame := [.native { method := ⟨0, 0⟩, args := #[] }]
def about1 : State := aboutOver below0
def p0 : Program := .bare "" "" ""
def e0 : Env := launch0.env 0 0 0
theorem w_frames : about1.frames = Frame.invoking theMethod args0 :: below0 := rfl
set_option maxRecDepth 65536 in
theorem w_args : argsFit about1.vm theMethod args0 = true := by decide +kernel
set_option maxRecDepth 65536 in
theorem w_heap : heapFits about1 = true := by decide +kernel
set_option maxRecDepth 65536 in
theorem w_runnable : about1.curStatus? = some .runnable := by decide +kernel
set_option maxRecDepth 65536 in
theorem w_alone : about1.alone = true := by decide +kernel
set_option maxRecDepth 65536 in
theorem w_named : about1.methodNamed? x = some theMethod := by decide +kernel
set_option maxRecDepth 65536 in
theorem w_hears : about1.hears theMethod below0 = true := by decide +kernel
set_option maxRecDepth 65536 in
theorem w_ripe : about1.ripe theMethod args0 below0 = true := by decide +kernel
theorem w_running : about1.status = .running := rfl
set_option maxRecDepth 65536 in
theorem w_room : about1.hasRoom e0.platform room_1 = true :=
  launch0.hasRoom_least _ room_1 (by decide +kernel) (by decide +kernel) (by decide +kernel) (by decide +kernel) (by decide +kernel) (by decide +kernel)
theorem allAtoms_all (ts : List Jvm.Cond) (a : Array Jvm.Value) (st : Jvm.State) : (allAtoms ts).before a st = ts.all (fun c => c.before a st) := by
  induction ts with
  | nil => rfl
  | cons c t ih =>
    show (Jvm.Cond.and c (allAtoms t)).before a st = _
    rw [Jvm.Cond.before_and, ih, List.all_cons]
def words1 : List Jvm.Cond := Jvm.Cond.code x code maxLocals ret :: tables_1
/-- a 'code' word, met by the world's own term for the bytes: nothing is compared byte by byte -/
theorem code_word {y : MethodName} {bytes : ByteArray} {mx : Nat} {rt : Option FieldType} {a : Array Value} {s : State} {m : MethodId} {meth : Method} {c : Code} (h1 : s.methodNamed? y = some m) (h2 : s.vm.method? m = some meth) (h3 : meth.code = some c) (h4 : c.code = bytes)
    (h5 : (c.maxLocals == mx && c.exceptionTable.isEmpty && decide (c.maxStack ≤ mostOperands) && decide (meth.sig.returnType = rt) && !meth.locks && decide (parseMethodDescriptor y.desc = some meth.sig)) = true) : (Jvm.Cond.code y bytes mx rt).before a s = true := by
  simp only [Bool.and_eq_true, beq_iff_eq, Bool.not_eq_true', decide_eq_true_eq] at h5
  obtain ⟨⟨⟨⟨⟨g1, g2⟩, g3⟩, g4⟩, g5⟩, g6⟩ := h5
  simp [Cond.before, Cond.holds, Cond.value, h1, h2, h3, h4, g1, g2, g3, g4, g5, g6]
def isCode : Jvm.Cond → Bool
  | .code _ _ _ _ => true
  | _ => false
theorem all_split {L : List Jvm.Cond} {P : Jvm.Cond → Bool} (h1 : L.all (fun c => isCode c || P c) = true) (h2 : ∀ c ∈ L.filter isCode, P c = true) : L.all P = true := by
  refine List.all_eq_true.mpr fun c hc => ?_
  have h := List.all_eq_true.mp h1 c hc
  rcases Bool.eq_false_or_eq_true (isCode c) with hi | hi
  · exact h2 c (List.mem_filter.mpr ⟨hc, hi⟩)
  · simpa [hi] using h
set_option maxRecDepth 65536 in
theorem w_c0 : (Jvm.Cond.code x code maxLocals ret).before args0 about1 = true := code_word (m := ⟨1, 1⟩) (meth := k1m1) (c := k1c1) (by decide +kernel) rfl rfl rfl (by decide +kernel)
set_option maxRecDepth 65536 in
theorem w_c1 : (Jvm.Cond.code ({ cls := "com/example/libcachet/libcachet/GhashIvForPinLaw", name := "block", desc := "(JJ)[B" } : Jvm.MethodName) method_3_code (5 : Nat) (Option.some (Jvm.ClassFile.FieldType.array Jvm.ClassFile.FieldType.byte))).before args0 about1 = true := code_word (m := ⟨1, 2⟩) (meth := k1m2) (c := k1c2) (by decide +kernel) rfl rfl rfl (by decide +kernel)
set_option maxRecDepth 65536 in
theorem w_c2 : (Jvm.Cond.code ({ cls := "com/example/libcachet/libcachet/Ghash", name := "<init>", desc := "([B)V" } : Jvm.MethodName) prog_70_method_1_code (2 : Nat) (Option.none : Option Jvm.ClassFile.FieldType)).before args0 about1 = true := code_word (m := ⟨2, 0⟩) (meth := k2m0) (c := k2c0) (by decide +kernel) rfl rfl rfl (by decide +kernel)
set_option maxRecDepth 65536 in
theorem w_c3 : (Jvm.Cond.code ({ cls := "java/lang/Object", name := "<init>", desc := "()V" } : Jvm.MethodName) object_method_1_code (1 : Nat) (Option.none : Option Jvm.ClassFile.FieldType)).before args0 about1 = true := code_word (m := ⟨0, 0⟩) (meth := k0m0) (c := k0c0) (by decide +kernel) rfl rfl rfl (by decide +kernel)
set_option maxRecDepth 65536 in
theorem w_c4 : (Jvm.Cond.code ({ cls := "com/example/libcachet/libcachet/Ghash", name := "long8", desc := "([BI)J" } : Jvm.MethodName) prog_70_method_9_code (5 : Nat) (Option.some Jvm.ClassFile.FieldType.long)).before args0 about1 = true := code_word (m := ⟨2, 7⟩) (meth := k2m7) (c := k2c7) (by decide +kernel) rfl rfl rfl (by decide +kernel)
set_option maxRecDepth 65536 in
theorem w_c5 : (Jvm.Cond.code ({ cls := "com/example/libcachet/libcachet/Ghash", name := "multiply", desc := "(JJJJ)[J" } : Jvm.MethodName) prog_70_method_8_code (24 : Nat) (Option.some (Jvm.ClassFile.FieldType.array Jvm.ClassFile.FieldType.long))).before args0 about1 = true := code_word (m := ⟨2, 6⟩) (meth := k2m6) (c := k2c6) (by decide +kernel) rfl rfl rfl (by decide +kernel)
set_option maxRecDepth 65536 in
theorem w_c6 : (Jvm.Cond.code ({ cls := "com/example/libcachet/libcachet/Ghash", name := "ivFor", desc := "([B)[B" } : Jvm.MethodName) prog_70_method_5_code (3 : Nat) (Option.some (Jvm.ClassFile.FieldType.array Jvm.ClassFile.FieldType.byte))).before args0 about1 = true := code_word (m := ⟨2, 3⟩) (meth := k2m3) (c := k2c3) (by decide +kernel) rfl rfl rfl (by decide +kernel)
set_option maxRecDepth 65536 in
theorem w_c7 : (Jvm.Cond.code ({ cls := "com/example/libcachet/libcachet/Ghash", name := "inverse", desc := "(JJ)[J" } : Jvm.MethodName) prog_70_method_7_code (11 : Nat) (Option.some (Jvm.ClassFile.FieldType.array Jvm.ClassFile.FieldType.long))).before args0 about1 = true := code_word (m := ⟨2, 5⟩) (meth := k2m5) (c := k2c5) (by decide +kernel) rfl rfl rfl (by decide +kernel)
set_option maxRecDepth 65536 in
theorem w_c8 : (Jvm.Cond.code ({ cls := "com/example/libcachet/libcachet/Ghash", name := "bytes", desc := "(JJ)[B" } : Jvm.MethodName) prog_70_method_10_code (6 : Nat) (Option.some (Jvm.ClassFile.FieldType.array Jvm.ClassFile.FieldType.byte))).before args0 about1 = true := code_word (m := ⟨2, 8⟩) (meth := k2m8) (c := k2c8) (by decide +kernel) rfl rfl rfl (by decide +kernel)
set_option maxRecDepth 65536 in
theorem w_c9 : (Jvm.Cond.code ({ cls := "com/example/libcachet/libcachet/Ghash", name := "add", desc := "([BJ)V" } : Jvm.MethodName) prog_70_method_2_code (5 : Nat) (Option.none : Option Jvm.ClassFile.FieldType)).before args0 about1 = true := code_word (m := ⟨2, 1⟩) (meth := k2m1) (c := k2c1) (by decide +kernel) rfl rfl rfl (by decide +kernel)
set_option maxRecDepth 65536 in
theorem w_c10 : (Jvm.Cond.code ({ cls := "com/example/libcachet/libcachet/Ghash", name := "power", desc := "(J)[J" } : Jvm.MethodName) prog_70_method_6_code (7 : Nat) (Option.some (Jvm.ClassFile.FieldType.array Jvm.ClassFile.FieldType.long))).before args0 about1 = true := code_word (m := ⟨2, 4⟩) (meth := k2m4) (c := k2c4) (by decide +kernel) rfl rfl rfl (by decide +kernel)
set_option maxRecDepth 65536 in
theorem w_c11 : (Jvm.Cond.code ({ cls := "com/example/libcachet/libcachet/Ghash", name := "finish", desc := "()[B" } : Jvm.MethodName) prog_70_method_4_code (2 : Nat) (Option.some (Jvm.ClassFile.FieldType.array Jvm.ClassFile.FieldType.byte))).before args0 about1 = true := code_word (m := ⟨2, 2⟩) (meth := k2m2) (c := k2c2) (by decide +kernel) rfl rfl rfl (by decide +kernel)
set_option maxRecDepth 65536 in
theorem w_c12 : (Jvm.Cond.code ({ cls := "com/example/libcachet/libcachet/GhashIvForPinLaw", name := "read", desc := "([BI)J" } : Jvm.MethodName) method_4_code (2 : Nat) (Option.some Jvm.ClassFile.FieldType.long)).before args0 about1 = true := code_word (m := ⟨1, 3⟩) (meth := k1m3) (c := k1c3) (by decide +kernel) rfl rfl rfl (by decide +kernel)
def codes1 : List Jvm.Cond := [Jvm.Cond.code x code maxLocals ret, Jvm.Cond.code ({ cls := "com/example/libcachet/libcachet/GhashIvForPinLaw", name := "block", desc := "(JJ)[B" } : Jvm.MethodName) method_3_code (5 : Nat) (Option.some (Jvm.ClassFile.FieldType.array Jvm.ClassFile.FieldType.byte)), Jvm.Cond.code ({ cls := "com/example/libcachet/libcachet/Ghash", name := "<init>", desc := "([B)V" } : Jvm.MethodName) prog_70_method_1_code (2 : Nat) (Option.none : Option Jvm.ClassFile.FieldType), Jvm.Cond.code ({ cls := "java/lang/Object", name := "<init>", desc := "()V" } : Jvm.MethodName) object_method_1_code (1 : Nat) (Option.none : Option Jvm.ClassFile.FieldType), Jvm.Cond.code ({ cls := "com/example/libcachet/libcachet/Ghash", name := "long8", desc := "([BI)J" } : Jvm.MethodName) prog_70_method_9_code (5 : Nat) (Option.some Jvm.ClassFile.FieldType.long), Jvm.Cond.code ({ cls := "com/example/libcachet/libcachet/Ghash", name := "multiply", desc := "(JJJJ)[J" } : Jvm.MethodName) prog_70_method_8_code (24 : Nat) (Option.some (Jvm.ClassFile.FieldType.array Jvm.ClassFile.FieldType.long)), Jvm.Cond.code ({ cls := "com/example/libcachet/libcachet/Ghash", name := "ivFor", desc := "([B)[B" } : Jvm.MethodName) prog_70_method_5_code (3 : Nat) (Option.some (Jvm.ClassFile.FieldType.array Jvm.ClassFile.FieldType.byte)), Jvm.Cond.code ({ cls := "com/example/libcachet/libcachet/Ghash", name := "inverse", desc := "(JJ)[J" } : Jvm.MethodName) prog_70_method_7_code (11 : Nat) (Option.some (Jvm.ClassFile.FieldType.array Jvm.ClassFile.FieldType.long)), Jvm.Cond.code ({ cls := "com/example/libcachet/libcachet/Ghash", name := "bytes", desc := "(JJ)[B" } : Jvm.MethodName) prog_70_method_10_code (6 : Nat) (Option.some (Jvm.ClassFile.FieldType.array Jvm.ClassFile.FieldType.byte)), Jvm.Cond.code ({ cls := "com/example/libcachet/libcachet/Ghash", name := "add", desc := "([BJ)V" } : Jvm.MethodName) prog_70_method_2_code (5 : Nat) (Option.none : Option Jvm.ClassFile.FieldType), Jvm.Cond.code ({ cls := "com/example/libcachet/libcachet/Ghash", name := "power", desc := "(J)[J" } : Jvm.MethodName) prog_70_method_6_code (7 : Nat) (Option.some (Jvm.ClassFile.FieldType.array Jvm.ClassFile.FieldType.long)), Jvm.Cond.code ({ cls := "com/example/libcachet/libcachet/Ghash", name := "finish", desc := "()[B" } : Jvm.MethodName) prog_70_method_4_code (2 : Nat) (Option.some (Jvm.ClassFile.FieldType.array Jvm.ClassFile.FieldType.byte)), Jvm.Cond.code ({ cls := "com/example/libcachet/libcachet/GhashIvForPinLaw", name := "read", desc := "([BI)J" } : Jvm.MethodName) method_4_code (2 : Nat) (Option.some Jvm.ClassFile.FieldType.long)]
set_option maxRecDepth 65536 in
theorem codes_eq : words1.filter isCode = codes1 := rfl
theorem w_codes : ∀ c ∈ words1.filter isCode, c.before args0 about1 = true := by
  rw [codes_eq]
  intro c hc
  simp only [codes1, List.mem_cons, List.not_mem_nil, or_false] at hc
  rcases hc with rfl | rfl | rfl | rfl | rfl | rfl | rfl | rfl | rfl | rfl | rfl | rfl | rfl
  · exact w_c0
  · exact w_c1
  · exact w_c2
  · exact w_c3
  · exact w_c4
  · exact w_c5
  · exact w_c6
  · exact w_c7
  · exact w_c8
  · exact w_c9
  · exact w_c10
  · exact w_c11
  · exact w_c12
set_option maxRecDepth 65536 in
theorem w_t1 : (words1.take 24).all (fun c => isCode c || c.before args0 about1) = true := by decide +kernel
set_option maxRecDepth 65536 in
theorem w_t2 : ((words1.drop 24).take 24).all (fun c => isCode c || c.before args0 about1) = true := by decide +kernel
set_option maxRecDepth 65536 in
theorem w_t3 : (((words1.drop 24).drop 24).take 24).all (fun c => isCode c || c.before args0 about1) = true := by decide +kernel
set_option maxRecDepth 65536 in
theorem w_t4 : (((words1.drop 24).drop 24).drop 24).all (fun c => isCode c || c.before args0 about1) = true := by decide +kernel
theorem w_tables : (allAtoms (Jvm.Cond.code x code maxLocals ret :: tables_1)).before args0 about1 = true := by
  rw [allAtoms_all]
  show words1.all (fun c => c.before args0 about1) = true
  refine all_split ?_ w_codes
  rw [← List.take_append_drop 24 words1, List.all_append, w_t1, ← List.take_append_drop 24 (words1.drop 24), List.all_append, w_t2, ← List.take_append_drop 24 ((words1.drop 24).drop 24), List.all_append, w_t3, w_t4]
  rfl
set_option maxRecDepth 65536 in
theorem w_case : (Jvm.Cond.and given_1 narrow_1).before args0 about1 = true := by decide +kernel
theorem w_applies : (headSpec (Jvm.Cond.code x code maxLocals ret :: tables_1) room_1).applies x e0.platform about1 = true :=
  (Spec.applies_iff w_frames).mpr ⟨w_running, w_runnable, w_alone, w_named, w_hears, w_ripe, w_room, w_tables⟩
theorem atStart : AtStart classFile x code maxLocals ret World_1 tables_1 room_1 Calls_1 rest_1 Pre_1 launch0 p0 e0 about1 theMethod args0 below0 :=
  ⟨lists_1, trivial, launch0.admits_env _ _ _, launch0.least_env, fairChoices_fair.cas, fairChoices_fair.clock, w_frames, w_args, w_heap, w_applies, trivial, trivial, w_case⟩
end start1
theorem witness_1 : WitnessClaimed_1 := ⟨start1.p0, start1.e0, start1.about1, start1.theMethod, start1.args0, start1.below0, start1.atStart⟩
end Jvm.Pilot.@@N@@
