import JvmDerived
import JvmDerived.Pilot.@@N@@Statement
import JvmDerived.Pilot.@@N@@Code
set_option linter.unusedVariables false
set_option linter.unusedSimpArgs false
namespace Jvm.Pilot.@@N@@
open Jvm Jvm.ClassFile Sem Op Lib Jvm.Free Jvm.Stand Jvm.LawKit Jvm.RoadKit Bundle Jvm.Pilot.@@N@@.Jvm.D
section OwnLayer
variable {p : Program} {l : Launch} {e : Env} {R : Room} {s : State} {m : MethodId} {args : Array Value} {below : List Frame} {meth : Method} {c : Code} {T : State} {cells slots : Nat} {Z : State} {a0 : Array Value} {h h' : Heap} {n0 : Nat} {A : State → Outcome → Prop} {bs : ByteArray} {maxL : Nat} {own : String} {pc pc' : Nat} {L L' : Array Slot} {st : List Value}
/-- the run that stands over T with the frame f comes to an end that A allows -/
def own_Wins (p : Program) (e : Env) (below : List Frame) (A : State → Outcome → Prop) (T : State) (f : JFrame) : Prop := ∃ U o, Steps p.tables e below (T.setTop f) U ∧ A U o
theorem own_by {T' : State} {f f' : JFrame} (q : ∀ target, Steps p.tables e below (T'.setTop f') target → Steps p.tables e below (T.setTop f) target) (k : own_Wins p e below A T' f') : own_Wins p e below A T f := by
  obtain ⟨U, o, h1, h2⟩ := k
  exact ⟨U, o, q _ h1, h2⟩
/-- where the walk stands: the kit's Stand, the heap, what was written is new, and what the walk knows of the body -/
def own_St (p : Program) (l : Launch) (e : Env) (R : Room) (s : State) (m : MethodId) (args : Array Value) (below : List Frame) (meth : Method) (c : Code) (Z : State) (n0 : Nat) (bs : ByteArray) (maxL : Nat) (own : String) (T : State) (h : Heap) (cells slots : Nat) : Prop :=
  ∃ locs, Stand p l e R s m args below meth c T locs cells slots ∧ T.heap = h ∧ Fr n0 locs ∧ n0 ≤ h.size ∧ p.tables.exec = Jvm.exec ∧ c.code = bs ∧ c.maxLocals = maxL ∧ s.vm.findClass own = some m.cls ∧ Z.Warmed39 s.vm ∧ meth.locks = false
theorem own_St.here (X : own_St p l e R s m args below meth c Z n0 bs maxL own T h cells slots) : At T m c below := by obtain ⟨_, Y, -⟩ := X; exact Y.here
theorem own_St.ex (X : own_St p l e R s m args below meth c Z n0 bs maxL own T h cells slots) : p.tables.exec = Jvm.exec := by obtain ⟨_, -, -, -, -, q, -⟩ := X; exact q
theorem own_St.cd (X : own_St p l e R s m args below meth c Z n0 bs maxL own T h cells slots) : c.code = bs := by obtain ⟨_, -, -, -, -, -, q, -⟩ := X; exact q
theorem own_St.ml (X : own_St p l e R s m args below meth c Z n0 bs maxL own T h cells slots) : c.maxLocals = maxL := by obtain ⟨_, -, -, -, -, -, -, q, -⟩ := X; exact q
theorem own_St.sz (X : own_St p l e R s m args below meth c Z n0 bs maxL own T h cells slots) : n0 ≤ h.size := by obtain ⟨_, -, -, -, q, -⟩ := X; exact q
theorem own_St.wz (X : own_St p l e R s m args below meth c Z n0 bs maxL own T h cells slots) : Z.Warmed39 s.vm := by obtain ⟨_, -, -, -, -, -, -, -, -, q, -⟩ := X; exact q
theorem own_St.more (X : own_St p l e R s m args below meth c Z n0 bs maxL own T h cells slots) {cells' slots' : Nat} (hc : cells ≤ cells') (hs : slots ≤ slots') : own_St p l e R s m args below meth c Z n0 bs maxL own T h cells' slots' := by
  obtain ⟨locs, Y, r⟩ := X
  exact ⟨locs, Y.more hc hs, r⟩
/-- an instruction, with the pc behind it -/
def own_ix (bs : ByteArray) (pc : Nat) (i : Instr) (n pc' : Nat) : Prop := decode bs pc = .ok (i, n) ∧ pc + n = pc'
def own_ik (bs : ByteArray) (pc : Nat) (v : Int32) (pc' : Nat) : Prop := ∃ i : Int, (decode bs pc = .ok (.iconst i, 1) ∧ Int32.ofInt i = v ∧ pc + 1 = pc') ∨ (decode bs pc = .ok (.bipush i, 2) ∧ (Int8.ofInt i).toInt32 = v ∧ pc + 2 = pc') ∨ (decode bs pc = .ok (.sipush i, 3) ∧ (Int16.ofInt i).toInt32 = v ∧ pc + 3 = pc')
def own_lk (bs : ByteArray) (pc : Nat) (v : Int64) (pc' : Nat) : Prop := ∃ k : Fin 2, decode bs pc = .ok (.lconst k, 1) ∧ Int64.ofNat k = v ∧ pc + 1 = pc'
def own_ii (bs : ByteArray) (pc : Nat) (k : Nat) (w : Int32) (pc' : Nat) : Prop := ∃ cst : Int, decode bs pc = .ok (.iinc k cst, 3) ∧ Int32.ofInt cst = w ∧ pc + 3 = pc'
def own_gt (bs : ByteArray) (pc tgt : Nat) : Prop := ∃ o : Int, decode bs pc = .ok (.goto o, 3) ∧ 0 ≤ (pc : Int) + o ∧ ((pc : Int) + o).toNat = tgt
def own_ifc (bs : ByteArray) (pc : Nat) (cd : ClassFile.Cond) (pc' tgt : Nat) : Prop := ∃ o : Int, decode bs pc = .ok (.ifCond cd o, 3) ∧ pc + 3 = pc' ∧ 0 ≤ (pc : Int) + o ∧ ((pc : Int) + o).toNat = tgt
def own_icm (bs : ByteArray) (pc : Nat) (cd : ClassFile.Cond) (pc' tgt : Nat) : Prop := ∃ o : Int, decode bs pc = .ok (.if_icmp cd o, 3) ∧ pc + 3 = pc' ∧ 0 ≤ (pc : Int) + o ∧ ((pc : Int) + o).toNat = tgt
def own_inl (bs : ByteArray) (pc : Nat) (pc' tgt : Nat) : Prop := ∃ o : Int, decode bs pc = .ok (.ifnull o, 3) ∧ pc + 3 = pc' ∧ 0 ≤ (pc : Int) + o ∧ ((pc : Int) + o).toNat = tgt
def own_inn (bs : ByteArray) (pc : Nat) (pc' tgt : Nat) : Prop := ∃ o : Int, decode bs pc = .ok (.ifnonnull o, 3) ∧ pc + 3 = pc' ∧ 0 ≤ (pc : Int) + o ∧ ((pc : Int) + o).toNat = tgt
def own_il (bs : ByteArray) (pc k pc' : Nat) : Prop := (∃ q : Fin 4, decode bs pc = .ok (.iload_n q, 1) ∧ q.val = k ∧ pc + 1 = pc') ∨ (decode bs pc = .ok (.iload k, 2) ∧ pc + 2 = pc')
def own_ll (bs : ByteArray) (pc k pc' : Nat) : Prop := (∃ q : Fin 4, decode bs pc = .ok (.lload_n q, 1) ∧ q.val = k ∧ pc + 1 = pc') ∨ (decode bs pc = .ok (.lload k, 2) ∧ pc + 2 = pc')
def own_al (bs : ByteArray) (pc k pc' : Nat) : Prop := (∃ q : Fin 4, decode bs pc = .ok (.aload_n q, 1) ∧ q.val = k ∧ pc + 1 = pc') ∨ (decode bs pc = .ok (.aload k, 2) ∧ pc + 2 = pc')
def own_si (bs : ByteArray) (pc k pc' : Nat) : Prop := (∃ q : Fin 4, decode bs pc = .ok (.istore_n q, 1) ∧ q.val = k ∧ pc + 1 = pc') ∨ (decode bs pc = .ok (.istore k, 2) ∧ pc + 2 = pc')
def own_sl (bs : ByteArray) (pc k pc' : Nat) : Prop := (∃ q : Fin 4, decode bs pc = .ok (.lstore_n q, 1) ∧ q.val = k ∧ pc + 1 = pc') ∨ (decode bs pc = .ok (.lstore k, 2) ∧ pc + 2 = pc')
def own_sa (bs : ByteArray) (pc k pc' : Nat) : Prop := (∃ q : Fin 4, decode bs pc = .ok (.astore_n q, 1) ∧ q.val = k ∧ pc + 1 = pc') ∨ (decode bs pc = .ok (.astore k, 2) ∧ pc + 2 = pc')
def own_Lshl (x : Int64) (q : Int32) : Int64 := x <<< (q &&& 0x3f).toInt64
def own_Lshr (x : Int64) (q : Int32) : Int64 := x >>> (q &&& 0x3f).toInt64
def own_Lushr (x : Int64) (q : Int32) : Int64 := (x.toUInt64 >>> (q &&& 0x3f).toInt64.toUInt64).toInt64
def own_Ishl (x q : Int32) : Int32 := x <<< (q &&& 31)
def own_Ishr (x q : Int32) : Int32 := x >>> (q &&& 31)
def own_Iushr (x q : Int32) : Int32 := (x.toUInt32 >>> (q &&& 31).toUInt32).toInt32
theorem own_iadd (X : own_St p l e R s m args below meth c Z n0 bs maxL own T h cells slots) {x y : Int32} (d : own_ix bs pc .iadd 1 pc')  (k : own_Wins p e below A T (mkF m pc' L (.int (x + y) :: st))) : own_Wins p e below A T (mkF m pc L (.int y :: .int x :: st)) := by
  obtain ⟨d, rfl⟩ := d
  exact own_by (fun _ q => XS.iadd X.here X.ex rfl (hb X.cd d) rfl q) k
theorem own_isub (X : own_St p l e R s m args below meth c Z n0 bs maxL own T h cells slots) {x y : Int32} (d : own_ix bs pc .isub 1 pc')  (k : own_Wins p e below A T (mkF m pc' L (.int (x - y) :: st))) : own_Wins p e below A T (mkF m pc L (.int y :: .int x :: st)) := by
  obtain ⟨d, rfl⟩ := d
  exact own_by (fun _ q => XS.isub X.here X.ex rfl (hb X.cd d) rfl q) k
theorem own_imul (X : own_St p l e R s m args below meth c Z n0 bs maxL own T h cells slots) {x y : Int32} (d : own_ix bs pc .imul 1 pc')  (k : own_Wins p e below A T (mkF m pc' L (.int (x * y) :: st))) : own_Wins p e below A T (mkF m pc L (.int y :: .int x :: st)) := by
  obtain ⟨d, rfl⟩ := d
  exact own_by (fun _ q => XS.imul X.here X.ex rfl (hb X.cd d) rfl q) k
theorem own_iand (X : own_St p l e R s m args below meth c Z n0 bs maxL own T h cells slots) {x y : Int32} (d : own_ix bs pc .iand 1 pc')  (k : own_Wins p e below A T (mkF m pc' L (.int (x &&& y) :: st))) : own_Wins p e below A T (mkF m pc L (.int y :: .int x :: st)) := by
  obtain ⟨d, rfl⟩ := d
  exact own_by (fun _ q => XS.iand X.here X.ex rfl (hb X.cd d) rfl q) k
theorem own_ior (X : own_St p l e R s m args below meth c Z n0 bs maxL own T h cells slots) {x y : Int32} (d : own_ix bs pc .ior 1 pc')  (k : own_Wins p e below A T (mkF m pc' L (.int (x ||| y) :: st))) : own_Wins p e below A T (mkF m pc L (.int y :: .int x :: st)) := by
  obtain ⟨d, rfl⟩ := d
  exact own_by (fun _ q => XS.ior X.here X.ex rfl (hb X.cd d) rfl q) k
theorem own_ixor (X : own_St p l e R s m args below meth c Z n0 bs maxL own T h cells slots) {x y : Int32} (d : own_ix bs pc .ixor 1 pc')  (k : own_Wins p e below A T (mkF m pc' L (.int (x ^^^ y) :: st))) : own_Wins p e below A T (mkF m pc L (.int y :: .int x :: st)) := by
  obtain ⟨d, rfl⟩ := d
  exact own_by (fun _ q => XS.ixor X.here X.ex rfl (hb X.cd d) rfl q) k
theorem own_ladd (X : own_St p l e R s m args below meth c Z n0 bs maxL own T h cells slots) {x y : Int64} (d : own_ix bs pc .ladd 1 pc')  (k : own_Wins p e below A T (mkF m pc' L (.long (x + y) :: st))) : own_Wins p e below A T (mkF m pc L (.long y :: .long x :: st)) := by
  obtain ⟨d, rfl⟩ := d
  exact own_by (fun _ q => XS.ladd X.here X.ex rfl (hb X.cd d) rfl q) k
theorem own_lsub (X : own_St p l e R s m args below meth c Z n0 bs maxL own T h cells slots) {x y : Int64} (d : own_ix bs pc .lsub 1 pc')  (k : own_Wins p e below A T (mkF m pc' L (.long (x - y) :: st))) : own_Wins p e below A T (mkF m pc L (.long y :: .long x :: st)) := by
  obtain ⟨d, rfl⟩ := d
  exact own_by (fun _ q => XS.lsub X.here X.ex rfl (hb X.cd d) rfl q) k
theorem own_lmul (X : own_St p l e R s m args below meth c Z n0 bs maxL own T h cells slots) {x y : Int64} (d : own_ix bs pc .lmul 1 pc')  (k : own_Wins p e below A T (mkF m pc' L (.long (x * y) :: st))) : own_Wins p e below A T (mkF m pc L (.long y :: .long x :: st)) := by
  obtain ⟨d, rfl⟩ := d
  exact own_by (fun _ q => XS.lmul X.here X.ex rfl (hb X.cd d) rfl q) k
theorem own_land (X : own_St p l e R s m args below meth c Z n0 bs maxL own T h cells slots) {x y : Int64} (d : own_ix bs pc .land 1 pc')  (k : own_Wins p e below A T (mkF m pc' L (.long (x &&& y) :: st))) : own_Wins p e below A T (mkF m pc L (.long y :: .long x :: st)) := by
  obtain ⟨d, rfl⟩ := d
  exact own_by (fun _ q => XS.land X.here X.ex rfl (hb X.cd d) rfl q) k
theorem own_lor (X : own_St p l e R s m args below meth c Z n0 bs maxL own T h cells slots) {x y : Int64} (d : own_ix bs pc .lor 1 pc')  (k : own_Wins p e below A T (mkF m pc' L (.long (x ||| y) :: st))) : own_Wins p e below A T (mkF m pc L (.long y :: .long x :: st)) := by
  obtain ⟨d, rfl⟩ := d
  exact own_by (fun _ q => XS.lor X.here X.ex rfl (hb X.cd d) rfl q) k
theorem own_lxor (X : own_St p l e R s m args below meth c Z n0 bs maxL own T h cells slots) {x y : Int64} (d : own_ix bs pc .lxor 1 pc')  (k : own_Wins p e below A T (mkF m pc' L (.long (x ^^^ y) :: st))) : own_Wins p e below A T (mkF m pc L (.long y :: .long x :: st)) := by
  obtain ⟨d, rfl⟩ := d
  exact own_by (fun _ q => XS.lxor X.here X.ex rfl (hb X.cd d) rfl q) k
theorem own_ishl (X : own_St p l e R s m args below meth c Z n0 bs maxL own T h cells slots) {x y : Int32} (d : own_ix bs pc .ishl 1 pc')  (k : own_Wins p e below A T (mkF m pc' L (.int (own_Ishl x y) :: st))) : own_Wins p e below A T (mkF m pc L (.int y :: .int x :: st)) := by
  obtain ⟨d, rfl⟩ := d
  exact own_by (fun _ q => XS.ishl X.here X.ex rfl (hb X.cd d) rfl q) k
theorem own_ishr (X : own_St p l e R s m args below meth c Z n0 bs maxL own T h cells slots) {x y : Int32} (d : own_ix bs pc .ishr 1 pc')  (k : own_Wins p e below A T (mkF m pc' L (.int (own_Ishr x y) :: st))) : own_Wins p e below A T (mkF m pc L (.int y :: .int x :: st)) := by
  obtain ⟨d, rfl⟩ := d
  exact own_by (fun _ q => XS.ishr X.here X.ex rfl (hb X.cd d) rfl q) k
theorem own_iushr (X : own_St p l e R s m args below meth c Z n0 bs maxL own T h cells slots) {x y : Int32} (d : own_ix bs pc .iushr 1 pc')  (k : own_Wins p e below A T (mkF m pc' L (.int (own_Iushr x y) :: st))) : own_Wins p e below A T (mkF m pc L (.int y :: .int x :: st)) := by
  obtain ⟨d, rfl⟩ := d
  exact own_by (fun _ q => XS.iushr X.here X.ex rfl (hb X.cd d) rfl q) k
theorem own_lshl (X : own_St p l e R s m args below meth c Z n0 bs maxL own T h cells slots) {x : Int64} {y : Int32} (d : own_ix bs pc .lshl 1 pc')  (k : own_Wins p e below A T (mkF m pc' L (.long (own_Lshl x y) :: st))) : own_Wins p e below A T (mkF m pc L (.int y :: .long x :: st)) := by
  obtain ⟨d, rfl⟩ := d
  exact own_by (fun _ q => XS.lshl X.here X.ex rfl (hb X.cd d) rfl q) k
theorem own_lshr (X : own_St p l e R s m args below meth c Z n0 bs maxL own T h cells slots) {x : Int64} {y : Int32} (d : own_ix bs pc .lshr 1 pc')  (k : own_Wins p e below A T (mkF m pc' L (.long (own_Lshr x y) :: st))) : own_Wins p e below A T (mkF m pc L (.int y :: .long x :: st)) := by
  obtain ⟨d, rfl⟩ := d
  exact own_by (fun _ q => XS.lshr X.here X.ex rfl (hb X.cd d) rfl q) k
theorem own_lushr (X : own_St p l e R s m args below meth c Z n0 bs maxL own T h cells slots) {x : Int64} {y : Int32} (d : own_ix bs pc .lushr 1 pc')  (k : own_Wins p e below A T (mkF m pc' L (.long (own_Lushr x y) :: st))) : own_Wins p e below A T (mkF m pc L (.int y :: .long x :: st)) := by
  obtain ⟨d, rfl⟩ := d
  exact own_by (fun _ q => XS.lushr X.here X.ex rfl (hb X.cd d) rfl q) k
theorem own_idiv (X : own_St p l e R s m args below meth c Z n0 bs maxL own T h cells slots) {x y : Int32} (d : own_ix bs pc .idiv 1 pc') (hy : y ≠ 0) (k : own_Wins p e below A T (mkF m pc' L (.int (x / y) :: st))) : own_Wins p e below A T (mkF m pc L (.int y :: .int x :: st)) := by
  obtain ⟨d, rfl⟩ := d
  exact own_by (fun _ q => XS.idiv X.here X.ex rfl (hb X.cd d) rfl hy q) k
theorem own_ldiv (X : own_St p l e R s m args below meth c Z n0 bs maxL own T h cells slots) {x y : Int64} (d : own_ix bs pc .ldiv 1 pc') (hy : y ≠ 0) (k : own_Wins p e below A T (mkF m pc' L (.long (x / y) :: st))) : own_Wins p e below A T (mkF m pc L (.long y :: .long x :: st)) := by
  obtain ⟨d, rfl⟩ := d
  exact own_by (fun _ q => XS.ldiv X.here X.ex rfl (hb X.cd d) rfl hy q) k
theorem own_irem (X : own_St p l e R s m args below meth c Z n0 bs maxL own T h cells slots) {x y : Int32} (d : own_ix bs pc .irem 1 pc') (hy : y ≠ 0) (k : own_Wins p e below A T (mkF m pc' L (.int (x % y) :: st))) : own_Wins p e below A T (mkF m pc L (.int y :: .int x :: st)) := by
  obtain ⟨d, rfl⟩ := d
  have e1 : x - x / y * y = x % y := irem_eq_mod x y
  exact own_by (fun _ q => XS.irem X.here X.ex rfl (hb X.cd d) rfl hy (by rw [e1]; exact q)) k
theorem own_lrem (X : own_St p l e R s m args below meth c Z n0 bs maxL own T h cells slots) {x y : Int64} (d : own_ix bs pc .lrem 1 pc') (hy : y ≠ 0) (k : own_Wins p e below A T (mkF m pc' L (.long (x % y) :: st))) : own_Wins p e below A T (mkF m pc L (.long y :: .long x :: st)) := by
  obtain ⟨d, rfl⟩ := d
  have e1 : x - x / y * y = x % y := lrem_mod x y
  exact own_by (fun _ q => XS.lrem X.here X.ex rfl (hb X.cd d) rfl hy (by rw [e1]; exact q)) k
theorem own_ineg (X : own_St p l e R s m args below meth c Z n0 bs maxL own T h cells slots) {x : Int32} (d : own_ix bs pc .ineg 1 pc')  (k : own_Wins p e below A T (mkF m pc' L (.int (-x) :: st))) : own_Wins p e below A T (mkF m pc L (.int x :: st)) := by
  obtain ⟨d, rfl⟩ := d
  exact own_by (fun _ q => XS.ineg X.here X.ex rfl (hb X.cd d) rfl q) k
theorem own_lneg (X : own_St p l e R s m args below meth c Z n0 bs maxL own T h cells slots) {x : Int64} (d : own_ix bs pc .lneg 1 pc')  (k : own_Wins p e below A T (mkF m pc' L (.long (-x) :: st))) : own_Wins p e below A T (mkF m pc L (.long x :: st)) := by
  obtain ⟨d, rfl⟩ := d
  exact own_by (fun _ q => XS.lneg X.here X.ex rfl (hb X.cd d) rfl q) k
theorem own_i2l (X : own_St p l e R s m args below meth c Z n0 bs maxL own T h cells slots) {x : Int32} (d : own_ix bs pc .i2l 1 pc')  (k : own_Wins p e below A T (mkF m pc' L (.long x.toInt64 :: st))) : own_Wins p e below A T (mkF m pc L (.int x :: st)) := by
  obtain ⟨d, rfl⟩ := d
  exact own_by (fun _ q => XS.i2l X.here X.ex rfl (hb X.cd d) rfl q) k
theorem own_l2i (X : own_St p l e R s m args below meth c Z n0 bs maxL own T h cells slots) {x : Int64} (d : own_ix bs pc .l2i 1 pc')  (k : own_Wins p e below A T (mkF m pc' L (.int x.toInt32 :: st))) : own_Wins p e below A T (mkF m pc L (.long x :: st)) := by
  obtain ⟨d, rfl⟩ := d
  exact own_by (fun _ q => XS.l2i X.here X.ex rfl (hb X.cd d) rfl q) k
theorem own_i2b (X : own_St p l e R s m args below meth c Z n0 bs maxL own T h cells slots) {x : Int32} (d : own_ix bs pc .i2b 1 pc')  (k : own_Wins p e below A T (mkF m pc' L (.int x.toInt8.toInt32 :: st))) : own_Wins p e below A T (mkF m pc L (.int x :: st)) := by
  obtain ⟨d, rfl⟩ := d
  exact own_by (fun _ q => XS.i2b X.here X.ex rfl (hb X.cd d) rfl q) k
theorem own_lcmp (X : own_St p l e R s m args below meth c Z n0 bs maxL own T h cells slots) {x y : Int64} (d : own_ix bs pc .lcmp 1 pc')  (k : own_Wins p e below A T (mkF m pc' L (.int (lcmpW x y) :: st))) : own_Wins p e below A T (mkF m pc L (.long y :: .long x :: st)) := by
  obtain ⟨d, rfl⟩ := d
  exact own_by (fun _ q => XS.lcmp X.here X.ex rfl (hb X.cd d) rfl q) k
theorem own_dup (X : own_St p l e R s m args below meth c Z n0 bs maxL own T h cells slots) {x : Value} (d : own_ix bs pc .dup 1 pc') (hc : x.category = 1) (k : own_Wins p e below A T (mkF m pc' L (x :: x :: st))) : own_Wins p e below A T (mkF m pc L (x :: st)) := by
  obtain ⟨d, rfl⟩ := d
  exact own_by (fun _ q => XS.dup X.here X.ex rfl (hb X.cd d) rfl hc q) k
theorem own_pop (X : own_St p l e R s m args below meth c Z n0 bs maxL own T h cells slots) {x : Value} (d : own_ix bs pc .pop 1 pc') (hc : x.category = 1) (k : own_Wins p e below A T (mkF m pc' L st)) : own_Wins p e below A T (mkF m pc L (x :: st)) := by
  obtain ⟨d, rfl⟩ := d
  exact own_by (fun _ q => XS.pop X.here X.ex rfl (hb X.cd d) rfl hc q) k
theorem own_dup2 (X : own_St p l e R s m args below meth c Z n0 bs maxL own T h cells slots) {x : Int32} {y : Addr} (d : own_ix bs pc .dup2 1 pc')  (k : own_Wins p e below A T (mkF m pc' L (.int x :: .ref y :: .int x :: .ref y :: st))) : own_Wins p e below A T (mkF m pc L (.int x :: .ref y :: st)) := by
  obtain ⟨d, rfl⟩ := d
  refine own_by (fun _ q => ?_) k
  show Steps p.tables e below (T.setTop (mkF m pc L (.int x :: .ref y :: st))) _
  jvm_step X.here [X.here.top, X.ex, (hb X.cd d), Value.category]
  exact q
theorem own_anull (X : own_St p l e R s m args below meth c Z n0 bs maxL own T h cells slots)  (d : own_ix bs pc .aconst_null 1 pc')  (k : own_Wins p e below A T (mkF m pc' L (.null :: st))) : own_Wins p e below A T (mkF m pc L st) := by
  obtain ⟨d, rfl⟩ := d
  exact own_by (fun _ q => XS.aconstNull X.here X.ex rfl (hb X.cd d) q) k
theorem own_ipush (X : own_St p l e R s m args below meth c Z n0 bs maxL own T h cells slots) {v : Int32} (d : own_ik bs pc v pc')  (k : own_Wins p e below A T (mkF m pc' L (.int v :: st))) : own_Wins p e below A T (mkF m pc L st) := by
  obtain ⟨i, ⟨d, rfl, rfl⟩ | ⟨d, rfl, rfl⟩ | ⟨d, rfl, rfl⟩⟩ := d
  · exact own_by (fun _ q => XS.iconst X.here X.ex rfl (hb X.cd d) q) k
  · exact own_by (fun _ q => XS.bipush X.here X.ex rfl (hb X.cd d) q) k
  · exact own_by (fun _ q => XS.sipush X.here X.ex rfl (hb X.cd d) q) k
theorem own_lpush (X : own_St p l e R s m args below meth c Z n0 bs maxL own T h cells slots) {v : Int64} (d : own_lk bs pc v pc')  (k : own_Wins p e below A T (mkF m pc' L (.long v :: st))) : own_Wins p e below A T (mkF m pc L st) := by
  obtain ⟨i, d, rfl, rfl⟩ := d
  exact own_by (fun _ q => XS.lconst X.here X.ex rfl (hb X.cd d) q) k
theorem own_iload (X : own_St p l e R s m args below meth c Z n0 bs maxL own T h cells slots) {i : Nat} {v : Int32} (d : own_il bs pc i pc') (hl : L[i]? = some (.val (.int v))) (k : own_Wins p e below A T (mkF m pc' L (.int v :: st))) : own_Wins p e below A T (mkF m pc L st) := by
  obtain ⟨i', d, rfl, rfl⟩ | ⟨d, rfl⟩ := d
  · exact own_by (fun _ q => XS.iloadN X.here X.ex rfl (hb X.cd d) hl q) k
  · exact own_by (fun _ q => XS.iload X.here X.ex rfl (hb X.cd d) hl q) k
theorem own_lload (X : own_St p l e R s m args below meth c Z n0 bs maxL own T h cells slots) {i : Nat} {v : Int64} (d : own_ll bs pc i pc') (hl : L[i]? = some (.val (.long v))) (k : own_Wins p e below A T (mkF m pc' L (.long v :: st))) : own_Wins p e below A T (mkF m pc L st) := by
  obtain ⟨i', d, rfl, rfl⟩ | ⟨d, rfl⟩ := d
  · exact own_by (fun _ q => XS.lloadN X.here X.ex rfl (hb X.cd d) hl q) k
  · exact own_by (fun _ q => XS.lload X.here X.ex rfl (hb X.cd d) hl q) k
theorem own_aload (X : own_St p l e R s m args below meth c Z n0 bs maxL own T h cells slots) {i : Nat} {v : Addr} (d : own_al bs pc i pc') (hl : L[i]? = some (.val (.ref v))) (k : own_Wins p e below A T (mkF m pc' L (.ref v :: st))) : own_Wins p e below A T (mkF m pc L st) := by
  obtain ⟨i', d, rfl, rfl⟩ | ⟨d, rfl⟩ := d
  · exact own_by (fun _ q => XS.aloadN X.here X.ex rfl (hb X.cd d) hl rfl q) k
  · exact own_by (fun _ q => XS.aload X.here X.ex rfl (hb X.cd d) hl rfl q) k
theorem own_aloadN (X : own_St p l e R s m args below meth c Z n0 bs maxL own T h cells slots) {i : Nat} (d : own_al bs pc i pc') (hl : L[i]? = some (.val .null)) (k : own_Wins p e below A T (mkF m pc' L (.null :: st))) : own_Wins p e below A T (mkF m pc L st) := by
  obtain ⟨i', d, rfl, rfl⟩ | ⟨d, rfl⟩ := d
  · exact own_by (fun _ q => XS.aloadN X.here X.ex rfl (hb X.cd d) hl rfl q) k
  · exact own_by (fun _ q => XS.aload X.here X.ex rfl (hb X.cd d) hl rfl q) k
theorem own_istore (X : own_St p l e R s m args below meth c Z n0 bs maxL own T h cells slots) {i : Nat} {v : Int32} (L' : Array Slot) (d : own_si bs pc i pc') (hl : storeLocals L i (.int v) = some L') (k : own_Wins p e below A T (mkF m pc' L' st)) : own_Wins p e below A T (mkF m pc L (.int v :: st)) := by
  obtain ⟨i', d, rfl, rfl⟩ | ⟨d, rfl⟩ := d
  · exact own_by (fun _ q => XS.istoreN X.here X.ex rfl (hb X.cd d) rfl hl q) k
  · exact own_by (fun _ q => XS.istore X.here X.ex rfl (hb X.cd d) rfl hl q) k
theorem own_lstore (X : own_St p l e R s m args below meth c Z n0 bs maxL own T h cells slots) {i : Nat} {v : Int64} (L' : Array Slot) (d : own_sl bs pc i pc') (hl : storeLocals L i (.long v) = some L') (k : own_Wins p e below A T (mkF m pc' L' st)) : own_Wins p e below A T (mkF m pc L (.long v :: st)) := by
  obtain ⟨i', d, rfl, rfl⟩ | ⟨d, rfl⟩ := d
  · exact own_by (fun _ q => XS.lstoreN X.here X.ex rfl (hb X.cd d) rfl hl q) k
  · exact own_by (fun _ q => XS.lstore X.here X.ex rfl (hb X.cd d) rfl hl q) k
theorem own_astore (X : own_St p l e R s m args below meth c Z n0 bs maxL own T h cells slots) {i : Nat} {v : Addr} (L' : Array Slot) (d : own_sa bs pc i pc') (hl : storeLocals L i (.ref v) = some L') (k : own_Wins p e below A T (mkF m pc' L' st)) : own_Wins p e below A T (mkF m pc L (.ref v :: st)) := by
  obtain ⟨i', d, rfl, rfl⟩ | ⟨d, rfl⟩ := d
  · exact own_by (fun _ q => XS.astoreN X.here X.ex rfl (hb X.cd d) rfl rfl hl q) k
  · exact own_by (fun _ q => XS.astore X.here X.ex rfl (hb X.cd d) rfl rfl hl q) k
theorem own_iinc (X : own_St p l e R s m args below meth c Z n0 bs maxL own T h cells slots) {i : Nat} {x w : Int32} (L' : Array Slot) (d : own_ii bs pc i w pc') (hl : L[i]? = some (.val (.int x))) (hl' : storeLocals L i (.int (x + w)) = some L') (k : own_Wins p e below A T (mkF m pc' L' st)) : own_Wins p e below A T (mkF m pc L st) := by
  obtain ⟨i', d, rfl, rfl⟩ := d
  exact own_by (fun _ q => XS.iinc X.here X.ex rfl (hb X.cd d) hl hl' q) k
theorem own_goto (X : own_St p l e R s m args below meth c Z n0 bs maxL own T h cells slots) (d : own_gt bs pc pc') (k : own_Wins p e below A T (mkF m pc' L st)) : own_Wins p e below A T (mkF m pc L st) := by
  obtain ⟨o, d, h1, h2⟩ := d
  exact own_by (fun _ q => XS.goto X.here X.ex rfl rfl (hb X.cd d) h1 h2 q) k
theorem own_ifYes (X : own_St p l e R s m args below meth c Z n0 bs maxL own T h cells slots) {cd : ClassFile.Cond} {x : Int32} {nx : Nat} (d : own_ifc bs pc cd nx pc') (hc : ifCond.holds cd x = true) (k : own_Wins p e below A T (mkF m pc' L st)) : own_Wins p e below A T (mkF m pc L (.int x :: st)) := by
  obtain ⟨o, d, -, h1, h2⟩ := d
  exact own_by (fun _ q => XS.ifYes X.here X.ex rfl rfl (hb X.cd d) rfl hc h1 h2 q) k
theorem own_ifNo (X : own_St p l e R s m args below meth c Z n0 bs maxL own T h cells slots) {cd : ClassFile.Cond} {x : Int32} {tg : Nat} (d : own_ifc bs pc cd pc' tg) (hc : ifCond.holds cd x = false) (k : own_Wins p e below A T (mkF m pc' L st)) : own_Wins p e below A T (mkF m pc L (.int x :: st)) := by
  obtain ⟨o, d, rfl, h1, h2⟩ := d
  exact own_by (fun _ q => XS.ifNo X.here X.ex rfl (hb X.cd d) rfl hc q) k
theorem own_icYes (X : own_St p l e R s m args below meth c Z n0 bs maxL own T h cells slots) {cd : ClassFile.Cond} {x y : Int32} {nx : Nat} (d : own_icm bs pc cd nx pc') (hc : if_icmp.holds cd x y = true) (k : own_Wins p e below A T (mkF m pc' L st)) : own_Wins p e below A T (mkF m pc L (.int y :: .int x :: st)) := by
  obtain ⟨o, d, -, h1, h2⟩ := d
  exact own_by (fun _ q => XS.icmpYes X.here X.ex rfl rfl (hb X.cd d) rfl hc h1 h2 q) k
theorem own_icNo (X : own_St p l e R s m args below meth c Z n0 bs maxL own T h cells slots) {cd : ClassFile.Cond} {x y : Int32} {tg : Nat} (d : own_icm bs pc cd pc' tg) (hc : if_icmp.holds cd x y = false) (k : own_Wins p e below A T (mkF m pc' L st)) : own_Wins p e below A T (mkF m pc L (.int y :: .int x :: st)) := by
  obtain ⟨o, d, rfl, h1, h2⟩ := d
  exact own_by (fun _ q => XS.icmpNo X.here X.ex rfl (hb X.cd d) rfl hc q) k
theorem own_inlYes (X : own_St p l e R s m args below meth c Z n0 bs maxL own T h cells slots) {nx : Nat} (d : own_inl bs pc nx pc') (k : own_Wins p e below A T (mkF m pc' L st)) : own_Wins p e below A T (mkF m pc L (.null :: st)) := by
  obtain ⟨o, d, -, h1, h2⟩ := d
  exact own_by (fun _ q => XS.ifnullYes X.here X.ex rfl rfl (hb X.cd d) rfl h1 h2 q) k
theorem own_inlNo (X : own_St p l e R s m args below meth c Z n0 bs maxL own T h cells slots) {a : Addr} {tg : Nat} (d : own_inl bs pc pc' tg) (k : own_Wins p e below A T (mkF m pc' L st)) : own_Wins p e below A T (mkF m pc L (.ref a :: st)) := by
  obtain ⟨o, d, rfl, h1, h2⟩ := d
  exact own_by (fun _ q => XS.ifnullNo X.here X.ex rfl (hb X.cd d) rfl q) k
theorem own_innYes (X : own_St p l e R s m args below meth c Z n0 bs maxL own T h cells slots) {a : Addr} {nx : Nat} (d : own_inn bs pc nx pc') (k : own_Wins p e below A T (mkF m pc' L st)) : own_Wins p e below A T (mkF m pc L (.ref a :: st)) := by
  obtain ⟨o, d, -, h1, h2⟩ := d
  exact own_by (fun _ q => XS.ifnonnullYes X.here X.ex rfl rfl (hb X.cd d) rfl h1 h2 q) k
theorem own_innNo (X : own_St p l e R s m args below meth c Z n0 bs maxL own T h cells slots) {tg : Nat} (d : own_inn bs pc pc' tg) (k : own_Wins p e below A T (mkF m pc' L st)) : own_Wins p e below A T (mkF m pc L (.null :: st)) := by
  obtain ⟨o, d, rfl, h1, h2⟩ := d
  exact own_by (fun _ q => XS.ifnonnullNo X.here X.ex rfl (hb X.cd d) rfl q) k
theorem own_ldc (X : own_St p l e R s m args below meth c Z n0 bs maxL own T h cells slots) {i : Nat} {v : Int32} (w : (Jvm.Cond.constant own i v).before a0 Z = true) (d : own_ix bs pc (.ldc i) 2 pc') (k : own_Wins p e below A T (mkF m pc' L (.int v :: st))) : own_Wins p e below A T (mkF m pc L st) := by
  obtain ⟨locs, Y, eT, N, hn, hx, hby, hml, hown, hZ, hlk⟩ := X
  obtain ⟨d, rfl⟩ := d
  exact own_by (Y.ldcInt hx hown (mvT hZ w) (g := mkF m pc L st) rfl (hb hby d)) k
theorem own_ldc2 (X : own_St p l e R s m args below meth c Z n0 bs maxL own T h cells slots) {i : Nat} {v : Int64} (w : (Jvm.Cond.constantLong own i v).before a0 Z = true) (d : own_ix bs pc (.ldc2_w i) 3 pc') (k : own_Wins p e below A T (mkF m pc' L (.long v :: st))) : own_Wins p e below A T (mkF m pc L st) := by
  obtain ⟨locs, Y, eT, N, hn, hx, hby, hml, hown, hZ, hlk⟩ := X
  obtain ⟨d, rfl⟩ := d
  exact own_by (Y.ldc2Long hx hown (mvT hZ w) (g := mkF m pc L st) rfl (hb hby d)) k
/-- an array of primitives: its values as a list -/
def own_AL (Z : State) (h : Heap) (a : Addr) (ty : FieldType) (vs : List Value) : Prop := ∃ c : Cell, Arr Z h a c ty ∧ c.slots = vs.toArray ∧ vs.length < 2147483648
theorem own_AL.lt {a : Addr} {ty : FieldType} {vs : List Value} (V : own_AL Z h a ty vs) : a < h.size := by obtain ⟨c, A, -⟩ := V; exact A.lt
theorem own_AL.ext {a : Addr} {ty : FieldType} {vs : List Value} (V : own_AL Z h a ty vs) (E : Ext h h') : own_AL Z h' a ty vs := by obtain ⟨c, A, r⟩ := V; exact ⟨c, A.ext E, r⟩
theorem own_AL.other {a b : Addr} {sl : Nat} {v : Value} {ty : FieldType} {vs : List Value} (V : own_AL Z h b ty vs) (W : Wr h h' a sl v) (q : b ≠ a) : own_AL Z h' b ty vs := by obtain ⟨c, A, r⟩ := V; exact ⟨c, A.other W q, r⟩
theorem own_AL.keep {a : Addr} {ws : List Addr} {ty : FieldType} {vs : List Value} (V : own_AL Z h a ty vs) (K : Keep h h' ws) (q : a ∉ ws) : own_AL Z h' a ty vs := by obtain ⟨c, A, r⟩ := V; exact ⟨c, ⟨K.2.1 a c A.1 q, A.2⟩, r⟩
theorem own_AL.new {a : Addr} {k : ClassId} {ty : FieldType} {z : Int32} {n : Nat} (A : Arr Z h a (newA k ty z) ty) (hz : z.toNatClampNeg = n) (hn : n < 2147483648) : own_AL Z h a ty (List.replicate n (defaultValue ty)) :=
  ⟨_, A, by simp [newA, hz], by simpa using hn⟩
theorem own_AL.same {a : Addr} {k : Nat} {v : Value} {ty : FieldType} {vs : List Value} (V : own_AL Z h a ty vs) (W : Wr h h' a k v) : own_AL Z h' a ty (vs.set k v) := by
  obtain ⟨c, A, q, r⟩ := V
  exact ⟨_, A.same W, by simp [Cell.setSlot, q], by simpa using r⟩
/-- an index in its two forms -/
def own_idx (j : Int32) (k : Nat) : Prop := ¬ j < 0 ∧ j.toNatClampNeg = k
theorem own_in {j : Int32} {k : Nat} {cl : Cell} {vs : List Value} (hj : own_idx j k) (q : cl.slots = vs.toArray) (hk : k < vs.length) : ¬ (j < 0 ∨ cl.slots.size ≤ j.toNatClampNeg) := by
  rw [q, hj.2]; simp only [List.size_toArray]
  intro z; rcases z with z | z
  · exact hj.1 z
  · omega
theorem own_len {cl : Cell} {vs : List Value} (q : cl.slots = vs.toArray) : cl.slots.size.toInt32 = Int32.ofNat vs.length := by rw [q]; simp [Nat.toInt32]
theorem own_iaload (X : own_St p l e R s m args below meth c Z n0 bs maxL own T h cells slots) {a : Addr} {vs : List Value} (V : own_AL Z h a .int vs) {j : Int32} {i : Nat} {v : Value} (hj : own_idx j i) (hv : vs[i]? = some v) (d : own_ix bs pc .iaload 1 pc') (k : own_Wins p e below A T (mkF m pc' L (v :: st))) : own_Wins p e below A T (mkF m pc L (.int j :: .ref a :: st)) := by
  obtain ⟨locs, Y, eT, N, hn, hx, hby, hml, hown, hZ, hlk⟩ := X
  obtain ⟨d, rfl⟩ := d
  obtain ⟨cl, Ar, q, r⟩ := V
  have hk : i < vs.length := (List.getElem?_eq_some_iff.mp hv).1
  exact own_by (fun t kk => Y.iaload hx (j := j) (v := v) (by rw [eT]; exact Ar.1) (State.isArrayOf_alike hZ.alike Ar.2.1) Ar.2.2 (own_in hj q hk) (by rw [q, hj.2]; simpa using hv) (g := mkF m pc L (.int j :: .ref a :: st)) rfl rfl (hb hby d) t kk) k
theorem own_laload (X : own_St p l e R s m args below meth c Z n0 bs maxL own T h cells slots) {a : Addr} {vs : List Value} (V : own_AL Z h a .long vs) {j : Int32} {i : Nat} {v : Value} (hj : own_idx j i) (hv : vs[i]? = some v) (d : own_ix bs pc .laload 1 pc') (k : own_Wins p e below A T (mkF m pc' L (v :: st))) : own_Wins p e below A T (mkF m pc L (.int j :: .ref a :: st)) := by
  obtain ⟨locs, Y, eT, N, hn, hx, hby, hml, hown, hZ, hlk⟩ := X
  obtain ⟨d, rfl⟩ := d
  obtain ⟨cl, Ar, q, r⟩ := V
  have hk : i < vs.length := (List.getElem?_eq_some_iff.mp hv).1
  exact own_by (fun t kk => Y.laload hx (j := j) (v := v) (by rw [eT]; exact Ar.1) (State.isArrayOf_alike hZ.alike Ar.2.1) Ar.2.2 (own_in hj q hk) (by rw [q, hj.2]; simpa using hv) (g := mkF m pc L (.int j :: .ref a :: st)) rfl rfl (hb hby d) t kk) k
theorem own_baload (X : own_St p l e R s m args below meth c Z n0 bs maxL own T h cells slots) {a : Addr} {vs : List Value} (V : own_AL Z h a .byte vs) {j : Int32} {i : Nat} {v : Value} (hj : own_idx j i) (hv : vs[i]? = some v) (d : own_ix bs pc .baload 1 pc') (k : own_Wins p e below A T (mkF m pc' L (v :: st))) : own_Wins p e below A T (mkF m pc L (.int j :: .ref a :: st)) := by
  obtain ⟨locs, Y, eT, N, hn, hx, hby, hml, hown, hZ, hlk⟩ := X
  obtain ⟨d, rfl⟩ := d
  obtain ⟨cl, Ar, q, r⟩ := V
  have hk : i < vs.length := (List.getElem?_eq_some_iff.mp hv).1
  exact own_by (fun t kk => Y.baloadBytes hx (j := j) (v := v) (by rw [eT]; exact Ar.1) (State.isArrayOf_alike hZ.alike Ar.2.1) Ar.2.2 (own_in hj q hk) (by rw [q, hj.2]; simpa using hv) (g := mkF m pc L (.int j :: .ref a :: st)) rfl rfl (hb hby d) t kk) k
theorem own_alen (X : own_St p l e R s m args below meth c Z n0 bs maxL own T h cells slots) {a : Addr} {ty : FieldType} {vs : List Value} (V : own_AL Z h a ty vs) (d : own_ix bs pc .arraylength 1 pc') (k : own_Wins p e below A T (mkF m pc' L (.int (Int32.ofNat vs.length) :: st))) : own_Wins p e below A T (mkF m pc L (.ref a :: st)) := by
  obtain ⟨locs, Y, eT, N, hn, hx, hby, hml, hown, hZ, hlk⟩ := X
  obtain ⟨d, rfl⟩ := d
  obtain ⟨cl, Ar, q, r⟩ := V
  exact own_by (fun t kk => Y.arraylength hx (by rw [eT]; exact Ar.1) (State.isArrayOf_alike hZ.alike Ar.2.1) (g := mkF m pc L (.ref a :: st)) rfl rfl (hb hby d) t (by rw [own_len q]; exact kk)) k
theorem own_iastore (X : own_St p l e R s m args below meth c Z n0 bs maxL own T h cells slots) {a : Addr} {vs : List Value} (V : own_AL Z h a .int vs) (ga : n0 ≤ a) {j : Int32} {x : Int32} {i : Nat} (hj : own_idx j i) (hk : i < vs.length) (d : own_ix bs pc .iastore 1 pc') (k : ∀ T' h', own_St p l e R s m args below meth c Z n0 bs maxL own T' h' cells slots → Wr h h' a i (.int x) → own_AL Z h' a .int (vs.set i (.int x)) → own_Wins p e below A T' (mkF m pc' L st)) : own_Wins p e below A T (mkF m pc L (.int x :: .int j :: .ref a :: st)) := by
  obtain ⟨locs, Y, eT, N, hn, hx, hby, hml, hown, hZ, hlk⟩ := X
  obtain ⟨d, rfl⟩ := d
  have V0 := V
  obtain ⟨cl, Ar, q, r⟩ := V
  obtain ⟨T', h', Y', e', W', st'⟩ := stI Y hx hZ eT Ar (j := j) (x := x) (own_in hj q hk) (g := mkF m pc L (.int x :: .int j :: .ref a :: st)) rfl rfl (hb hby d)
  have W2 : Wr h h' a i (.int x) := hj.2 ▸ W'
  exact own_by st' (k T' h' ⟨_, Y', e', Fr.snoc Y' N ga, W'.size ▸ hn, hx, hby, hml, hown, hZ, hlk⟩ W2 (V0.same W2))
theorem own_lastore (X : own_St p l e R s m args below meth c Z n0 bs maxL own T h cells slots) {a : Addr} {vs : List Value} (V : own_AL Z h a .long vs) (ga : n0 ≤ a) {j : Int32} {x : Int64} {i : Nat} (hj : own_idx j i) (hk : i < vs.length) (d : own_ix bs pc .lastore 1 pc') (k : ∀ T' h', own_St p l e R s m args below meth c Z n0 bs maxL own T' h' cells slots → Wr h h' a i (.long x) → own_AL Z h' a .long (vs.set i (.long x)) → own_Wins p e below A T' (mkF m pc' L st)) : own_Wins p e below A T (mkF m pc L (.long x :: .int j :: .ref a :: st)) := by
  obtain ⟨locs, Y, eT, N, hn, hx, hby, hml, hown, hZ, hlk⟩ := X
  obtain ⟨d, rfl⟩ := d
  have V0 := V
  obtain ⟨cl, Ar, q, r⟩ := V
  obtain ⟨T', h', Y', e', W', st'⟩ := stJ Y hx hZ eT Ar (j := j) (x := x) (own_in hj q hk) (g := mkF m pc L (.long x :: .int j :: .ref a :: st)) rfl rfl (hb hby d)
  have W2 : Wr h h' a i (.long x) := hj.2 ▸ W'
  exact own_by st' (k T' h' ⟨_, Y', e', Fr.snoc Y' N ga, W'.size ▸ hn, hx, hby, hml, hown, hZ, hlk⟩ W2 (V0.same W2))
theorem own_bastore (X : own_St p l e R s m args below meth c Z n0 bs maxL own T h cells slots) {a : Addr} {vs : List Value} (V : own_AL Z h a .byte vs) (ga : n0 ≤ a) {j : Int32} {x : Int32} {i : Nat} (hj : own_idx j i) (hk : i < vs.length) (d : own_ix bs pc .bastore 1 pc') (k : ∀ T' h', own_St p l e R s m args below meth c Z n0 bs maxL own T' h' cells slots → Wr h h' a i (.int x.toInt8.toInt32) → own_AL Z h' a .byte (vs.set i (.int x.toInt8.toInt32)) → own_Wins p e below A T' (mkF m pc' L st)) : own_Wins p e below A T (mkF m pc L (.int x :: .int j :: .ref a :: st)) := by
  obtain ⟨locs, Y, eT, N, hn, hx, hby, hml, hown, hZ, hlk⟩ := X
  obtain ⟨d, rfl⟩ := d
  have V0 := V
  obtain ⟨cl, Ar, q, r⟩ := V
  obtain ⟨T', h', Y', e', W', st'⟩ := stB Y hx hZ eT Ar (j := j) (x := x) (own_in hj q hk) (g := mkF m pc L (.int x :: .int j :: .ref a :: st)) rfl rfl (hb hby d)
  have W2 : Wr h h' a i (.int x.toInt8.toInt32) := hj.2 ▸ W'
  exact own_by st' (k T' h' ⟨_, Y', e', Fr.snoc Y' N ga, W'.size ▸ hn, hx, hby, hml, hown, hZ, hlk⟩ W2 (V0.same W2))
theorem own_newarr (X : own_St p l e R s m args below meth c Z n0 bs maxL own T h cells slots) {aty : ArrayType} (w : (Jvm.Cond.arrayClass (newarray.typeOf aty)).before a0 Z = true) (d : own_ix bs pc (.newarray aty) 2 pc') {z : Int32} {n : Nat} (hz : own_idx z n) (cap : Nat) (hcap : n ≤ cap) (hb1 : cap * 8 ≤ 536870912) (hc : cells + 1 ≤ R.cells) (hl : slots + cap ≤ R.slots)
    (k : ∀ T' h' a, own_St p l e R s m args below meth c Z n0 bs maxL own T' h' (cells + 1) (slots + cap) → Ext h h' → a = h.size → n0 ≤ a → own_AL Z h' a (newarray.typeOf aty) (List.replicate n (defaultValue (newarray.typeOf aty))) → own_Wins p e below A T' (mkF m pc' L (.ref a :: st))) : own_Wins p e below A T (mkF m pc L (.int z :: st)) := by
  obtain ⟨locs, Y, eT, N, hn, hx, hby, hml, hown, hZ, hlk⟩ := X
  obtain ⟨d, rfl⟩ := d
  obtain ⟨T', h', cA, Y', e', E', A', st'⟩ := newP Y hx hZ w eT (g := mkF m pc L (.int z :: st)) rfl (hb hby d) rfl hz.1 (cap := cap) (by rw [hz.2]; exact hcap) hb1 hc hl
  exact own_by st' (k T' h' _ ⟨_, Y', e', N, Nat.le_trans hn E'.1, hx, hby, hml, hown, hZ, hlk⟩ E' rfl hn (own_AL.new A' hz.2 (by omega)))
def own_up (g : Nat → Value) (k : Nat) (v : Value) : Nat → Value := fun j => if j = k then v else g j
theorem own_up_same (g : Nat → Value) (k : Nat) (v : Value) : own_up g k v k = v := if_pos rfl
theorem own_up_ne (g : Nat → Value) {k j : Nat} (v : Value) (h : j ≠ k) : own_up g k v j = g j := if_neg h
def own_AF (Z : State) (h : Heap) (a : Addr) (ty : FieldType) (n : Nat) (g : Nat → Value) : Prop := ∃ vs, own_AL Z h a ty vs ∧ vs.length = n ∧ ∀ j, j < n → vs[j]? = some (g j)
theorem own_AF.lt {a : Addr} {ty : FieldType} {n : Nat} {g : Nat → Value} (V : own_AF Z h a ty n g) : a < h.size := by obtain ⟨vs, V, -⟩ := V; exact V.lt
theorem own_AF.ext {a : Addr} {ty : FieldType} {n : Nat} {g : Nat → Value} (V : own_AF Z h a ty n g) (E : Ext h h') : own_AF Z h' a ty n g := by obtain ⟨vs, V, r⟩ := V; exact ⟨vs, V.ext E, r⟩
theorem own_AF.other {a b : Addr} {sl : Nat} {v : Value} {ty : FieldType} {n : Nat} {g : Nat → Value} (V : own_AF Z h b ty n g) (W : Wr h h' a sl v) (q : b ≠ a) : own_AF Z h' b ty n g := by obtain ⟨vs, V, r⟩ := V; exact ⟨vs, V.other W q, r⟩
theorem own_AF.keep {a : Addr} {ws : List Addr} {ty : FieldType} {n : Nat} {g : Nat → Value} (V : own_AF Z h a ty n g) (K : Keep h h' ws) (q : a ∉ ws) : own_AF Z h' a ty n g := by obtain ⟨vs, V, r⟩ := V; exact ⟨vs, V.keep K q, r⟩
theorem own_AF.same {a : Addr} {i : Nat} {v : Value} {ty : FieldType} {n : Nat} {g : Nat → Value} (V : own_AF Z h a ty n g) (W : Wr h h' a i v) : own_AF Z h' a ty n (own_up g i v) := by
  obtain ⟨vs, V, hn, hg⟩ := V
  refine ⟨_, V.same W, by simpa using hn, fun j hj => ?_⟩
  by_cases hij : j = i
  · subst hij; rw [own_up_same, List.getElem?_set_self (by omega)]
  · rw [own_up_ne _ _ hij, List.getElem?_set_ne (Ne.symm hij)]; exact hg j hj
theorem own_AF.len {a : Addr} {ty : FieldType} {n : Nat} {g : Nat → Value} (V : own_AF Z h a ty n g) : n < 2147483648 := by obtain ⟨vs, ⟨c, -, -, q⟩, hn, -⟩ := V; omega
theorem own_AL.fn {a : Addr} {ty : FieldType} {vs : List Value} (V : own_AL Z h a ty vs) (n : Nat) (hn : vs.length = n) (d : Value) : own_AF Z h a ty n (fun j => vs.getD j d) := ⟨vs, V, hn, fun j hj => by simp only [List.getD_eq_getElem?_getD]; rw [List.getElem?_eq_getElem (by omega)]; rfl⟩
theorem own_AF.to {a : Addr} {ty : FieldType} {n : Nat} {g g' : Nat → Value} (V : own_AF Z h a ty n g) (e : ∀ j, j < n → g j = g' j) : own_AF Z h a ty n g' := by obtain ⟨vs, V, hn, hg⟩ := V; exact ⟨vs, V, hn, fun j hj => by rw [hg j hj, e j hj]⟩
theorem own_ialoadF (X : own_St p l e R s m args below meth c Z n0 bs maxL own T h cells slots) {a : Addr} {n : Nat} {g : Nat → Value} (V : own_AF Z h a .int n g) {j : Int32} {i : Nat} {v : Value} (hj : own_idx j i) (hi : i < n) (hv : g i = v) (d : own_ix bs pc .iaload 1 pc') (k : own_Wins p e below A T (mkF m pc' L (v :: st))) : own_Wins p e below A T (mkF m pc L (.int j :: .ref a :: st)) := by
  obtain ⟨vs, V, hn, hg⟩ := V
  exact own_iaload X V hj (by rw [hg i hi, hv]) d k
theorem own_laloadF (X : own_St p l e R s m args below meth c Z n0 bs maxL own T h cells slots) {a : Addr} {n : Nat} {g : Nat → Value} (V : own_AF Z h a .long n g) {j : Int32} {i : Nat} {v : Value} (hj : own_idx j i) (hi : i < n) (hv : g i = v) (d : own_ix bs pc .laload 1 pc') (k : own_Wins p e below A T (mkF m pc' L (v :: st))) : own_Wins p e below A T (mkF m pc L (.int j :: .ref a :: st)) := by
  obtain ⟨vs, V, hn, hg⟩ := V
  exact own_laload X V hj (by rw [hg i hi, hv]) d k
theorem own_baloadF (X : own_St p l e R s m args below meth c Z n0 bs maxL own T h cells slots) {a : Addr} {n : Nat} {g : Nat → Value} (V : own_AF Z h a .byte n g) {j : Int32} {i : Nat} {v : Value} (hj : own_idx j i) (hi : i < n) (hv : g i = v) (d : own_ix bs pc .baload 1 pc') (k : own_Wins p e below A T (mkF m pc' L (v :: st))) : own_Wins p e below A T (mkF m pc L (.int j :: .ref a :: st)) := by
  obtain ⟨vs, V, hn, hg⟩ := V
  exact own_baload X V hj (by rw [hg i hi, hv]) d k
theorem own_alenF (X : own_St p l e R s m args below meth c Z n0 bs maxL own T h cells slots) {a : Addr} {ty : FieldType} {n : Nat} {g : Nat → Value} (V : own_AF Z h a ty n g) (d : own_ix bs pc .arraylength 1 pc') (k : own_Wins p e below A T (mkF m pc' L (.int (Int32.ofNat n) :: st))) : own_Wins p e below A T (mkF m pc L (.ref a :: st)) := by
  obtain ⟨vs, V, rfl, hg⟩ := V
  exact own_alen X V d k
theorem own_iastoreF (X : own_St p l e R s m args below meth c Z n0 bs maxL own T h cells slots) {a : Addr} {n : Nat} {g : Nat → Value} (V : own_AF Z h a .int n g) (ga : n0 ≤ a) {j : Int32} {x : Int32} {i : Nat} (hj : own_idx j i) (hi : i < n) (d : own_ix bs pc .iastore 1 pc') (k : ∀ T' h', own_St p l e R s m args below meth c Z n0 bs maxL own T' h' cells slots → Wr h h' a i (.int x) → own_AF Z h' a .int n (own_up g i (.int x)) → own_Wins p e below A T' (mkF m pc' L st)) : own_Wins p e below A T (mkF m pc L (.int x :: .int j :: .ref a :: st)) := by
  have V0 := V
  obtain ⟨vs, V, hn, hg⟩ := V
  exact own_iastore X V ga hj (by omega) d (fun T' h' X' W' _ => k T' h' X' W' (V0.same W'))
theorem own_lastoreF (X : own_St p l e R s m args below meth c Z n0 bs maxL own T h cells slots) {a : Addr} {n : Nat} {g : Nat → Value} (V : own_AF Z h a .long n g) (ga : n0 ≤ a) {j : Int32} {x : Int64} {i : Nat} (hj : own_idx j i) (hi : i < n) (d : own_ix bs pc .lastore 1 pc') (k : ∀ T' h', own_St p l e R s m args below meth c Z n0 bs maxL own T' h' cells slots → Wr h h' a i (.long x) → own_AF Z h' a .long n (own_up g i (.long x)) → own_Wins p e below A T' (mkF m pc' L st)) : own_Wins p e below A T (mkF m pc L (.long x :: .int j :: .ref a :: st)) := by
  have V0 := V
  obtain ⟨vs, V, hn, hg⟩ := V
  exact own_lastore X V ga hj (by omega) d (fun T' h' X' W' _ => k T' h' X' W' (V0.same W'))
theorem own_bastoreF (X : own_St p l e R s m args below meth c Z n0 bs maxL own T h cells slots) {a : Addr} {n : Nat} {g : Nat → Value} (V : own_AF Z h a .byte n g) (ga : n0 ≤ a) {j : Int32} {x : Int32} {i : Nat} (hj : own_idx j i) (hi : i < n) (d : own_ix bs pc .bastore 1 pc') (k : ∀ T' h', own_St p l e R s m args below meth c Z n0 bs maxL own T' h' cells slots → Wr h h' a i (.int x.toInt8.toInt32) → own_AF Z h' a .byte n (own_up g i (.int x.toInt8.toInt32)) → own_Wins p e below A T' (mkF m pc' L st)) : own_Wins p e below A T (mkF m pc L (.int x :: .int j :: .ref a :: st)) := by
  have V0 := V
  obtain ⟨vs, V, hn, hg⟩ := V
  exact own_bastore X V ga hj (by omega) d (fun T' h' X' W' _ => k T' h' X' W' (V0.same W'))
/-- an object of a class with these fields (names and descriptors), holding these values -/
def own_Obj (Z : State) (h : Heap) (a : Addr) (C : String) (ns : List (String × String)) (vs : List Value) : Prop := Exa Z h a C ∧ ns.length = vs.length ∧ ∀ (i : Nat) (n d : String) (v : Value), ns[i]? = some (n, d) → vs[i]? = some v → Fld Z h a C n d v
theorem own_Obj.lt {a : Addr} {C : String} {ns : List (String × String)} {vs : List Value} (O : own_Obj Z h a C ns vs) : a < h.size := O.1.lt
theorem own_Obj.ext {a : Addr} {C : String} {ns : List (String × String)} {vs : List Value} (O : own_Obj Z h a C ns vs) (E : Ext h h') : own_Obj Z h' a C ns vs := ⟨O.1.ext E, O.2.1, fun i n d v h1 h2 => (O.2.2 i n d v h1 h2).ext E⟩
theorem own_Obj.other {a b : Addr} {sl : Nat} {w : Value} {C : String} {ns : List (String × String)} {vs : List Value} (O : own_Obj Z h b C ns vs) (W : Wr h h' a sl w) (q : b ≠ a) : own_Obj Z h' b C ns vs := ⟨O.1.wr W, O.2.1, fun i n d v h1 h2 => (O.2.2 i n d v h1 h2).other W (Or.inl q)⟩
theorem own_Obj.keep {a : Addr} {ws : List Addr} {C : String} {ns : List (String × String)} {vs : List Value} (O : own_Obj Z h a C ns vs) (K : Keep h h' ws) (q : a ∉ ws) : own_Obj Z h' a C ns vs := ⟨O.1.keep K, O.2.1, fun i n d v h1 h2 => (O.2.2 i n d v h1 h2).keep K q⟩
def own_Laid (Z : State) (a0 : Array Value) (C : String) (ns : List (String × String)) : Prop := (∀ q ∈ ns, Laid Z a0 C C q.1 q.2 ∧ ∃ t, parseFieldDescriptor q.2 = some t) ∧ (ns.map (·.1)).Nodup
theorem own_Obj.put {a : Addr} {C n d : String} {ns : List (String × String)} {vs : List Value} {i : Nat} {v : Value} (O : own_Obj Z h a C ns vs) (La : own_Laid Z a0 C ns) (hi : ns[i]? = some (n, d)) (W : Wr h h' a (Jvm.RoadKit.slotOf Z C n d) v) : own_Obj Z h' a C ns (vs.set i v) := by
  refine ⟨O.1.wr W, by simpa using O.2.1, fun j n' d' v' h1 h2 => ?_⟩
  by_cases hij : i = j
  · subst hij
    rw [hi] at h1
    obtain ⟨rfl, rfl⟩ : n = n' ∧ d = d' := by simpa using h1
    have hlt : i < vs.length := by rw [← O.2.1]; exact (List.getElem?_eq_some_iff.mp hi).1
    rw [List.getElem?_set_self hlt] at h2
    cases h2
    exact (O.2.2 i n d vs[i] hi (List.getElem?_eq_getElem hlt)).same W
  · rw [List.getElem?_set_ne hij] at h2
    refine (O.2.2 j n' d' v' h1 h2).other W (Or.inr ?_)
    obtain ⟨L1, t1, e1⟩ := La.1 _ (List.mem_of_getElem? hi)
    obtain ⟨L2, t2, e2⟩ := La.1 _ (List.mem_of_getElem? h1)
    refine slot_ne L2 L1 ?_ e2 e1
    intro hnn
    obtain ⟨li, ei⟩ := List.getElem?_eq_some_iff.mp hi
    obtain ⟨lj, ej⟩ := List.getElem?_eq_some_iff.mp h1
    have hp := List.pairwise_iff_getElem.mp La.2
    rcases Nat.lt_or_gt_of_ne hij with hlt | hlt
    · exact hp i j (by simpa using li) (by simpa using lj) hlt (by simp [ei, ej, hnn])
    · exact hp j i (by simpa using lj) (by simpa using li) hlt (by simp [ei, ej, hnn])
theorem own_getF (X : own_St p l e R s m args below meth c Z n0 bs maxL own T h cells slots) {i k : Nat} {a : Addr} {C n dd host : String} {ns : List (String × String)} {vs : List Value} {v : Value} (w : (Jvm.Cond.fieldLink own i C n dd).before a0 Z = true) (O : own_Obj Z h a C ns vs) (hi : ns[k]? = some (n, dd)) (hv : vs[k]? = some v) (d : own_ix bs pc (.getfield i) 3 pc')
    (kk : ∀ T', own_St p l e R s m args below meth c Z n0 bs maxL own T' h cells slots → own_Wins p e below A T' (mkF m pc' L (v :: st))) : own_Wins p e below A T (mkF m pc L (.ref a :: st)) := by
  obtain ⟨locs, Y, eT, N, hn, hx, hby, hml, hown, hZ, hlk⟩ := X
  obtain ⟨d, rfl⟩ := d
  obtain ⟨T', Y', e', st'⟩ := getF Y hx hZ hown (host := "") (Or.inl w) Via.refl eT (O.2.2 k n dd v hi hv) (g := mkF m pc L (.ref a :: st)) rfl rfl (hb hby d)
  exact own_by st' (kk T' ⟨_, Y', e', N, hn, hx, hby, hml, hown, hZ, hlk⟩)
theorem own_putF (X : own_St p l e R s m args below meth c Z n0 bs maxL own T h cells slots) {i k kc : Nat} {a : Addr} {C n dd : String} {ns : List (String × String)} {vs : List Value} {v v' : Value} {ty : FieldType} (w : (Jvm.Cond.fieldLink own i C n dd).before a0 Z = true) (O : own_Obj Z h a C ns vs) (La : own_Laid Z a0 C ns) (hi : ns[k]? = some (n, dd))
    (Ly : (Jvm.Cond.lays C C n dd).before a0 Z = true ∨ ((Jvm.Cond.laysFinal C C n dd).before a0 Z = true ∧ own = C ∧ meth.name = "<init>")) (wi : (Jvm.Cond.instantiable C kc).before a0 Z = true) (hty : parseFieldDescriptor dd = some ty) (hnr : narrow ty v = v') (hf : fits ty v' = true) (ga : n0 ≤ a) (d : own_ix bs pc (.putfield i) 3 pc')
    (kk : ∀ T' h', own_St p l e R s m args below meth c Z n0 bs maxL own T' h' cells slots → Wr h h' a (Jvm.RoadKit.slotOf Z C n dd) v' → own_Obj Z h' a C ns (vs.set k v') → own_Wins p e below A T' (mkF m pc' L st)) : own_Wins p e below A T (mkF m pc L (v :: .ref a :: st)) := by
  obtain ⟨locs, Y, eT, N, hn, hx, hby, hml, hown, hZ, hlk⟩ := X
  obtain ⟨d, rfl⟩ := d
  have hlt : k < vs.length := by rw [← O.2.1]; exact (List.getElem?_eq_some_iff.mp hi).1
  obtain ⟨T', h', Y', e', W', st'⟩ := putFN Y hx hZ hown w Via.refl eT (O.2.2 k n dd vs[k] hi (List.getElem?_eq_getElem hlt)) O.1 Ly wi hty hnr hf (g := mkF m pc L (v :: .ref a :: st)) rfl rfl (hb hby d)
  exact own_by st' (kk T' h' ⟨_, Y', e', Fr.snoc Y' N ga, W'.size ▸ hn, hx, hby, hml, hown, hZ, hlk⟩ W' (O.put La hi W'))
theorem own_new (X : own_St p l e R s m args below meth c Z n0 bs maxL own T h cells slots) {i nn : Nat} {C : String} {ns : List (String × String)} (w1 : (Jvm.Cond.classLink own i C).before a0 Z = true) (w2 : (Jvm.Cond.instantiable C nn).before a0 Z = true) (w3 : (Jvm.Cond.initialized C).before a0 Z = true) (La : own_Laid Z a0 C ns) (vs : List Value) (hvs : vs = ns.map fun q => match parseFieldDescriptor q.2 with | some t => defaultValue t | none => .null) (d : own_ix bs pc (.new i) 3 pc') (hc : cells + 1 ≤ R.cells) (hl : slots + nn ≤ R.slots)
    (kk : ∀ T' h' a, own_St p l e R s m args below meth c Z n0 bs maxL own T' h' (cells + 1) (slots + nn) → Ext h h' → a = h.size → n0 ≤ a → own_Obj Z h' a C ns vs → own_Wins p e below A T' (mkF m pc' L (.ref a :: st))) : own_Wins p e below A T (mkF m pc L st) := by
  obtain ⟨locs, Y, eT, N, hn, hx, hby, hml, hown, hZ, hlk⟩ := X
  obtain ⟨d, rfl⟩ := d
  obtain ⟨T', h', Y', e', E', A', D', -, st'⟩ := newO Y hx hZ hown w1 w2 w3 eT (g := mkF m pc L st) rfl (hb hby d) hc hl
  refine own_by st' (kk T' h' _ ⟨_, Y', e', N, Nat.le_trans hn E'.1, hx, hby, hml, hown, hZ, hlk⟩ E' rfl hn ⟨A', by simp [hvs], fun j n dd v h1 h2 => ?_⟩)
  obtain ⟨Lq, t, et⟩ := La.1 _ (List.mem_of_getElem? h1)
  rw [hvs, List.getElem?_map, h1] at h2
  simp only [Option.map_some, et, Option.some.injEq] at h2
  subst h2
  exact D' Lq et
theorem own_initO (X : own_St p l e R s m args below meth c Z n0 bs maxL own T h cells slots) {i : Nat} {a : Addr} (w1 : (Jvm.Cond.methodLink own i Lib.objectInit).before a0 Z = true) (w2 : (Jvm.Cond.instanceMethod Lib.objectInit).before a0 Z = true) (w3 : (Jvm.Cond.code Lib.objectInit ⟨#[0xb1]⟩ 1 none).before a0 Z = true) (d : own_ix bs pc (.invokespecial i) 3 pc') (hsz : L.size = maxL) (hf : 1 ≤ R.frames) (Wt : Nat) (hW : 2 * 0 + (st.map fun v => v.category).sum ≤ Wt) (hl : Wt + 12 ≤ R.locals)
    (kk : ∀ T', own_St p l e R s m args below meth c Z n0 bs maxL own T' h cells slots → own_Wins p e below A T' (mkF m pc' L st)) : own_Wins p e below A T (mkF m pc L (.ref a :: st)) := by
  obtain ⟨locs, Y, eT, N, hn, hx, hby, hml, hown, hZ, hlk⟩ := X
  obtain ⟨d, rfl⟩ := d
  obtain ⟨T', Y', e', st'⟩ := initO Y hx hZ hown w1 w2 w3 eT (g := mkF m pc L (.ref a :: st)) rfl (by rw [hml]; exact hsz) rfl (hb hby d) hf (W := Wt) hW hl
  exact own_by st' (kk T' ⟨_, Y', e', N, hn, hx, hby, hml, hown, hZ, hlk⟩)
/-- what a body does, called with these arguments over this heap: it returns v and leaves a heap with P v h' -/
def own_Con (l : Launch) (Z : State) (n0 : Nat) (y : MethodName) (bs : ByteArray) (maxL : Nat) (ret : Option FieldType) (rm : Room) (ws : List Jvm.Cond) (av : Array Value) (h0 : Heap) (P : Option Value → Heap → Prop) : Prop :=
  MetFree l y (head1 (Jvm.Cond.code y bs maxL ret :: ws) rm) (fun a U => a = av ∧ Z.Warmed39 U.vm ∧ U.heap = h0) (fun _ _ _ _ _ => True) (fun _ U o U' => ∃ v L, o = .returned v ∧ (Fr n0 L ∧ n0 ≤ U'.heap.size ∧ P v U'.heap) ∧ FrameEnd U o U' L rm.cells rm.slots)
def own_G (s : State) (below : List Frame) (n0 : Nat) (rm : Room) (P : Option Value → Heap → Prop) (U : State) (o : Outcome) : Prop :=
  U.status = .running ∧ Ended U below o ∧ ∃ v L, o = .returned v ∧ (Fr n0 L ∧ n0 ≤ U.heap.size ∧ P v U.heap) ∧ FrameEnd s o U L rm.cells rm.slots
theorem own_enter {l : Launch} {Z : State} {n0 : Nat} {y : MethodName} {bs : ByteArray} {maxL : Nat} {ret : Option FieldType} {rm : Room} {ws : List Jvm.Cond} {av : Array Value} {h0 : Heap} {P : Option Value → Heap → Prop} (hpl : plainFor y = true) (Z0 : n0 ≤ h0.size) (L0 : Array Slot) (ef : ∀ m, entryFrame m av maxL = mkF m 0 L0 [])
    (body : ∀ (p : Program) (e : Env) (s : State) (m : MethodId) (below : List Frame) (meth : Method) (c : Code) (T : State) (A : State → Outcome → Prop), own_St p l e rm s m av below meth c Z n0 bs maxL y.cls T h0 0 0 → meth.sig.returnType = ret → meth.name = y.name → (∀ U o, own_G s below n0 rm P U o → A U o) → own_Wins p e below A T (mkF m 0 L0 [])) :
    own_Con l Z n0 y bs maxL ret rm ws av h0 P := by
  refine MetFree.of_bodySF hpl hisR ?_
  intro p e s m args below meth c s₁ Bd hml0 hP hK
  obtain ⟨rfl, hZ, hh⟩ := hP
  have hnm := (name_of_methodNamed Bd.named Bd.method).1
  have X0 : own_St p l e rm s m _ below meth c Z n0 bs maxL y.cls s₁ h0 0 0 := ⟨[], Stand.of_body Bd, by rw [← hh, Bd.state]; rfl, Fr.nil n0, Z0, Bd.exec, Bd.bytes, hml0, findClass_of_methodNamed Bd.named, hZ, BodyLoose.notSynchronized Bd⟩
  obtain ⟨U, o, h1, h2⟩ := body p e s m below meth c s₁ (own_G s below n0 rm P) X0 Bd.returns hnm (fun _ _ g => g)
  exact ⟨U, o, castTop (ef m) h1, h2⟩
theorem own_ret0 (X : own_St p l e R s m args below meth c Z n0 bs maxL own T h cells slots) (hret : meth.sig.returnType = none) {P : Option Value → Heap → Prop} (fin : ∀ U o, own_G s below n0 R P U o → A U o) (hc : cells ≤ R.cells) (hs : slots ≤ R.slots) (hP : P none h) (d : own_ix bs pc .return_ 1 pc') : own_Wins p e below A T (mkF m pc L []) := by
  obtain ⟨locs, Y, eT, N, hn, hx, hby, hml, hown, hZ, hlk⟩ := X
  obtain ⟨fs, hr, hrun, hended, hW, hsame⟩ := Y.leave (v := none) (fun _ => rfl) hlk
  have eF : (T.setFrames fs).heap = h := eT
  exact ⟨_, _, Y.returnOut hx hret (hb hby d.1) hr, fin _ _ ⟨hrun, hended, _, _, rfl, ⟨N, by rw [eF]; exact hn, by rw [eF]; exact hP⟩, ⟨_, rfl⟩, hW, hsame.mono hc hs⟩⟩
theorem own_retJ (X : own_St p l e R s m args below meth c Z n0 bs maxL own T h cells slots) {z : Int64} (hret : meth.sig.returnType = some .long) {P : Option Value → Heap → Prop} (fin : ∀ U o, own_G s below n0 R P U o → A U o) (hc : cells ≤ R.cells) (hs : slots ≤ R.slots) (hP : P (some (.long z)) h) (d : own_ix bs pc .lreturn 1 pc') : own_Wins p e below A T (mkF m pc L (.long z :: st)) := by
  obtain ⟨locs, Y, eT, N, hn, hx, hby, hml, hown, hZ, hlk⟩ := X
  obtain ⟨fs, hr, hrun, hended, hW, hsame⟩ := Y.leave (v := (some (.long z))) (fun q => by rw [hret] at q; cases q) hlk
  have eF : (T.setFrames fs).heap = h := eT
  exact ⟨_, _, retOut Y hx hret rfl (Or.inr (Or.inl ⟨rfl, rfl, z, rfl⟩)) (hb hby d.1) hr, fin _ _ ⟨hrun, hended, _, _, rfl, ⟨N, by rw [eF]; exact hn, by rw [eF]; exact hP⟩, ⟨_, rfl⟩, hW, hsame.mono hc hs⟩⟩
theorem own_retI (X : own_St p l e R s m args below meth c Z n0 bs maxL own T h cells slots) {z : Int32} (hret : meth.sig.returnType = some .int) {P : Option Value → Heap → Prop} (fin : ∀ U o, own_G s below n0 R P U o → A U o) (hc : cells ≤ R.cells) (hs : slots ≤ R.slots) (hP : P (some (.int z)) h) (d : own_ix bs pc .ireturn 1 pc') : own_Wins p e below A T (mkF m pc L (.int z :: st)) := by
  obtain ⟨locs, Y, eT, N, hn, hx, hby, hml, hown, hZ, hlk⟩ := X
  obtain ⟨fs, hr, hrun, hended, hW, hsame⟩ := Y.leave (v := (some (.int z))) (fun q => by rw [hret] at q; cases q) hlk
  have eF : (T.setFrames fs).heap = h := eT
  exact ⟨_, _, retOut Y hx hret rfl (Or.inl ⟨rfl, Or.inl rfl, z, rfl⟩) (hb hby d.1) hr, fin _ _ ⟨hrun, hended, _, _, rfl, ⟨N, by rw [eF]; exact hn, by rw [eF]; exact hP⟩, ⟨_, rfl⟩, hW, hsame.mono hc hs⟩⟩
theorem own_retZ (X : own_St p l e R s m args below meth c Z n0 bs maxL own T h cells slots) {z : Int32} (hret : meth.sig.returnType = some .boolean) (hz : narrow .boolean (.int z) = .int z) {P : Option Value → Heap → Prop} (fin : ∀ U o, own_G s below n0 R P U o → A U o) (hc : cells ≤ R.cells) (hs : slots ≤ R.slots) (hP : P (some (.int z)) h) (d : own_ix bs pc .ireturn 1 pc') : own_Wins p e below A T (mkF m pc L (.int z :: st)) := by
  obtain ⟨locs, Y, eT, N, hn, hx, hby, hml, hown, hZ, hlk⟩ := X
  obtain ⟨fs, hr, hrun, hended, hW, hsame⟩ := Y.leave (v := (some (.int z))) (fun q => by rw [hret] at q; cases q) hlk
  have eF : (T.setFrames fs).heap = h := eT
  exact ⟨_, _, retOut Y hx hret hz (Or.inl ⟨rfl, Or.inr (Or.inl rfl), z, rfl⟩) (hb hby d.1) hr, fin _ _ ⟨hrun, hended, _, _, rfl, ⟨N, by rw [eF]; exact hn, by rw [eF]; exact hP⟩, ⟨_, rfl⟩, hW, hsame.mono hc hs⟩⟩
theorem own_retB (X : own_St p l e R s m args below meth c Z n0 bs maxL own T h cells slots) {z : Int32} (hret : meth.sig.returnType = some .byte) (hz : narrow .byte (.int z) = .int z) {P : Option Value → Heap → Prop} (fin : ∀ U o, own_G s below n0 R P U o → A U o) (hc : cells ≤ R.cells) (hs : slots ≤ R.slots) (hP : P (some (.int z)) h) (d : own_ix bs pc .ireturn 1 pc') : own_Wins p e below A T (mkF m pc L (.int z :: st)) := by
  obtain ⟨locs, Y, eT, N, hn, hx, hby, hml, hown, hZ, hlk⟩ := X
  obtain ⟨fs, hr, hrun, hended, hW, hsame⟩ := Y.leave (v := (some (.int z))) (fun q => by rw [hret] at q; cases q) hlk
  have eF : (T.setFrames fs).heap = h := eT
  exact ⟨_, _, retOut Y hx hret hz (Or.inl ⟨rfl, Or.inr (Or.inr (Or.inl rfl)), z, rfl⟩) (hb hby d.1) hr, fin _ _ ⟨hrun, hended, _, _, rfl, ⟨N, by rw [eF]; exact hn, by rw [eF]; exact hP⟩, ⟨_, rfl⟩, hW, hsame.mono hc hs⟩⟩
theorem own_retA (X : own_St p l e R s m args below meth c Z n0 bs maxL own T h cells slots) {z : Addr} {t : FieldType} (hret : meth.sig.returnType = some t) (ht : t.isReference = true) (hn' : narrow t (.ref z) = .ref z) {P : Option Value → Heap → Prop} (fin : ∀ U o, own_G s below n0 R P U o → A U o) (hc : cells ≤ R.cells) (hs : slots ≤ R.slots) (hP : P (some (.ref z)) h) (d : own_ix bs pc .areturn 1 pc') : own_Wins p e below A T (mkF m pc L (.ref z :: st)) := by
  obtain ⟨locs, Y, eT, N, hn, hx, hby, hml, hown, hZ, hlk⟩ := X
  obtain ⟨fs, hr, hrun, hended, hW, hsame⟩ := Y.leave (v := (some (.ref z))) (fun q => by rw [hret] at q; cases q) hlk
  have eF : (T.setFrames fs).heap = h := eT
  exact ⟨_, _, retOut Y hx hret hn' (Or.inr (Or.inr (Or.inr (Or.inr ⟨rfl, ht, rfl⟩)))) (hb hby d.1) hr, fin _ _ ⟨hrun, hended, _, _, rfl, ⟨N, by rw [eF]; exact hn, by rw [eF]; exact hP⟩, ⟨_, rfl⟩, hW, hsame.mono hc hs⟩⟩
theorem own_callS (X : own_St p l e R s m args below meth c Z n0 bs maxL own T h cells slots) {y : MethodName} {bs' : ByteArray} {maxL' : Nat} {ret' : Option FieldType} {rm : Room} {P : Option Value → Heap → Prop} {i : Nat} (argsL rest : List Value) {ps : List FieldType} {r : Option FieldType} (Wt : Nat) (hstk : st = argsL.reverse ++ rest) (w1 : (Jvm.Cond.methodLink own i y).before a0 Z = true) (w2 : (Jvm.Cond.static y).before a0 Z = true) (w3 : (Jvm.Cond.initialized y.cls).before a0 Z = true) (w4 : (Jvm.Cond.code y bs' maxL' ret').before a0 Z = true) (hy : y.cls ≠ "java/lang/invoke/MethodHandle" ∧ y.cls ≠ "java/lang/invoke/VarHandle")
    (C : own_Con l Z n0 y bs' maxL' ret' rm [] argsL.toArray h P) (d : own_ix bs pc (.invokestatic i) 3 pc') (hlen : parseMethodDescriptor y.desc = some ⟨ps, r⟩) (hl2 : argsL.length = ps.length) (hsz : L.size = maxL) (hW : 2 * 0 + (rest.map fun v => v.category).sum ≤ Wt) (hf : rm.frames + 1 ≤ R.frames) (hl : Wt + (maxL' + 11) + rm.locals ≤ R.locals) (hc : cells + rm.cells ≤ R.cells) (hs : slots + rm.slots ≤ R.slots)
    (kk : ∀ T' h' v, own_St p l e R s m args below meth c Z n0 bs maxL own T' h' (cells + rm.cells) (slots + rm.slots) → P v h' → own_Wins p e below A T' (mkF m pc' L (v.toList ++ rest))) : own_Wins p e below A T (mkF m pc L st) := by
  obtain ⟨locs, Y, eT, N, hn, hx, hby, hml, hown, hZ, hlk⟩ := X
  obtain ⟨d, rfl⟩ := d
  obtain ⟨v, _, ⟨T1, L1, k1, n1⟩, -, X1, ⟨Lc, hQ, l1, y1, z1⟩, st1⟩ := Jvm.LawKit.callS Y hx (y := y) hown (mvT hZ w1) (mvT hZ w2) (mvT hZ w3) (mvT hZ w4) hy (backOf (W := Wt) (bytes := bs') (maxL := maxL') (rm := rm) (Q := fun v h' L => Fr n0 L ∧ n0 ≤ h'.size ∧ P v h') C hZ w4 w3 hf hl) (g := mkF m pc L st) rfl (by rw [hml]; exact hsz) (argsL := argsL) (rest := rest) (lenOf hlen hl2) hstk hW (hb hby d) (fun _ _ => ⟨rfl, eT, hc, hs⟩)
  dsimp only [Pt.U, Pt.locs, Pt.cells, Pt.slots] at X1 l1 y1 z1 st1 hQ
  subst l1 y1 z1
  obtain ⟨N1, n1, hP⟩ := hQ
  exact own_by st1 (kk T1 _ v ⟨_, X1, rfl, Fr.app N N1, n1, hx, hby, hml, hown, hZ, hlk⟩ hP)
theorem own_callI (X : own_St p l e R s m args below meth c Z n0 bs maxL own T h cells slots) {y : MethodName} {bs' : ByteArray} {maxL' : Nat} {rm : Room} {P : Option Value → Heap → Prop} {i : Nat} (argsL rest : List Value) {ps : List FieldType} {r : Option FieldType} (Wt : Nat) {a : Addr} (hstk : st = argsL.reverse ++ .ref a :: rest) (hy1 : y.name = "<init>") (w1 : (Jvm.Cond.methodLink own i y).before a0 Z = true) (w2 : (Jvm.Cond.instanceMethod y).before a0 Z = true) (w3 : (Jvm.Cond.initialized y.cls).before a0 Z = true) (w4 : (Jvm.Cond.code y bs' maxL' none).before a0 Z = true) (hy : y.cls ≠ "java/lang/invoke/MethodHandle" ∧ y.cls ≠ "java/lang/invoke/VarHandle")
    (C : own_Con l Z n0 y bs' maxL' none rm [] (.ref a :: argsL).toArray h P) (d : own_ix bs pc (.invokespecial i) 3 pc') (hlen : parseMethodDescriptor y.desc = some ⟨ps, r⟩) (hl2 : argsL.length = ps.length) (hsz : L.size = maxL) (hW : 2 * 0 + (rest.map fun v => v.category).sum ≤ Wt) (hf : rm.frames + 1 ≤ R.frames) (hl : Wt + (maxL' + 11) + rm.locals ≤ R.locals) (hc : cells + rm.cells ≤ R.cells) (hs : slots + rm.slots ≤ R.slots)
    (kk : ∀ T' h' v, own_St p l e R s m args below meth c Z n0 bs maxL own T' h' (cells + rm.cells) (slots + rm.slots) → P v h' → own_Wins p e below A T' (mkF m pc' L (v.toList ++ rest))) : own_Wins p e below A T (mkF m pc L st) := by
  obtain ⟨locs, Y, eT, N, hn, hx, hby, hml, hown, hZ, hlk⟩ := X
  obtain ⟨d, rfl⟩ := d
  obtain ⟨v, _, ⟨T1, L1, k1, n1⟩, -, X1, ⟨Lc, hQ, l1, y1, z1⟩, st1⟩ := Y.specialBack hx (y := y) hy1 hown (mvT hZ w1) (mvT hZ w2) (mvT hZ w4) hy (backOf (W := Wt) (bytes := bs') (maxL := maxL') (rm := rm) (Q := fun v h' L => Fr n0 L ∧ n0 ≤ h'.size ∧ P v h') C hZ w4 w3 hf hl) (g := mkF m pc L st) rfl (by rw [hml]; exact hsz) (Steps.refl _) (a := a) (argsL := argsL) (rest := rest) (lenOf hlen hl2) hstk hW (hb hby d) (fun _ _ => ⟨rfl, eT, hc, hs⟩)
  dsimp only [Pt.U, Pt.locs, Pt.cells, Pt.slots] at X1 l1 y1 z1 st1 hQ
  subst l1 y1 z1
  obtain ⟨N1, n1, hP⟩ := hQ
  exact own_by (fun _ q => st1.trans q) (kk T1 _ v ⟨_, X1, rfl, Fr.app N N1, n1, hx, hby, hml, hown, hZ, hlk⟩ hP)
theorem own_callV (X : own_St p l e R s m args below meth c Z n0 bs maxL own T h cells slots) {y : MethodName} {bs' : ByteArray} {maxL' : Nat} {ret' : Option FieldType} {rm : Room} {P : Option Value → Heap → Prop} {i : Nat} (argsL rest : List Value) {ps : List FieldType} {r : Option FieldType} (Wt : Nat) {a : Addr} (hstk : st = argsL.reverse ++ .ref a :: rest) (w1 : (Jvm.Cond.methodLink own i y).before a0 Z = true) (w2 : (Jvm.Cond.declares y).before a0 Z = true) (w5 : (Jvm.Cond.selects y.cls y y).before a0 Z = true) (w6 : (Jvm.Cond.instanceMethod y).before a0 Z = true) (w3 : (Jvm.Cond.initialized y.cls).before a0 Z = true) (w4 : (Jvm.Cond.code y bs' maxL' ret').before a0 Z = true) (hy : y.cls ≠ "java/lang/invoke/MethodHandle" ∧ y.cls ≠ "java/lang/invoke/VarHandle") (E : Exa Z h a y.cls)
    (C : own_Con l Z n0 y bs' maxL' ret' rm [] (.ref a :: argsL).toArray h P) (d : own_ix bs pc (.invokevirtual i) 3 pc') (hlen : parseMethodDescriptor y.desc = some ⟨ps, r⟩) (hl2 : argsL.length = ps.length) (hsz : L.size = maxL) (hW : 2 * 0 + (rest.map fun v => v.category).sum ≤ Wt) (hf : rm.frames + 1 ≤ R.frames) (hl : Wt + (maxL' + 11) + rm.locals ≤ R.locals) (hc : cells + rm.cells ≤ R.cells) (hs : slots + rm.slots ≤ R.slots)
    (kk : ∀ T' h' v, own_St p l e R s m args below meth c Z n0 bs maxL own T' h' (cells + rm.cells) (slots + rm.slots) → P v h' → own_Wins p e below A T' (mkF m pc' L (v.toList ++ rest))) : own_Wins p e below A T (mkF m pc L st) := by
  obtain ⟨locs, Y, eT, N, hn, hx, hby, hml, hown, hZ, hlk⟩ := X
  obtain ⟨d, rfl⟩ := d
  obtain ⟨cq, kq, qa, qb, qc⟩ := isOf hZ eT E
  obtain ⟨v, _, ⟨T1, L1, k1, n1⟩, -, X1, ⟨Lc, hQ, l1, y1, z1⟩, st1⟩ := Y.virtualBack hx (y := y) (z := y) hown (mvT hZ w1) (mvT hZ w2) (notFace_of_selects (args := #[]) (mvT hZ w5)) (mvT hZ w5) (mvT hZ w6) hy (backOf (W := Wt) (bytes := bs') (maxL := maxL') (rm := rm) (Q := fun v h' L => Fr n0 L ∧ n0 ≤ h'.size ∧ P v h') C hZ w4 w3 hf hl) qa qc (g := mkF m pc L st) rfl (by rw [hml]; exact hsz) (Steps.refl _) (argsL := argsL) (rest := rest) (lenOf hlen hl2) hstk hW (hb hby d) (fun _ _ => ⟨rfl, eT, hc, hs⟩)
  dsimp only [Pt.U, Pt.locs, Pt.cells, Pt.slots] at X1 l1 y1 z1 st1 hQ
  subst l1 y1 z1
  obtain ⟨N1, n1, hP⟩ := hQ
  exact own_by (fun _ q => st1.trans q) (kk T1 _ v ⟨_, X1, rfl, Fr.app N N1, n1, hx, hby, hml, hown, hZ, hlk⟩ hP)
theorem own_callP (X : own_St p l e R s m args below meth c Z n0 bs maxL own T h cells slots) {y : MethodName} {bs' : ByteArray} {maxL' : Nat} {ret' : Option FieldType} {rm : Room} {P : Option Value → Heap → Prop} {i : Nat} (argsL rest : List Value) {ps : List FieldType} {r : Option FieldType} (Wt : Nat) {a : Addr} {kk' : Nat} (hstk : st = argsL.reverse ++ .ref a :: rest) (w1 : (Jvm.Cond.methodLink own i y).before a0 Z = true) (w2 : (Jvm.Cond.privateMethod y).before a0 Z = true) (w6 : (Jvm.Cond.instanceMethod y).before a0 Z = true) (w3 : (Jvm.Cond.initialized y.cls).before a0 Z = true) (w4 : (Jvm.Cond.code y bs' maxL' ret').before a0 Z = true) (wi : (Jvm.Cond.instantiable y.cls kk').before a0 Z = true) (hy : y.cls ≠ "java/lang/invoke/MethodHandle" ∧ y.cls ≠ "java/lang/invoke/VarHandle") (E : Exa Z h a y.cls)
    (C : own_Con l Z n0 y bs' maxL' ret' rm [] (.ref a :: argsL).toArray h P) (d : own_ix bs pc (.invokevirtual i) 3 pc') (hlen : parseMethodDescriptor y.desc = some ⟨ps, r⟩) (hl2 : argsL.length = ps.length) (hsz : L.size = maxL) (hW : 2 * 0 + (rest.map fun v => v.category).sum ≤ Wt) (hf : rm.frames + 1 ≤ R.frames) (hl : Wt + (maxL' + 11) + rm.locals ≤ R.locals) (hc : cells + rm.cells ≤ R.cells) (hs : slots + rm.slots ≤ R.slots)
    (kk : ∀ T' h' v, own_St p l e R s m args below meth c Z n0 bs maxL own T' h' (cells + rm.cells) (slots + rm.slots) → P v h' → own_Wins p e below A T' (mkF m pc' L (v.toList ++ rest))) : own_Wins p e below A T (mkF m pc L st) := by
  obtain ⟨locs, Y, eT, N, hn, hx, hby, hml, hown, hZ, hlk⟩ := X
  obtain ⟨d, rfl⟩ := d
  obtain ⟨cq, q1, q2⟩ := E.cell
  have hpr : s.PrivateAt y := Cond.privateMethod_at (mvP hZ w2 (args := #[]))
  obtain ⟨cI, kI, e1, e2, -, e3, -⟩ := Cond.instantiable_spec (mv (args := #[]) hZ wi)
  have hsel : (Jvm.Cond.selects y.cls y y).before args s = true := Jvm.Stand.selects_self_of_private e1 e2 (by cases hq : kI.isInterface <;> simp_all) hpr (mvT hZ w6) hy
  obtain ⟨v, _, ⟨T1, L1, k1, n1⟩, -, X1, ⟨Lc, hQ, l1, y1, z1⟩, st1⟩ := Y.privateBack hx (y := y) hown (mvT hZ w1) (mvT hZ w6) hsel hpr (mvT hZ w4) hy (backOf (W := Wt) (bytes := bs') (maxL := maxL') (rm := rm) (Q := fun v h' L => Fr n0 L ∧ n0 ≤ h'.size ∧ P v h') C hZ w4 w3 hf hl) (g := mkF m pc L st) rfl (by rw [hml]; exact hsz) (Steps.refl _) (a := a) (by rw [eT]; exact q1) q2 (argsL := argsL) (rest := rest) (lenOf hlen hl2) hstk hW (hb hby d) (fun _ _ => ⟨rfl, eT, hc, hs⟩)
  dsimp only [Pt.U, Pt.locs, Pt.cells, Pt.slots] at X1 l1 y1 z1 st1 hQ
  subst l1 y1 z1
  obtain ⟨N1, n1, hP⟩ := hQ
  exact own_by (fun _ q => st1.trans q) (kk T1 _ v ⟨_, X1, rfl, Fr.app N N1, n1, hx, hby, hml, hown, hZ, hlk⟩ hP)
end OwnLayer
theorem own_Lushr_bv (x : Int64) (q : Int32) (k : Nat) (hk : q.toBitVec.toNat % 64 = k) : (own_Lushr x q).toBitVec = x.toBitVec >>> k := by
  have h5 := (sm64 q k hk).2
  show x.toBitVec >>> ((q &&& 0x3f).toInt64.toBitVec % 64) = _
  rw [BitVec.ushiftRight_eq', BitVec.toNat_umod, (sm64 q k hk).1, BitVec.toNat_ofNat]
  congr 1
  show k % 2 ^ 64 % 64 = k
  omega
theorem own_Lshl_bv (x : Int64) (q : Int32) (k : Nat) (hk : q.toBitVec.toNat % 64 = k) : (own_Lshl x q).toBitVec = x.toBitVec <<< k := by
  show x.toBitVec <<< ((q &&& 0x3f).toInt64.toBitVec.smod 64) = _
  rw [BitVec.shiftLeft_eq', (sm64 q k hk).1, smod64 k (sm64 q k hk).2]
theorem own_Iushr_bv (x q : Int32) (k : Nat) (hk : q.toBitVec.toNat % 32 = k) : (own_Iushr x q).toBitVec = x.toBitVec >>> k := by
  have h1 : (q &&& 31).toBitVec.toNat = k := by
    show (q.toBitVec &&& (31 : Int32).toBitVec).toNat = _
    rw [BitVec.toNat_and, show (31 : Int32).toBitVec.toNat = 2 ^ 5 - 1 from by decide, Nat.and_two_pow_sub_one_eq_mod]; exact hk
  show x.toBitVec >>> ((q &&& 31).toBitVec % 32) = _
  rw [BitVec.ushiftRight_eq', BitVec.toNat_umod, h1]
  congr 1
  show k % 32 = k
  omega

theorem own_idx_iff {j : Int32} {k : Nat} : own_idx j k ↔ j.toInt = (k : Int) := by
  have h0 : (0 : Int32).toInt = 0 := by decide
  have h1 : j.toNatClampNeg = j.toInt.toNat := rfl
  rw [own_idx, Int32.lt_iff_toInt_lt, h0, h1]
  omega
theorem own_idx_nat {k : Nat} (h : k < 2147483648) : own_idx (Int32.ofNat k) k := own_idx_iff.mpr (Int32.toInt_ofNat_of_lt h)
theorem own_idx_add {a b : Int32} {m n : Nat} (ha : own_idx a m) (hb : own_idx b n) (h : m + n < 2147483648) : own_idx (a + b) (m + n) := by
  rw [own_idx_iff] at *
  have h1 := c_iadd a b
  have h2 := rng32 (a + b)
  omega
theorem own_idx_sub {a b : Int32} {m n : Nat} (ha : own_idx a m) (hb : own_idx b n) (h : n ≤ m) : own_idx (a - b) (m - n) := by
  rw [own_idx_iff] at *
  have h1 := c_isub a b
  have h2 := rng32 (a - b)
  have h3 := rng32 a
  omega
theorem own_idx_lt {a b : Int32} {m n : Nat} (ha : own_idx a m) (hb : own_idx b n) : a < b ↔ m < n := by
  rw [own_idx_iff] at *
  rw [Int32.lt_iff_toInt_lt]
  omega
theorem own_idx_eq {a b : Int32} {m n : Nat} (ha : own_idx a m) (hb : own_idx b n) : a = b ↔ m = n := by
  rw [own_idx_iff] at *
  rw [← Int32.toInt_inj]
  omega
theorem own_idx_range {a : Int32} {m : Nat} (ha : own_idx a m) : m < 2147483648 := by
  rw [own_idx_iff] at ha
  have := rng32 a
  omega
theorem own_idx_val {a : Int32} {m : Nat} (ha : own_idx a m) : a = Int32.ofNat m := (own_idx_eq ha (own_idx_nat (own_idx_range ha))).mpr rfl
theorem own_succ (i : Nat) : Int32.ofNat i + 1 = Int32.ofNat (i + 1) := by
  rw [Int32.ofNat_add]; rfl
theorem own_mod_idx (z : Int32) (d : Int32) (n : Nat) (hd : own_idx d n) (hn : 0 < n) : ∃ k, k < n ∧ own_idx ((z &&& 2147483647) % d) k := by
  have h1 := c_mask z 2147483647 31 (by decide) (by decide)
  have hd' := own_idx_iff.mp hd
  have h2 := (c_irem (z &&& 2147483647) d n hd').1 (by rw [h1]; omega)
  refine ⟨((z &&& 2147483647).toInt % (n : Int)).toNat, ?_, ?_⟩
  · have := Int.emod_lt_of_pos (z &&& 2147483647).toInt (show (0 : Int) < n by omega)
    have := Int.emod_nonneg (z &&& 2147483647).toInt (show (n : Int) ≠ 0 by omega)
    omega
  · rw [own_idx_iff, h2]
    have := Int.emod_nonneg (z &&& 2147483647).toInt (show (n : Int) ≠ 0 by omega)
    omega

def own_c (c : Int32) (m : Int64) (s_ : Int32) : Int32 := ((c.toInt64 + m % s_.toInt64) % s_.toInt64).toInt32
def own_m (c : Int32) (m : Int64) (s_ : Int32) : Int64 := m / s_.toInt64 + (c.toInt64 + m % s_.toInt64) / s_.toInt64
def own_res (t : Int64) (s_ c0 c1 c2 : Int32) (p0 p1 p2 : Int64) (r0 r1 r2 : Int32) (u0 u1 u2 : Int64) : Prop :=
  r0 = (if 0 < t then own_c c0 t s_ else c0) ∧ u0 = (if 0 < t then p0 + t else p0) ∧
  r1 = (if 0 < t then (if 0 < own_m c0 t s_ then own_c c1 (own_m c0 t s_) s_ else c1) else c1) ∧ u1 = (if 0 < t then (if 0 < own_m c0 t s_ then p1 + own_m c0 t s_ else p1) else p1) ∧
  r2 = (if 0 < t then (if 0 < own_m c0 t s_ then (if 0 < own_m c1 (own_m c0 t s_) s_ then own_c c2 (own_m c1 (own_m c0 t s_) s_) s_ else c2) else c2) else c2) ∧
  u2 = (if 0 < t then (if 0 < own_m c0 t s_ then (if 0 < own_m c1 (own_m c0 t s_) s_ then p2 + own_m c1 (own_m c0 t s_) s_ else p2) else p2) else p2)
theorem own_ne_of {y z : Int64} (h : y.toInt ≠ z.toInt) : y ≠ z := fun q => h (by rw [q])
/-- a value within its bounds -/
theorem own_l2 (x : Int64) (h0 : 0 ≤ x.toInt) (h1 : x.toInt < 2147483648) : x.toInt32.toInt = x.toInt := by
  have h := c_l2i x; have h2 := rng32 x.toInt32; omega
theorem own_divs (C M S : Int) (hS : 0 < S) : M / S + (C + M % S) / S = (C + M) / S := by
  have e : C + M = (C + M % S) + S * (M / S) := by have := Int.emod_add_mul_ediv M S; omega
  rw [e, Int.add_mul_ediv_left _ _ (by omega)]; omega
theorem own_mods (C M S : Int) : (C + M % S) % S = (C + M) % S := by rw [Int.add_emod_emod]
theorem own_mval (c : Int32) (m : Int64) (s_ : Int32) (S : Int) (hs : s_.toInt = S) (h2 : 2 ≤ S) (hS : S ≤ 65536) (hc0 : 0 ≤ c.toInt) (hcS : c.toInt < S) (hm : 0 ≤ m.toInt) : (own_m c m s_).toInt = (c.toInt + m.toInt) / S ∧ (own_c c m s_).toInt = (c.toInt + m.toInt) % S := by
  have hs' : s_.toInt64.toInt = S := by rw [c_i2l, hs]
  have hne : s_.toInt64 ≠ -1 := own_ne_of (by rw [hs', show (-1 : Int64).toInt = -1 by decide]; omega)
  have hmr := rng64 m
  have r1 : (m % s_.toInt64).toInt = m.toInt % S := by rw [← lrem_mod]; exact (c_lrem m s_.toInt64 S hs').1 hm
  have b1 := Int.emod_nonneg m.toInt (show S ≠ 0 by omega)
  have b2 := Int.emod_lt_of_pos m.toInt (show 0 < S by omega)
  have r2 : (c.toInt64 + m % s_.toInt64).toInt = c.toInt + m.toInt % S := by
    have h := c_ladd c.toInt64 (m % s_.toInt64); have h' := rng64 (c.toInt64 + m % s_.toInt64); rw [r1, c_i2l] at h; omega
  have r3 : (m / s_.toInt64).toInt = m.toInt / S := (c_ldiv m s_.toInt64 S hs' hne).1 hm
  have r4 : ((c.toInt64 + m % s_.toInt64) / s_.toInt64).toInt = (c.toInt + m.toInt % S) / S := by rw [(c_ldiv _ s_.toInt64 S hs' hne).1 (by omega), r2]
  have r5 : ((c.toInt64 + m % s_.toInt64) % s_.toInt64).toInt = (c.toInt + m.toInt % S) % S := by rw [← lrem_mod, (c_lrem _ s_.toInt64 S hs').1 (by omega), r2]
  have b3 : 0 ≤ m.toInt / S := Int.ediv_nonneg hm (by omega)
  have b4 : m.toInt / S ≤ m.toInt := Int.ediv_le_self _ hm
  have b4' : m.toInt / S * 2 ≤ m.toInt := by
    have h := Int.ediv_mul_le m.toInt (show S ≠ 0 by omega)
    have h' : m.toInt / S * 2 ≤ m.toInt / S * S := Int.mul_le_mul_of_nonneg_left h2 b3
    omega
  have b5 : 0 ≤ (c.toInt + m.toInt % S) / S := Int.ediv_nonneg (by omega) (by omega)
  have b6 : (c.toInt + m.toInt % S) / S ≤ c.toInt + m.toInt % S := Int.ediv_le_self _ (by omega)
  constructor
  · have h := c_ladd (m / s_.toInt64) ((c.toInt64 + m % s_.toInt64) / s_.toInt64)
    have h' := rng64 (own_m c m s_)
    rw [r3, r4, own_divs _ _ _ (by omega)] at h
    have e := own_divs c.toInt m.toInt S (by omega)
    show (m / s_.toInt64 + (c.toInt64 + m % s_.toInt64) / s_.toInt64).toInt = _
    have h'' : -9223372036854775808 ≤ (m / s_.toInt64 + (c.toInt64 + m % s_.toInt64) / s_.toInt64).toInt ∧ (m / s_.toInt64 + (c.toInt64 + m % s_.toInt64) / s_.toInt64).toInt < 9223372036854775808 := rng64 _
    omega
  · rw [own_c, own_l2, r5, own_mods]
    · rw [r5]; exact Int.emod_nonneg _ (by omega)
    · rw [r5]; have := Int.emod_lt_of_pos (c.toInt + m.toInt % S) (show 0 < S by omega); omega
theorem own_divdiv (A B M S : Int) (hS : 0 < S) : (B + (A + M) / S) / S = (A + B * S + M) / (S * S) := by
  rw [← Int.ediv_ediv_of_nonneg (by omega : (0 : Int) ≤ S)]
  congr 1
  rw [show A + B * S + M = (A + M) + S * B by rw [Int.mul_comm]; omega, Int.add_mul_ediv_left _ _ (by omega)]
  omega

theorem own_zero64 {m : Int64} (h0 : 0 ≤ m.toInt) (h : ¬ 0 < m) : m = 0 := by
  have e : (0 : Int64).toInt = 0 := by decide
  apply Int64.toInt_inj.mp
  rw [Int64.lt_iff_toInt_lt, e] at h
  rw [e]
  omega
theorem own_A (c : Int32) (m : Int64) (s_ : Int32) (S : Int) (hs : s_.toInt = S) (h2 : 2 ≤ S) (hS : S ≤ 65536) (hc0 : 0 ≤ c.toInt) (hcS : c.toInt < S) (hm : 0 ≤ m.toInt) : (if 0 < m then own_c c m s_ else c) = ((m % s_.toInt64 + c.toInt64) % s_.toInt64).toInt32 := by
  rw [Int64.add_comm (m % s_.toInt64)]
  show _ = own_c c m s_
  by_cases h : 0 < m
  · rw [if_pos h]
  · rw [if_neg h]
    apply Int32.toInt_inj.mp
    rw [(own_mval c m s_ S hs h2 hS hc0 hcS hm).2, own_zero64 hm h]
    have e : (0 : Int64).toInt = 0 := by decide
    rw [e, Int.add_zero, Int.emod_eq_of_lt hc0 hcS]
theorem own_Bp (p m : Int64) (hm : 0 ≤ m.toInt) : (if 0 < m then p + m else p) = p + m := by
  by_cases h : 0 < m
  · rw [if_pos h]
  · rw [if_neg h, own_zero64 hm h, Int64.add_zero]
theorem own_m0 (c : Int32) (s_ : Int32) (S : Int) (hs : s_.toInt = S) (h2 : 2 ≤ S) (hS : S ≤ 65536) (hc0 : 0 ≤ c.toInt) (hcS : c.toInt < S) : own_m c 0 s_ = 0 := by
  apply Int64.toInt_inj.mp
  have e : (0 : Int64).toInt = 0 := by decide
  rw [(own_mval c 0 s_ S hs h2 hS hc0 hcS (by rw [e]; omega)).1, e, Int.add_zero, Int.ediv_eq_zero_of_lt hc0 hcS]
theorem own_q2 (t : Int64) (s_ c0 c1 : Int32) (S : Int) (hs : s_.toInt = S) (h2 : 2 ≤ S) (hS : S ≤ 65536) (hc0 : 0 ≤ c0.toInt) (hcS : c0.toInt < S) (hd0 : 0 ≤ c1.toInt) (hdS : c1.toInt < S) (ht : 0 ≤ t.toInt) :
    own_m c1 (own_m c0 t s_) s_ = t / (s_.toInt64 * s_.toInt64) + (c0.toInt64 + c1.toInt64 * s_.toInt64 + t % (s_.toInt64 * s_.toInt64)) / (s_.toInt64 * s_.toInt64) ∧ s_.toInt64 * s_.toInt64 ≠ 0 := by
  have hs' : s_.toInt64.toInt = S := by rw [c_i2l, hs]
  have hSS : S * S ≤ 65536 * 65536 := Int.mul_le_mul hS hS (by omega) (by omega)
  have hSS0 : 2 * 2 ≤ S * S := Int.mul_le_mul h2 h2 (by omega) (by omega)
  have hq : (s_.toInt64 * s_.toInt64).toInt = S * S := by
    have h := c_lmul s_.toInt64 s_.toInt64; have h' := rng64 (s_.toInt64 * s_.toInt64); rw [hs'] at h; omega
  have hne : s_.toInt64 * s_.toInt64 ≠ -1 := own_ne_of (by rw [hq, show (-1 : Int64).toInt = -1 by decide]; omega)
  have hn0 : s_.toInt64 * s_.toInt64 ≠ 0 := own_ne_of (by rw [hq, show (0 : Int64).toInt = 0 by decide]; omega)
  refine ⟨?_, hn0⟩
  have htr := rng64 t
  have m1 := own_mval c0 t s_ S hs h2 hS hc0 hcS ht
  have n1 : 0 ≤ (own_m c0 t s_).toInt := by rw [m1.1]; exact Int.ediv_nonneg (by omega) (by omega)
  have m2 := (own_mval c1 (own_m c0 t s_) s_ S hs h2 hS hd0 hdS n1).1
  have r1 : (t % (s_.toInt64 * s_.toInt64)).toInt = t.toInt % (S * S) := by rw [← lrem_mod]; exact (c_lrem t _ (S * S) hq).1 ht
  have b1 := Int.emod_nonneg t.toInt (show S * S ≠ 0 by omega)
  have b2 := Int.emod_lt_of_pos t.toInt (show 0 < S * S by omega)
  have r3 : (t / (s_.toInt64 * s_.toInt64)).toInt = t.toInt / (S * S) := (c_ldiv t _ (S * S) hq hne).1 ht
  have hcs : c1.toInt * S ≤ 65536 * 65536 := Int.mul_le_mul (by omega) hS (by omega) (by omega)
  have hcs0 : 0 ≤ c1.toInt * S := Int.mul_nonneg hd0 (by omega)
  have k1 : (c1.toInt64 * s_.toInt64).toInt = c1.toInt * S := by
    have h := c_lmul c1.toInt64 s_.toInt64; have h' := rng64 (c1.toInt64 * s_.toInt64); rw [hs', c_i2l] at h; omega
  have k2 : (c0.toInt64 + c1.toInt64 * s_.toInt64).toInt = c0.toInt + c1.toInt * S := by
    have h := c_ladd c0.toInt64 (c1.toInt64 * s_.toInt64); have h' := rng64 (c0.toInt64 + c1.toInt64 * s_.toInt64); rw [k1, c_i2l] at h; omega
  have k3 : (c0.toInt64 + c1.toInt64 * s_.toInt64 + t % (s_.toInt64 * s_.toInt64)).toInt = c0.toInt + c1.toInt * S + t.toInt % (S * S) := by
    have h := c_ladd (c0.toInt64 + c1.toInt64 * s_.toInt64) (t % (s_.toInt64 * s_.toInt64)); have h' := rng64 (c0.toInt64 + c1.toInt64 * s_.toInt64 + t % (s_.toInt64 * s_.toInt64)); rw [k2, r1] at h; omega
  have k4 : ((c0.toInt64 + c1.toInt64 * s_.toInt64 + t % (s_.toInt64 * s_.toInt64)) / (s_.toInt64 * s_.toInt64)).toInt = (c0.toInt + c1.toInt * S + t.toInt % (S * S)) / (S * S) := by rw [(c_ldiv _ _ (S * S) hq hne).1 (by omega), k3]
  have b3 : 0 ≤ t.toInt / (S * S) := Int.ediv_nonneg ht (by omega)
  have b4 : t.toInt / (S * S) * 2 ≤ t.toInt := by
    have h := Int.ediv_mul_le t.toInt (show S * S ≠ 0 by omega)
    have h' : t.toInt / (S * S) * 2 ≤ t.toInt / (S * S) * (S * S) := Int.mul_le_mul_of_nonneg_left (by omega) b3
    omega
  have b5 : 0 ≤ (c0.toInt + c1.toInt * S + t.toInt % (S * S)) / (S * S) := Int.ediv_nonneg (by omega) (by omega)
  have b6 : (c0.toInt + c1.toInt * S + t.toInt % (S * S)) / (S * S) ≤ c0.toInt + c1.toInt * S + t.toInt % (S * S) := Int.ediv_le_self _ (by omega)
  apply Int64.toInt_inj.mp
  have h := c_ladd (t / (s_.toInt64 * s_.toInt64)) ((c0.toInt64 + c1.toInt64 * s_.toInt64 + t % (s_.toInt64 * s_.toInt64)) / (s_.toInt64 * s_.toInt64))
  have h' := rng64 (t / (s_.toInt64 * s_.toInt64) + (c0.toInt64 + c1.toInt64 * s_.toInt64 + t % (s_.toInt64 * s_.toInt64)) / (s_.toInt64 * s_.toInt64))
  rw [r3, k4] at h
  have e1 := own_divs (c0.toInt + c1.toInt * S) t.toInt (S * S) (by omega)
  have e2 := own_divdiv c0.toInt c1.toInt t.toInt S (by omega)
  rw [m2, m1.1, e2, ← e1]
  omega
theorem own_final (t : Int64) (s_ c0 c1 c2 : Int32) (p0 p1 p2 : Int64) (r0 r1 r2 : Int32) (u0 u1 u2 : Int64) (S : Int) (hs : s_.toInt = S) (h2 : 2 ≤ S) (hS : S ≤ 65536) (g0 : 0 ≤ c0.toInt) (g0' : c0.toInt < S) (g1 : 0 ≤ c1.toInt) (g1' : c1.toInt < S) (g2 : 0 ≤ c2.toInt) (g2' : c2.toInt < S) (ht : 0 ≤ t.toInt) (h : own_res t s_ c0 c1 c2 p0 p1 p2 r0 r1 r2 u0 u1 u2) :
    r0 = ((t % s_.toInt64 + c0.toInt64) % s_.toInt64).toInt32 ∧ r1 = ((own_m c0 t s_ % s_.toInt64 + c1.toInt64) % s_.toInt64).toInt32 ∧ r2 = ((own_m c1 (own_m c0 t s_) s_ % s_.toInt64 + c2.toInt64) % s_.toInt64).toInt32 ∧ u0 = p0 + t ∧ u1 = p1 + own_m c0 t s_ ∧ u2 = p2 + own_m c1 (own_m c0 t s_) s_ := by
  obtain ⟨e0, f0, e1, f1, e2, f2⟩ := h
  have n1 : 0 ≤ (own_m c0 t s_).toInt := by rw [(own_mval c0 t s_ S hs h2 hS g0 g0' ht).1]; exact Int.ediv_nonneg (by omega) (by omega)
  have n2 : 0 ≤ (own_m c1 (own_m c0 t s_) s_).toInt := by rw [(own_mval c1 _ s_ S hs h2 hS g1 g1' n1).1]; exact Int.ediv_nonneg (by omega) (by omega)
  have z1 : ¬ 0 < t → own_m c0 t s_ = 0 := fun q => by rw [own_zero64 ht q]; exact own_m0 c0 s_ S hs h2 hS g0 g0'
  have z2 : ¬ 0 < own_m c0 t s_ → own_m c1 (own_m c0 t s_) s_ = 0 := fun q => by rw [own_zero64 n1 q]; exact own_m0 c1 s_ S hs h2 hS g1 g1'
  have z0 : ¬ (0 : Int64) < 0 := by decide
  rw [← own_A c0 t s_ S hs h2 hS g0 g0' ht, ← own_A c1 _ s_ S hs h2 hS g1 g1' n1, ← own_A c2 _ s_ S hs h2 hS g2 g2' n2, ← own_Bp p0 t ht, ← own_Bp p1 _ n1, ← own_Bp p2 _ n2]
  refine ⟨e0, ?_, ?_, f0, ?_, ?_⟩
  · rw [e1]; by_cases q : 0 < t
    · rw [if_pos q]
    · rw [if_neg q, z1 q, if_neg z0]
  · rw [e2]; by_cases q : 0 < t
    · rw [if_pos q]; by_cases q1 : 0 < own_m c0 t s_
      · rw [if_pos q1]
      · rw [if_neg q1, z2 q1, if_neg z0]
    · rw [if_neg q]
      have q1 : ¬ 0 < own_m c0 t s_ := by rw [z1 q]; exact z0
      rw [z2 q1, if_neg z0]
  · rw [f1]; by_cases q : 0 < t
    · rw [if_pos q]
    · rw [if_neg q, z1 q, if_neg z0]
  · rw [f2]; by_cases q : 0 < t
    · rw [if_pos q]; by_cases q1 : 0 < own_m c0 t s_
      · rw [if_pos q1]
      · rw [if_neg q1, z2 q1, if_neg z0]
    · rw [if_neg q]
      have q1 : ¬ 0 < own_m c0 t s_ := by rw [z1 q]; exact z0
      rw [z2 q1, if_neg z0]
theorem own_svb (z : Int32) : ∃ S, own_idx ((2 : Int32) + ((z &&& (2147483647 : Int32)) % (65535 : Int32))) S ∧ 2 ≤ S ∧ S ≤ 65536 := by
  obtain ⟨k, hk, hj⟩ := own_mod_idx z 65535 65535 ⟨by decide, by decide⟩ (by decide)
  exact ⟨2 + k, own_idx_add ⟨by decide, by decide⟩ hj (by omega), by omega, by omega⟩
theorem own_d_prog_15_method_9_code_0 : own_ll prog_15_method_9_code 0 2 1 := Or.inl ⟨2, by decide +kernel, rfl, rfl⟩
theorem own_d_prog_15_method_9_code_1 : own_sl prog_15_method_9_code 1 5 3 := Or.inr ⟨by decide +kernel, rfl⟩
theorem own_d_prog_15_method_9_code_3 : own_ik prog_15_method_9_code 3 0 4 := ⟨0, Or.inl ⟨by decide +kernel, by decide, rfl⟩⟩
theorem own_d_prog_15_method_9_code_4 : own_si prog_15_method_9_code 4 7 6 := Or.inr ⟨by decide +kernel, rfl⟩
theorem own_d_prog_15_method_9_code_6 : own_ll prog_15_method_9_code 6 5 8 := Or.inr ⟨by decide +kernel, rfl⟩
theorem own_d_prog_15_method_9_code_8 : own_lk prog_15_method_9_code 8 0 9 := ⟨0, by decide +kernel, by decide, rfl⟩
theorem own_d_prog_15_method_9_code_9 : own_ix prog_15_method_9_code 9 .lcmp 1 10 := ⟨by decide +kernel, rfl⟩
theorem own_d_prog_15_method_9_code_10 : own_ifc prog_15_method_9_code 10 .le 13 75 := ⟨65, by decide +kernel, rfl, by decide, by decide⟩
theorem own_d_prog_15_method_9_code_13 : own_il prog_15_method_9_code 13 7 15 := Or.inr ⟨by decide +kernel, rfl⟩
theorem own_d_prog_15_method_9_code_15 : own_al prog_15_method_9_code 15 0 16 := Or.inl ⟨0, by decide +kernel, rfl, rfl⟩
theorem own_d_prog_15_method_9_code_16 : own_ix prog_15_method_9_code 16 .arraylength 1 17 := ⟨by decide +kernel, rfl⟩
theorem own_d_prog_15_method_9_code_17 : own_icm prog_15_method_9_code 17 .ge 20 75 := ⟨58, by decide +kernel, rfl, by decide, by decide⟩
theorem own_d_prog_15_method_9_code_20 : own_al prog_15_method_9_code 20 1 21 := Or.inl ⟨1, by decide +kernel, rfl, rfl⟩
theorem own_d_prog_15_method_9_code_21 : own_il prog_15_method_9_code 21 7 23 := Or.inr ⟨by decide +kernel, rfl⟩
theorem own_d_prog_15_method_9_code_23 : own_ix prog_15_method_9_code 23 .dup2 1 24 := ⟨by decide +kernel, rfl⟩
theorem own_d_prog_15_method_9_code_24 : own_ix prog_15_method_9_code 24 .laload 1 25 := ⟨by decide +kernel, rfl⟩
theorem own_d_prog_15_method_9_code_25 : own_ll prog_15_method_9_code 25 5 27 := Or.inr ⟨by decide +kernel, rfl⟩
theorem own_d_prog_15_method_9_code_27 : own_ix prog_15_method_9_code 27 .ladd 1 28 := ⟨by decide +kernel, rfl⟩
theorem own_d_prog_15_method_9_code_28 : own_ix prog_15_method_9_code 28 .lastore 1 29 := ⟨by decide +kernel, rfl⟩
theorem own_d_prog_15_method_9_code_29 : own_al prog_15_method_9_code 29 0 30 := Or.inl ⟨0, by decide +kernel, rfl, rfl⟩
theorem own_d_prog_15_method_9_code_30 : own_il prog_15_method_9_code 30 7 32 := Or.inr ⟨by decide +kernel, rfl⟩
theorem own_d_prog_15_method_9_code_32 : own_ix prog_15_method_9_code 32 .iaload 1 33 := ⟨by decide +kernel, rfl⟩
theorem own_d_prog_15_method_9_code_33 : own_ix prog_15_method_9_code 33 .i2l 1 34 := ⟨by decide +kernel, rfl⟩
theorem own_d_prog_15_method_9_code_34 : own_ll prog_15_method_9_code 34 5 36 := Or.inr ⟨by decide +kernel, rfl⟩
theorem own_d_prog_15_method_9_code_36 : own_il prog_15_method_9_code 36 4 38 := Or.inr ⟨by decide +kernel, rfl⟩
theorem own_d_prog_15_method_9_code_38 : own_ix prog_15_method_9_code 38 .i2l 1 39 := ⟨by decide +kernel, rfl⟩
theorem own_d_prog_15_method_9_code_39 : own_ix prog_15_method_9_code 39 .lrem 1 40 := ⟨by decide +kernel, rfl⟩
theorem own_d_prog_15_method_9_code_40 : own_ix prog_15_method_9_code 40 .ladd 1 41 := ⟨by decide +kernel, rfl⟩
theorem own_d_prog_15_method_9_code_41 : own_sl prog_15_method_9_code 41 8 43 := Or.inr ⟨by decide +kernel, rfl⟩
theorem own_d_prog_15_method_9_code_43 : own_al prog_15_method_9_code 43 0 44 := Or.inl ⟨0, by decide +kernel, rfl, rfl⟩
theorem own_d_prog_15_method_9_code_44 : own_il prog_15_method_9_code 44 7 46 := Or.inr ⟨by decide +kernel, rfl⟩
theorem own_d_prog_15_method_9_code_46 : own_ll prog_15_method_9_code 46 8 48 := Or.inr ⟨by decide +kernel, rfl⟩
theorem own_d_prog_15_method_9_code_48 : own_il prog_15_method_9_code 48 4 50 := Or.inr ⟨by decide +kernel, rfl⟩
theorem own_d_prog_15_method_9_code_50 : own_ix prog_15_method_9_code 50 .i2l 1 51 := ⟨by decide +kernel, rfl⟩
theorem own_d_prog_15_method_9_code_51 : own_ix prog_15_method_9_code 51 .lrem 1 52 := ⟨by decide +kernel, rfl⟩
theorem own_d_prog_15_method_9_code_52 : own_ix prog_15_method_9_code 52 .l2i 1 53 := ⟨by decide +kernel, rfl⟩
theorem own_d_prog_15_method_9_code_53 : own_ix prog_15_method_9_code 53 .iastore 1 54 := ⟨by decide +kernel, rfl⟩
theorem own_d_prog_15_method_9_code_54 : own_ll prog_15_method_9_code 54 5 56 := Or.inr ⟨by decide +kernel, rfl⟩
theorem own_d_prog_15_method_9_code_56 : own_il prog_15_method_9_code 56 4 58 := Or.inr ⟨by decide +kernel, rfl⟩
theorem own_d_prog_15_method_9_code_58 : own_ix prog_15_method_9_code 58 .i2l 1 59 := ⟨by decide +kernel, rfl⟩
theorem own_d_prog_15_method_9_code_59 : own_ix prog_15_method_9_code 59 .ldiv 1 60 := ⟨by decide +kernel, rfl⟩
theorem own_d_prog_15_method_9_code_60 : own_ll prog_15_method_9_code 60 8 62 := Or.inr ⟨by decide +kernel, rfl⟩
theorem own_d_prog_15_method_9_code_62 : own_il prog_15_method_9_code 62 4 64 := Or.inr ⟨by decide +kernel, rfl⟩
theorem own_d_prog_15_method_9_code_64 : own_ix prog_15_method_9_code 64 .i2l 1 65 := ⟨by decide +kernel, rfl⟩
theorem own_d_prog_15_method_9_code_65 : own_ix prog_15_method_9_code 65 .ldiv 1 66 := ⟨by decide +kernel, rfl⟩
theorem own_d_prog_15_method_9_code_66 : own_ix prog_15_method_9_code 66 .ladd 1 67 := ⟨by decide +kernel, rfl⟩
theorem own_d_prog_15_method_9_code_67 : own_sl prog_15_method_9_code 67 5 69 := Or.inr ⟨by decide +kernel, rfl⟩
theorem own_d_prog_15_method_9_code_69 : own_ii prog_15_method_9_code 69 7 1 72 := ⟨1, by decide +kernel, by decide, rfl⟩
theorem own_d_prog_15_method_9_code_72 : own_gt prog_15_method_9_code 72 6 := ⟨(-66), by decide +kernel, by decide, by decide⟩
theorem own_d_prog_15_method_9_code_75 : own_ix prog_15_method_9_code 75 .return_ 1 76 := ⟨by decide +kernel, rfl⟩
theorem own_pn_com_example_tierwheel_tierwheel_wheel_Levels : plainName "com/example/tierwheel/tierwheel/wheel/Levels" = true := by first | (simp [plainName, overriddenIn]; done) | decide +kernel
theorem own_d_code_0 : own_ik code 0 2 1 := ⟨2, Or.inl ⟨by decide +kernel, by decide, rfl⟩⟩
theorem own_d_code_1 : own_il code 1 0 2 := Or.inl ⟨0, by decide +kernel, rfl, rfl⟩
theorem own_d_code_2 : own_ix code 2 (.ldc 7) 2 4 := ⟨by decide +kernel, rfl⟩
theorem own_d_code_4 : own_ix code 4 .iand 1 5 := ⟨by decide +kernel, rfl⟩
theorem own_d_code_5 : own_ix code 5 (.ldc 8) 2 7 := ⟨by decide +kernel, rfl⟩
theorem own_d_code_7 : own_ix code 7 .irem 1 8 := ⟨by decide +kernel, rfl⟩
theorem own_d_code_8 : own_ix code 8 .iadd 1 9 := ⟨by decide +kernel, rfl⟩
theorem own_d_code_9 : own_si code 9 8 11 := Or.inr ⟨by decide +kernel, rfl⟩
theorem own_d_code_11 : own_il code 11 1 12 := Or.inl ⟨1, by decide +kernel, rfl, rfl⟩
theorem own_d_code_12 : own_ix code 12 (.ldc 7) 2 14 := ⟨by decide +kernel, rfl⟩
theorem own_d_code_14 : own_ix code 14 .iand 1 15 := ⟨by decide +kernel, rfl⟩
theorem own_d_code_15 : own_il code 15 8 17 := Or.inr ⟨by decide +kernel, rfl⟩
theorem own_d_code_17 : own_ix code 17 .irem 1 18 := ⟨by decide +kernel, rfl⟩
theorem own_d_code_18 : own_si code 18 9 20 := Or.inr ⟨by decide +kernel, rfl⟩
theorem own_d_code_20 : own_il code 20 2 21 := Or.inl ⟨2, by decide +kernel, rfl, rfl⟩
theorem own_d_code_21 : own_ix code 21 (.ldc 7) 2 23 := ⟨by decide +kernel, rfl⟩
theorem own_d_code_23 : own_ix code 23 .iand 1 24 := ⟨by decide +kernel, rfl⟩
theorem own_d_code_24 : own_il code 24 8 26 := Or.inr ⟨by decide +kernel, rfl⟩
theorem own_d_code_26 : own_ix code 26 .irem 1 27 := ⟨by decide +kernel, rfl⟩
theorem own_d_code_27 : own_si code 27 10 29 := Or.inr ⟨by decide +kernel, rfl⟩
theorem own_d_code_29 : own_il code 29 3 30 := Or.inl ⟨3, by decide +kernel, rfl, rfl⟩
theorem own_d_code_30 : own_ix code 30 (.ldc 7) 2 32 := ⟨by decide +kernel, rfl⟩
theorem own_d_code_32 : own_ix code 32 .iand 1 33 := ⟨by decide +kernel, rfl⟩
theorem own_d_code_33 : own_il code 33 8 35 := Or.inr ⟨by decide +kernel, rfl⟩
theorem own_d_code_35 : own_ix code 35 .irem 1 36 := ⟨by decide +kernel, rfl⟩
theorem own_d_code_36 : own_si code 36 11 38 := Or.inr ⟨by decide +kernel, rfl⟩
theorem own_d_code_38 : own_ll code 38 4 40 := Or.inr ⟨by decide +kernel, rfl⟩
theorem own_d_code_40 : own_ix code 40 (.ldc2_w 11) 3 43 := ⟨by decide +kernel, rfl⟩
theorem own_d_code_43 : own_ix code 43 .land 1 44 := ⟨by decide +kernel, rfl⟩
theorem own_d_code_44 : own_sl code 44 12 46 := Or.inr ⟨by decide +kernel, rfl⟩
theorem own_d_code_46 : own_ll code 46 6 48 := Or.inr ⟨by decide +kernel, rfl⟩
theorem own_d_code_48 : own_sl code 48 14 50 := Or.inr ⟨by decide +kernel, rfl⟩
theorem own_d_code_50 : own_ll code 50 6 52 := Or.inr ⟨by decide +kernel, rfl⟩
theorem own_d_code_52 : own_ix code 52 (.ldc2_w 13) 3 55 := ⟨by decide +kernel, rfl⟩
theorem own_d_code_55 : own_ix code 55 .lxor 1 56 := ⟨by decide +kernel, rfl⟩
theorem own_d_code_56 : own_sl code 56 16 58 := Or.inr ⟨by decide +kernel, rfl⟩
theorem own_d_code_58 : own_ll code 58 6 60 := Or.inr ⟨by decide +kernel, rfl⟩
theorem own_d_code_60 : own_ix code 60 (.ldc2_w 15) 3 63 := ⟨by decide +kernel, rfl⟩
theorem own_d_code_63 : own_ix code 63 .lxor 1 64 := ⟨by decide +kernel, rfl⟩
theorem own_d_code_64 : own_sl code 64 18 66 := Or.inr ⟨by decide +kernel, rfl⟩
theorem own_d_code_66 : own_ik code 66 3 67 := ⟨3, Or.inl ⟨by decide +kernel, by decide, rfl⟩⟩
theorem own_d_code_67 : own_ix code 67 (.newarray .int) 2 69 := ⟨by decide +kernel, rfl⟩
theorem own_d_code_69 : own_ix code 69 .dup 1 70 := ⟨by decide +kernel, rfl⟩
theorem own_d_code_70 : own_ik code 70 0 71 := ⟨0, Or.inl ⟨by decide +kernel, by decide, rfl⟩⟩
theorem own_d_code_71 : own_il code 71 9 73 := Or.inr ⟨by decide +kernel, rfl⟩
theorem own_d_code_73 : own_ix code 73 .iastore 1 74 := ⟨by decide +kernel, rfl⟩
theorem own_d_code_74 : own_ix code 74 .dup 1 75 := ⟨by decide +kernel, rfl⟩
theorem own_d_code_75 : own_ik code 75 1 76 := ⟨1, Or.inl ⟨by decide +kernel, by decide, rfl⟩⟩
theorem own_d_code_76 : own_il code 76 10 78 := Or.inr ⟨by decide +kernel, rfl⟩
theorem own_d_code_78 : own_ix code 78 .iastore 1 79 := ⟨by decide +kernel, rfl⟩
theorem own_d_code_79 : own_ix code 79 .dup 1 80 := ⟨by decide +kernel, rfl⟩
theorem own_d_code_80 : own_ik code 80 2 81 := ⟨2, Or.inl ⟨by decide +kernel, by decide, rfl⟩⟩
theorem own_d_code_81 : own_il code 81 11 83 := Or.inr ⟨by decide +kernel, rfl⟩
theorem own_d_code_83 : own_ix code 83 .iastore 1 84 := ⟨by decide +kernel, rfl⟩
theorem own_d_code_84 : own_sa code 84 20 86 := Or.inr ⟨by decide +kernel, rfl⟩
theorem own_d_code_86 : own_ik code 86 3 87 := ⟨3, Or.inl ⟨by decide +kernel, by decide, rfl⟩⟩
theorem own_d_code_87 : own_ix code 87 (.newarray .long) 2 89 := ⟨by decide +kernel, rfl⟩
theorem own_d_code_89 : own_ix code 89 .dup 1 90 := ⟨by decide +kernel, rfl⟩
theorem own_d_code_90 : own_ik code 90 0 91 := ⟨0, Or.inl ⟨by decide +kernel, by decide, rfl⟩⟩
theorem own_d_code_91 : own_ll code 91 14 93 := Or.inr ⟨by decide +kernel, rfl⟩
theorem own_d_code_93 : own_ix code 93 .lastore 1 94 := ⟨by decide +kernel, rfl⟩
theorem own_d_code_94 : own_ix code 94 .dup 1 95 := ⟨by decide +kernel, rfl⟩
theorem own_d_code_95 : own_ik code 95 1 96 := ⟨1, Or.inl ⟨by decide +kernel, by decide, rfl⟩⟩
theorem own_d_code_96 : own_ll code 96 16 98 := Or.inr ⟨by decide +kernel, rfl⟩
theorem own_d_code_98 : own_ix code 98 .lastore 1 99 := ⟨by decide +kernel, rfl⟩
theorem own_d_code_99 : own_ix code 99 .dup 1 100 := ⟨by decide +kernel, rfl⟩
theorem own_d_code_100 : own_ik code 100 2 101 := ⟨2, Or.inl ⟨by decide +kernel, by decide, rfl⟩⟩
theorem own_d_code_101 : own_ll code 101 18 103 := Or.inr ⟨by decide +kernel, rfl⟩
theorem own_d_code_103 : own_ix code 103 .lastore 1 104 := ⟨by decide +kernel, rfl⟩
theorem own_d_code_104 : own_sa code 104 21 106 := Or.inr ⟨by decide +kernel, rfl⟩
theorem own_d_code_106 : own_al code 106 20 108 := Or.inr ⟨by decide +kernel, rfl⟩
theorem own_d_code_108 : own_al code 108 21 110 := Or.inr ⟨by decide +kernel, rfl⟩
theorem own_d_code_110 : own_ll code 110 12 112 := Or.inr ⟨by decide +kernel, rfl⟩
theorem own_d_code_112 : own_il code 112 8 114 := Or.inr ⟨by decide +kernel, rfl⟩
theorem own_pd___I_JJI_V : parseMethodDescriptor "([I[JJI)V" = some ⟨[(.array .int), (.array .long), .long, .int], none⟩ := by decide +kernel
theorem own_d_code_114 : own_ix code 114 (.invokestatic 17) 3 117 := ⟨by decide +kernel, rfl⟩
theorem own_d_code_117 : own_il code 117 8 119 := Or.inr ⟨by decide +kernel, rfl⟩
theorem own_d_code_119 : own_ix code 119 .i2l 1 120 := ⟨by decide +kernel, rfl⟩
theorem own_d_code_120 : own_sl code 120 22 122 := Or.inr ⟨by decide +kernel, rfl⟩
theorem own_d_code_122 : own_ll code 122 22 124 := Or.inr ⟨by decide +kernel, rfl⟩
theorem own_d_code_124 : own_ll code 124 22 126 := Or.inr ⟨by decide +kernel, rfl⟩
theorem own_d_code_126 : own_ix code 126 .lmul 1 127 := ⟨by decide +kernel, rfl⟩
theorem own_d_code_127 : own_sl code 127 24 129 := Or.inr ⟨by decide +kernel, rfl⟩
theorem own_d_code_129 : own_ll code 129 12 131 := Or.inr ⟨by decide +kernel, rfl⟩
theorem own_d_code_131 : own_sl code 131 26 133 := Or.inr ⟨by decide +kernel, rfl⟩
theorem own_d_code_133 : own_ll code 133 12 135 := Or.inr ⟨by decide +kernel, rfl⟩
theorem own_d_code_135 : own_ll code 135 22 137 := Or.inr ⟨by decide +kernel, rfl⟩
theorem own_d_code_137 : own_ix code 137 .ldiv 1 138 := ⟨by decide +kernel, rfl⟩
theorem own_d_code_138 : own_il code 138 9 140 := Or.inr ⟨by decide +kernel, rfl⟩
theorem own_d_code_140 : own_ix code 140 .i2l 1 141 := ⟨by decide +kernel, rfl⟩
theorem own_d_code_141 : own_ll code 141 12 143 := Or.inr ⟨by decide +kernel, rfl⟩
theorem own_d_code_143 : own_ll code 143 22 145 := Or.inr ⟨by decide +kernel, rfl⟩
theorem own_d_code_145 : own_ix code 145 .lrem 1 146 := ⟨by decide +kernel, rfl⟩
theorem own_d_code_146 : own_ix code 146 .ladd 1 147 := ⟨by decide +kernel, rfl⟩
theorem own_d_code_147 : own_ll code 147 22 149 := Or.inr ⟨by decide +kernel, rfl⟩
theorem own_d_code_149 : own_ix code 149 .ldiv 1 150 := ⟨by decide +kernel, rfl⟩
theorem own_d_code_150 : own_ix code 150 .ladd 1 151 := ⟨by decide +kernel, rfl⟩
theorem own_d_code_151 : own_sl code 151 28 153 := Or.inr ⟨by decide +kernel, rfl⟩
theorem own_d_code_153 : own_ll code 153 12 155 := Or.inr ⟨by decide +kernel, rfl⟩
theorem own_d_code_155 : own_ll code 155 24 157 := Or.inr ⟨by decide +kernel, rfl⟩
theorem own_d_code_157 : own_ix code 157 .ldiv 1 158 := ⟨by decide +kernel, rfl⟩
theorem own_d_code_158 : own_il code 158 9 160 := Or.inr ⟨by decide +kernel, rfl⟩
theorem own_d_code_160 : own_ix code 160 .i2l 1 161 := ⟨by decide +kernel, rfl⟩
theorem own_d_code_161 : own_il code 161 10 163 := Or.inr ⟨by decide +kernel, rfl⟩
theorem own_d_code_163 : own_ix code 163 .i2l 1 164 := ⟨by decide +kernel, rfl⟩
theorem own_d_code_164 : own_ll code 164 22 166 := Or.inr ⟨by decide +kernel, rfl⟩
theorem own_d_code_166 : own_ix code 166 .lmul 1 167 := ⟨by decide +kernel, rfl⟩
theorem own_d_code_167 : own_ix code 167 .ladd 1 168 := ⟨by decide +kernel, rfl⟩
theorem own_d_code_168 : own_ll code 168 12 170 := Or.inr ⟨by decide +kernel, rfl⟩
theorem own_d_code_170 : own_ll code 170 24 172 := Or.inr ⟨by decide +kernel, rfl⟩
theorem own_d_code_172 : own_ix code 172 .lrem 1 173 := ⟨by decide +kernel, rfl⟩
theorem own_d_code_173 : own_ix code 173 .ladd 1 174 := ⟨by decide +kernel, rfl⟩
theorem own_d_code_174 : own_ll code 174 24 176 := Or.inr ⟨by decide +kernel, rfl⟩
theorem own_d_code_176 : own_ix code 176 .ldiv 1 177 := ⟨by decide +kernel, rfl⟩
theorem own_d_code_177 : own_ix code 177 .ladd 1 178 := ⟨by decide +kernel, rfl⟩
theorem own_d_code_178 : own_sl code 178 30 180 := Or.inr ⟨by decide +kernel, rfl⟩
theorem own_d_code_180 : own_ll code 180 26 182 := Or.inr ⟨by decide +kernel, rfl⟩
theorem own_d_code_182 : own_ll code 182 22 184 := Or.inr ⟨by decide +kernel, rfl⟩
theorem own_d_code_184 : own_ix code 184 .lrem 1 185 := ⟨by decide +kernel, rfl⟩
theorem own_d_code_185 : own_il code 185 9 187 := Or.inr ⟨by decide +kernel, rfl⟩
theorem own_d_code_187 : own_ix code 187 .i2l 1 188 := ⟨by decide +kernel, rfl⟩
theorem own_d_code_188 : own_ix code 188 .ladd 1 189 := ⟨by decide +kernel, rfl⟩
theorem own_d_code_189 : own_ll code 189 22 191 := Or.inr ⟨by decide +kernel, rfl⟩
theorem own_d_code_191 : own_ix code 191 .lrem 1 192 := ⟨by decide +kernel, rfl⟩
theorem own_d_code_192 : own_ix code 192 .l2i 1 193 := ⟨by decide +kernel, rfl⟩
theorem own_d_code_193 : own_si code 193 32 195 := Or.inr ⟨by decide +kernel, rfl⟩
theorem own_d_code_195 : own_ll code 195 28 197 := Or.inr ⟨by decide +kernel, rfl⟩
theorem own_d_code_197 : own_ll code 197 22 199 := Or.inr ⟨by decide +kernel, rfl⟩
theorem own_d_code_199 : own_ix code 199 .lrem 1 200 := ⟨by decide +kernel, rfl⟩
theorem own_d_code_200 : own_il code 200 10 202 := Or.inr ⟨by decide +kernel, rfl⟩
theorem own_d_code_202 : own_ix code 202 .i2l 1 203 := ⟨by decide +kernel, rfl⟩
theorem own_d_code_203 : own_ix code 203 .ladd 1 204 := ⟨by decide +kernel, rfl⟩
theorem own_d_code_204 : own_ll code 204 22 206 := Or.inr ⟨by decide +kernel, rfl⟩
theorem own_d_code_206 : own_ix code 206 .lrem 1 207 := ⟨by decide +kernel, rfl⟩
theorem own_d_code_207 : own_ix code 207 .l2i 1 208 := ⟨by decide +kernel, rfl⟩
theorem own_d_code_208 : own_si code 208 33 210 := Or.inr ⟨by decide +kernel, rfl⟩
theorem own_d_code_210 : own_ll code 210 30 212 := Or.inr ⟨by decide +kernel, rfl⟩
theorem own_d_code_212 : own_ll code 212 22 214 := Or.inr ⟨by decide +kernel, rfl⟩
theorem own_d_code_214 : own_ix code 214 .lrem 1 215 := ⟨by decide +kernel, rfl⟩
theorem own_d_code_215 : own_il code 215 11 217 := Or.inr ⟨by decide +kernel, rfl⟩
theorem own_d_code_217 : own_ix code 217 .i2l 1 218 := ⟨by decide +kernel, rfl⟩
theorem own_d_code_218 : own_ix code 218 .ladd 1 219 := ⟨by decide +kernel, rfl⟩
theorem own_d_code_219 : own_ll code 219 22 221 := Or.inr ⟨by decide +kernel, rfl⟩
theorem own_d_code_221 : own_ix code 221 .lrem 1 222 := ⟨by decide +kernel, rfl⟩
theorem own_d_code_222 : own_ix code 222 .l2i 1 223 := ⟨by decide +kernel, rfl⟩
theorem own_d_code_223 : own_si code 223 34 225 := Or.inr ⟨by decide +kernel, rfl⟩
theorem own_d_code_225 : own_al code 225 20 227 := Or.inr ⟨by decide +kernel, rfl⟩
theorem own_d_code_227 : own_ix code 227 .arraylength 1 228 := ⟨by decide +kernel, rfl⟩
theorem own_d_code_228 : own_ik code 228 3 229 := ⟨3, Or.inl ⟨by decide +kernel, by decide, rfl⟩⟩
theorem own_d_code_229 : own_icm code 229 .ne 232 309 := ⟨80, by decide +kernel, rfl, by decide, by decide⟩
theorem own_d_code_232 : own_al code 232 21 234 := Or.inr ⟨by decide +kernel, rfl⟩
theorem own_d_code_234 : own_ix code 234 .arraylength 1 235 := ⟨by decide +kernel, rfl⟩
theorem own_d_code_235 : own_ik code 235 3 236 := ⟨3, Or.inl ⟨by decide +kernel, by decide, rfl⟩⟩
theorem own_d_code_236 : own_icm code 236 .ne 239 309 := ⟨73, by decide +kernel, rfl, by decide, by decide⟩
theorem own_d_code_239 : own_al code 239 20 241 := Or.inr ⟨by decide +kernel, rfl⟩
theorem own_d_code_241 : own_ik code 241 0 242 := ⟨0, Or.inl ⟨by decide +kernel, by decide, rfl⟩⟩
theorem own_d_code_242 : own_ix code 242 .iaload 1 243 := ⟨by decide +kernel, rfl⟩
theorem own_d_code_243 : own_il code 243 32 245 := Or.inr ⟨by decide +kernel, rfl⟩
theorem own_d_code_245 : own_icm code 245 .ne 248 309 := ⟨64, by decide +kernel, rfl, by decide, by decide⟩
theorem own_d_code_248 : own_al code 248 20 250 := Or.inr ⟨by decide +kernel, rfl⟩
theorem own_d_code_250 : own_ik code 250 1 251 := ⟨1, Or.inl ⟨by decide +kernel, by decide, rfl⟩⟩
theorem own_d_code_251 : own_ix code 251 .iaload 1 252 := ⟨by decide +kernel, rfl⟩
theorem own_d_code_252 : own_il code 252 33 254 := Or.inr ⟨by decide +kernel, rfl⟩
theorem own_d_code_254 : own_icm code 254 .ne 257 309 := ⟨55, by decide +kernel, rfl, by decide, by decide⟩
theorem own_d_code_257 : own_al code 257 20 259 := Or.inr ⟨by decide +kernel, rfl⟩
theorem own_d_code_259 : own_ik code 259 2 260 := ⟨2, Or.inl ⟨by decide +kernel, by decide, rfl⟩⟩
theorem own_d_code_260 : own_ix code 260 .iaload 1 261 := ⟨by decide +kernel, rfl⟩
theorem own_d_code_261 : own_il code 261 34 263 := Or.inr ⟨by decide +kernel, rfl⟩
theorem own_d_code_263 : own_icm code 263 .ne 266 309 := ⟨46, by decide +kernel, rfl, by decide, by decide⟩
theorem own_d_code_266 : own_al code 266 21 268 := Or.inr ⟨by decide +kernel, rfl⟩
theorem own_d_code_268 : own_ik code 268 0 269 := ⟨0, Or.inl ⟨by decide +kernel, by decide, rfl⟩⟩
theorem own_d_code_269 : own_ix code 269 .laload 1 270 := ⟨by decide +kernel, rfl⟩
theorem own_d_code_270 : own_ll code 270 14 272 := Or.inr ⟨by decide +kernel, rfl⟩
theorem own_d_code_272 : own_ll code 272 26 274 := Or.inr ⟨by decide +kernel, rfl⟩
theorem own_d_code_274 : own_ix code 274 .ladd 1 275 := ⟨by decide +kernel, rfl⟩
theorem own_d_code_275 : own_ix code 275 .lcmp 1 276 := ⟨by decide +kernel, rfl⟩
theorem own_d_code_276 : own_ifc code 276 .ne 279 309 := ⟨33, by decide +kernel, rfl, by decide, by decide⟩
theorem own_d_code_279 : own_al code 279 21 281 := Or.inr ⟨by decide +kernel, rfl⟩
theorem own_d_code_281 : own_ik code 281 1 282 := ⟨1, Or.inl ⟨by decide +kernel, by decide, rfl⟩⟩
theorem own_d_code_282 : own_ix code 282 .laload 1 283 := ⟨by decide +kernel, rfl⟩
theorem own_d_code_283 : own_ll code 283 16 285 := Or.inr ⟨by decide +kernel, rfl⟩
theorem own_d_code_285 : own_ll code 285 28 287 := Or.inr ⟨by decide +kernel, rfl⟩
theorem own_d_code_287 : own_ix code 287 .ladd 1 288 := ⟨by decide +kernel, rfl⟩
theorem own_d_code_288 : own_ix code 288 .lcmp 1 289 := ⟨by decide +kernel, rfl⟩
theorem own_d_code_289 : own_ifc code 289 .ne 292 309 := ⟨20, by decide +kernel, rfl, by decide, by decide⟩
theorem own_d_code_292 : own_al code 292 21 294 := Or.inr ⟨by decide +kernel, rfl⟩
theorem own_d_code_294 : own_ik code 294 2 295 := ⟨2, Or.inl ⟨by decide +kernel, by decide, rfl⟩⟩
theorem own_d_code_295 : own_ix code 295 .laload 1 296 := ⟨by decide +kernel, rfl⟩
theorem own_d_code_296 : own_ll code 296 18 298 := Or.inr ⟨by decide +kernel, rfl⟩
theorem own_d_code_298 : own_ll code 298 30 300 := Or.inr ⟨by decide +kernel, rfl⟩
theorem own_d_code_300 : own_ix code 300 .ladd 1 301 := ⟨by decide +kernel, rfl⟩
theorem own_d_code_301 : own_ix code 301 .lcmp 1 302 := ⟨by decide +kernel, rfl⟩
theorem own_d_code_302 : own_ifc code 302 .ne 305 309 := ⟨7, by decide +kernel, rfl, by decide, by decide⟩
theorem own_d_code_305 : own_ik code 305 1 306 := ⟨1, Or.inl ⟨by decide +kernel, by decide, rfl⟩⟩
theorem own_d_code_306 : own_gt code 306 310 := ⟨4, by decide +kernel, by decide, by decide⟩
theorem own_d_code_310 : own_ix code 310 .ireturn 1 311 := ⟨by decide +kernel, rfl⟩
theorem own_pn_com_example_tierwheel_tierwheel_wheel_LevelsAddPinLaw : plainName "com/example/tierwheel/tierwheel/wheel/LevelsAddPinLaw" = true := by first | (simp [plainName, overriddenIn]; done) | decide +kernel
set_option maxRecDepth 65536 in
set_option maxHeartbeats 40000000 in
theorem own_add (l : Launch) (Z : State) (a0 : Array Value) (hw : ∀ d ∈ tables_1, d.before a0 Z = true) (a b : Addr) (t : Int64) (s_ : Int32) (c0 c1 c2 : Int32) (p0 p1 p2 : Int64) (h0 : Heap) (n0 : Nat) (Z0 : n0 ≤ h0.size) (hs0 : s_.toInt64 ≠ 0) (hab : a ≠ b) (Va : own_AL Z h0 a .int [.int c0, .int c1, .int c2]) (Vb : own_AL Z h0 b .long [.long p0, .long p1, .long p2]) (ga : n0 ≤ a) (gb : n0 ≤ b) :
    own_Con l Z n0 (⟨"com/example/tierwheel/tierwheel/wheel/Levels", "add", "([I[JJI)V"⟩ : MethodName) prog_15_method_9_code 10 none ({ frames := 0, cells := 0, slots := 0, locals := 0 } : Room) [] #[(.ref a), (.ref b), (.long t), (.int s_)] h0 (fun v h' => ∃ (r0 r1 r2 : Int32) (u0 u1 u2 : Int64), v = none ∧ Keep h0 h' [a, b] ∧ own_AL Z h' a .int [.int r0, .int r1, .int r2] ∧ own_AL Z h' b .long [.long u0, .long u1, .long u2] ∧ own_res t s_ c0 c1 c2 p0 p1 p2 r0 r1 r2 u0 u1 u2) := by
  refine own_enter (plainFor_of_name own_pn_com_example_tierwheel_tierwheel_wheel_Levels) Z0 #[.val (.ref a), .val (.ref b), .val (.long t), .second, .val (.int s_), .unset, .unset, .unset, .unset, .unset] (fun m => by first | (simp [entryFrame, mkF, argsToLocals, Value.category]; done) | rfl) ?_
  intro p e s m below meth c T A X0 hret hnm fin
  refine own_lload X0 own_d_prog_15_method_9_code_0 rfl ?_
  refine own_lstore X0 #[.val (.ref a), .val (.ref b), .val (.long t), .second, .val (.int s_), .val (.long t), .second, .unset, .unset, .unset] own_d_prog_15_method_9_code_1 rfl ?_
  refine own_ipush X0 own_d_prog_15_method_9_code_3 ?_
  refine own_istore X0 #[.val (.ref a), .val (.ref b), .val (.long t), .second, .val (.int s_), .val (.long t), .second, .val (.int (0 : Int32)), .unset, .unset] own_d_prog_15_method_9_code_4 rfl ?_
  refine own_lload X0 own_d_prog_15_method_9_code_6 rfl ?_
  refine own_lpush X0 own_d_prog_15_method_9_code_8 ?_
  refine own_lcmp X0 own_d_prog_15_method_9_code_9 ?_
  by_cases d0 : (0 : Int64) < t
  · skip
    refine own_ifNo X0 own_d_prog_15_method_9_code_10 ((if0 _ _).trans (tlt ((lw_gt t (0 : Int64)).2 d0)).2.2.2) ?_
    refine own_iload X0 own_d_prog_15_method_9_code_13 rfl ?_
    refine own_aload X0 own_d_prog_15_method_9_code_15 rfl ?_
    refine own_alen X0 Va own_d_prog_15_method_9_code_16 ?_
    show own_Wins p e below A T (mkF m 17 #[.val (.ref a), .val (.ref b), .val (.long t), .second, .val (.int s_), .val (.long t), .second, .val (.int (0 : Int32)), .unset, .unset] [(.int (3 : Int32)), (.int (0 : Int32))])
    refine own_icNo X0 own_d_prog_15_method_9_code_17 (tlt (by decide)).2.1 ?_
    refine own_aload X0 own_d_prog_15_method_9_code_20 rfl ?_
    refine own_iload X0 own_d_prog_15_method_9_code_21 rfl ?_
    refine own_dup2 X0 own_d_prog_15_method_9_code_23 ?_
    refine own_laload X0 Vb (i := 0) ⟨by decide, by decide⟩ rfl own_d_prog_15_method_9_code_24 ?_
    refine own_lload X0 own_d_prog_15_method_9_code_25 rfl ?_
    refine own_ladd X0 own_d_prog_15_method_9_code_27 ?_
    refine own_lastore X0 Vb gb (i := 0) ⟨by decide, by decide⟩ (Nat.le_of_ble_eq_true rfl) own_d_prog_15_method_9_code_28 ?_
    intro T1 h1 X1 W1 V1
    have K1 : Keep h0 h1 [a, b] := (Keep.refl h0 [a, b]).wr W1 (Or.inl (by simp))
    replace V1 : own_AL Z h1 b .long [(.long (p0 + t)), (.long p1), (.long p2)] := V1
    have F2_a : own_AL Z h1 a .int [(.int c0), (.int c1), (.int c2)] := Va.other W1 hab
    refine own_aload X1 own_d_prog_15_method_9_code_29 rfl ?_
    refine own_iload X1 own_d_prog_15_method_9_code_30 rfl ?_
    refine own_iaload X1 F2_a (i := 0) ⟨by decide, by decide⟩ rfl own_d_prog_15_method_9_code_32 ?_
    refine own_i2l X1 own_d_prog_15_method_9_code_33 ?_
    refine own_lload X1 own_d_prog_15_method_9_code_34 rfl ?_
    refine own_iload X1 own_d_prog_15_method_9_code_36 rfl ?_
    refine own_i2l X1 own_d_prog_15_method_9_code_38 ?_
    refine own_lrem X1 own_d_prog_15_method_9_code_39 hs0 ?_
    refine own_ladd X1 own_d_prog_15_method_9_code_40 ?_
    generalize hv3 : (((c0).toInt64) + (t % ((s_).toInt64))) = v3
    refine own_lstore X1 #[.val (.ref a), .val (.ref b), .val (.long t), .second, .val (.int s_), .val (.long t), .second, .val (.int (0 : Int32)), .val (.long v3), .second] own_d_prog_15_method_9_code_41 rfl ?_
    refine own_aload X1 own_d_prog_15_method_9_code_43 rfl ?_
    refine own_iload X1 own_d_prog_15_method_9_code_44 rfl ?_
    refine own_lload X1 own_d_prog_15_method_9_code_46 rfl ?_
    refine own_iload X1 own_d_prog_15_method_9_code_48 rfl ?_
    refine own_i2l X1 own_d_prog_15_method_9_code_50 ?_
    refine own_lrem X1 own_d_prog_15_method_9_code_51 hs0 ?_
    refine own_l2i X1 own_d_prog_15_method_9_code_52 ?_
    refine own_iastore X1 F2_a ga (i := 0) ⟨by decide, by decide⟩ (Nat.le_of_ble_eq_true rfl) own_d_prog_15_method_9_code_53 ?_
    intro T4 h4 X4 W4 V4
    have K4 : Keep h0 h4 [a, b] := K1.wr W4 (Or.inl (by simp))
    replace V4 : own_AL Z h4 a .int [(.int (((v3 % ((s_).toInt64))).toInt32)), (.int c1), (.int c2)] := V4
    have F5_b : own_AL Z h4 b .long [(.long (p0 + t)), (.long p1), (.long p2)] := V1.other W4 (Ne.symm hab)
    refine own_lload X4 own_d_prog_15_method_9_code_54 rfl ?_
    refine own_iload X4 own_d_prog_15_method_9_code_56 rfl ?_
    refine own_i2l X4 own_d_prog_15_method_9_code_58 ?_
    refine own_ldiv X4 own_d_prog_15_method_9_code_59 hs0 ?_
    refine own_lload X4 own_d_prog_15_method_9_code_60 rfl ?_
    refine own_iload X4 own_d_prog_15_method_9_code_62 rfl ?_
    refine own_i2l X4 own_d_prog_15_method_9_code_64 ?_
    refine own_ldiv X4 own_d_prog_15_method_9_code_65 hs0 ?_
    refine own_ladd X4 own_d_prog_15_method_9_code_66 ?_
    generalize hv6 : ((t / ((s_).toInt64)) + (v3 / ((s_).toInt64))) = v6
    refine own_lstore X4 #[.val (.ref a), .val (.ref b), .val (.long t), .second, .val (.int s_), .val (.long v6), .second, .val (.int (0 : Int32)), .val (.long v3), .second] own_d_prog_15_method_9_code_67 rfl ?_
    refine own_iinc X4 #[.val (.ref a), .val (.ref b), .val (.long t), .second, .val (.int s_), .val (.long v6), .second, .val (.int (1 : Int32)), .val (.long v3), .second] own_d_prog_15_method_9_code_69 rfl rfl ?_
    refine own_goto X4 own_d_prog_15_method_9_code_72 ?_
    refine own_lload X4 own_d_prog_15_method_9_code_6 rfl ?_
    refine own_lpush X4 own_d_prog_15_method_9_code_8 ?_
    refine own_lcmp X4 own_d_prog_15_method_9_code_9 ?_
    by_cases d1 : (0 : Int64) < v6
    · skip
      refine own_ifNo X4 own_d_prog_15_method_9_code_10 ((if0 _ _).trans (tlt ((lw_gt v6 (0 : Int64)).2 d1)).2.2.2) ?_
      refine own_iload X4 own_d_prog_15_method_9_code_13 rfl ?_
      refine own_aload X4 own_d_prog_15_method_9_code_15 rfl ?_
      refine own_alen X4 V4 own_d_prog_15_method_9_code_16 ?_
      show own_Wins p e below A T4 (mkF m 17 #[.val (.ref a), .val (.ref b), .val (.long t), .second, .val (.int s_), .val (.long v6), .second, .val (.int (1 : Int32)), .val (.long v3), .second] [(.int (3 : Int32)), (.int (1 : Int32))])
      refine own_icNo X4 own_d_prog_15_method_9_code_17 (tlt (by decide)).2.1 ?_
      refine own_aload X4 own_d_prog_15_method_9_code_20 rfl ?_
      refine own_iload X4 own_d_prog_15_method_9_code_21 rfl ?_
      refine own_dup2 X4 own_d_prog_15_method_9_code_23 ?_
      refine own_laload X4 F5_b (i := 1) ⟨by decide, by decide⟩ rfl own_d_prog_15_method_9_code_24 ?_
      refine own_lload X4 own_d_prog_15_method_9_code_25 rfl ?_
      refine own_ladd X4 own_d_prog_15_method_9_code_27 ?_
      refine own_lastore X4 F5_b gb (i := 1) ⟨by decide, by decide⟩ (Nat.le_of_ble_eq_true rfl) own_d_prog_15_method_9_code_28 ?_
      intro T7 h7 X7 W7 V7
      have K7 : Keep h0 h7 [a, b] := K4.wr W7 (Or.inl (by simp))
      replace V7 : own_AL Z h7 b .long [(.long (p0 + t)), (.long (p1 + v6)), (.long p2)] := V7
      have F8_a : own_AL Z h7 a .int [(.int (((v3 % ((s_).toInt64))).toInt32)), (.int c1), (.int c2)] := V4.other W7 hab
      refine own_aload X7 own_d_prog_15_method_9_code_29 rfl ?_
      refine own_iload X7 own_d_prog_15_method_9_code_30 rfl ?_
      refine own_iaload X7 F8_a (i := 1) ⟨by decide, by decide⟩ rfl own_d_prog_15_method_9_code_32 ?_
      refine own_i2l X7 own_d_prog_15_method_9_code_33 ?_
      refine own_lload X7 own_d_prog_15_method_9_code_34 rfl ?_
      refine own_iload X7 own_d_prog_15_method_9_code_36 rfl ?_
      refine own_i2l X7 own_d_prog_15_method_9_code_38 ?_
      refine own_lrem X7 own_d_prog_15_method_9_code_39 hs0 ?_
      refine own_ladd X7 own_d_prog_15_method_9_code_40 ?_
      generalize hv9 : (((c1).toInt64) + (v6 % ((s_).toInt64))) = v9
      refine own_lstore X7 #[.val (.ref a), .val (.ref b), .val (.long t), .second, .val (.int s_), .val (.long v6), .second, .val (.int (1 : Int32)), .val (.long v9), .second] own_d_prog_15_method_9_code_41 rfl ?_
      refine own_aload X7 own_d_prog_15_method_9_code_43 rfl ?_
      refine own_iload X7 own_d_prog_15_method_9_code_44 rfl ?_
      refine own_lload X7 own_d_prog_15_method_9_code_46 rfl ?_
      refine own_iload X7 own_d_prog_15_method_9_code_48 rfl ?_
      refine own_i2l X7 own_d_prog_15_method_9_code_50 ?_
      refine own_lrem X7 own_d_prog_15_method_9_code_51 hs0 ?_
      refine own_l2i X7 own_d_prog_15_method_9_code_52 ?_
      refine own_iastore X7 F8_a ga (i := 1) ⟨by decide, by decide⟩ (Nat.le_of_ble_eq_true rfl) own_d_prog_15_method_9_code_53 ?_
      intro T10 h10 X10 W10 V10
      have K10 : Keep h0 h10 [a, b] := K7.wr W10 (Or.inl (by simp))
      replace V10 : own_AL Z h10 a .int [(.int (((v3 % ((s_).toInt64))).toInt32)), (.int (((v9 % ((s_).toInt64))).toInt32)), (.int c2)] := V10
      have F11_b : own_AL Z h10 b .long [(.long (p0 + t)), (.long (p1 + v6)), (.long p2)] := V7.other W10 (Ne.symm hab)
      refine own_lload X10 own_d_prog_15_method_9_code_54 rfl ?_
      refine own_iload X10 own_d_prog_15_method_9_code_56 rfl ?_
      refine own_i2l X10 own_d_prog_15_method_9_code_58 ?_
      refine own_ldiv X10 own_d_prog_15_method_9_code_59 hs0 ?_
      refine own_lload X10 own_d_prog_15_method_9_code_60 rfl ?_
      refine own_iload X10 own_d_prog_15_method_9_code_62 rfl ?_
      refine own_i2l X10 own_d_prog_15_method_9_code_64 ?_
      refine own_ldiv X10 own_d_prog_15_method_9_code_65 hs0 ?_
      refine own_ladd X10 own_d_prog_15_method_9_code_66 ?_
      generalize hv12 : ((v6 / ((s_).toInt64)) + (v9 / ((s_).toInt64))) = v12
      refine own_lstore X10 #[.val (.ref a), .val (.ref b), .val (.long t), .second, .val (.int s_), .val (.long v12), .second, .val (.int (1 : Int32)), .val (.long v9), .second] own_d_prog_15_method_9_code_67 rfl ?_
      refine own_iinc X10 #[.val (.ref a), .val (.ref b), .val (.long t), .second, .val (.int s_), .val (.long v12), .second, .val (.int (2 : Int32)), .val (.long v9), .second] own_d_prog_15_method_9_code_69 rfl rfl ?_
      refine own_goto X10 own_d_prog_15_method_9_code_72 ?_
      refine own_lload X10 own_d_prog_15_method_9_code_6 rfl ?_
      refine own_lpush X10 own_d_prog_15_method_9_code_8 ?_
      refine own_lcmp X10 own_d_prog_15_method_9_code_9 ?_
      by_cases d2 : (0 : Int64) < v12
      · skip
        refine own_ifNo X10 own_d_prog_15_method_9_code_10 ((if0 _ _).trans (tlt ((lw_gt v12 (0 : Int64)).2 d2)).2.2.2) ?_
        refine own_iload X10 own_d_prog_15_method_9_code_13 rfl ?_
        refine own_aload X10 own_d_prog_15_method_9_code_15 rfl ?_
        refine own_alen X10 V10 own_d_prog_15_method_9_code_16 ?_
        show own_Wins p e below A T10 (mkF m 17 #[.val (.ref a), .val (.ref b), .val (.long t), .second, .val (.int s_), .val (.long v12), .second, .val (.int (2 : Int32)), .val (.long v9), .second] [(.int (3 : Int32)), (.int (2 : Int32))])
        refine own_icNo X10 own_d_prog_15_method_9_code_17 (tlt (by decide)).2.1 ?_
        refine own_aload X10 own_d_prog_15_method_9_code_20 rfl ?_
        refine own_iload X10 own_d_prog_15_method_9_code_21 rfl ?_
        refine own_dup2 X10 own_d_prog_15_method_9_code_23 ?_
        refine own_laload X10 F11_b (i := 2) ⟨by decide, by decide⟩ rfl own_d_prog_15_method_9_code_24 ?_
        refine own_lload X10 own_d_prog_15_method_9_code_25 rfl ?_
        refine own_ladd X10 own_d_prog_15_method_9_code_27 ?_
        refine own_lastore X10 F11_b gb (i := 2) ⟨by decide, by decide⟩ (Nat.le_of_ble_eq_true rfl) own_d_prog_15_method_9_code_28 ?_
        intro T13 h13 X13 W13 V13
        have K13 : Keep h0 h13 [a, b] := K10.wr W13 (Or.inl (by simp))
        replace V13 : own_AL Z h13 b .long [(.long (p0 + t)), (.long (p1 + v6)), (.long (p2 + v12))] := V13
        have F14_a : own_AL Z h13 a .int [(.int (((v3 % ((s_).toInt64))).toInt32)), (.int (((v9 % ((s_).toInt64))).toInt32)), (.int c2)] := V10.other W13 hab
        refine own_aload X13 own_d_prog_15_method_9_code_29 rfl ?_
        refine own_iload X13 own_d_prog_15_method_9_code_30 rfl ?_
        refine own_iaload X13 F14_a (i := 2) ⟨by decide, by decide⟩ rfl own_d_prog_15_method_9_code_32 ?_
        refine own_i2l X13 own_d_prog_15_method_9_code_33 ?_
        refine own_lload X13 own_d_prog_15_method_9_code_34 rfl ?_
        refine own_iload X13 own_d_prog_15_method_9_code_36 rfl ?_
        refine own_i2l X13 own_d_prog_15_method_9_code_38 ?_
        refine own_lrem X13 own_d_prog_15_method_9_code_39 hs0 ?_
        refine own_ladd X13 own_d_prog_15_method_9_code_40 ?_
        generalize hv15 : (((c2).toInt64) + (v12 % ((s_).toInt64))) = v15
        refine own_lstore X13 #[.val (.ref a), .val (.ref b), .val (.long t), .second, .val (.int s_), .val (.long v12), .second, .val (.int (2 : Int32)), .val (.long v15), .second] own_d_prog_15_method_9_code_41 rfl ?_
        refine own_aload X13 own_d_prog_15_method_9_code_43 rfl ?_
        refine own_iload X13 own_d_prog_15_method_9_code_44 rfl ?_
        refine own_lload X13 own_d_prog_15_method_9_code_46 rfl ?_
        refine own_iload X13 own_d_prog_15_method_9_code_48 rfl ?_
        refine own_i2l X13 own_d_prog_15_method_9_code_50 ?_
        refine own_lrem X13 own_d_prog_15_method_9_code_51 hs0 ?_
        refine own_l2i X13 own_d_prog_15_method_9_code_52 ?_
        refine own_iastore X13 F14_a ga (i := 2) ⟨by decide, by decide⟩ (Nat.le_of_ble_eq_true rfl) own_d_prog_15_method_9_code_53 ?_
        intro T16 h16 X16 W16 V16
        have K16 : Keep h0 h16 [a, b] := K13.wr W16 (Or.inl (by simp))
        replace V16 : own_AL Z h16 a .int [(.int (((v3 % ((s_).toInt64))).toInt32)), (.int (((v9 % ((s_).toInt64))).toInt32)), (.int (((v15 % ((s_).toInt64))).toInt32))] := V16
        have F17_b : own_AL Z h16 b .long [(.long (p0 + t)), (.long (p1 + v6)), (.long (p2 + v12))] := V13.other W16 (Ne.symm hab)
        refine own_lload X16 own_d_prog_15_method_9_code_54 rfl ?_
        refine own_iload X16 own_d_prog_15_method_9_code_56 rfl ?_
        refine own_i2l X16 own_d_prog_15_method_9_code_58 ?_
        refine own_ldiv X16 own_d_prog_15_method_9_code_59 hs0 ?_
        refine own_lload X16 own_d_prog_15_method_9_code_60 rfl ?_
        refine own_iload X16 own_d_prog_15_method_9_code_62 rfl ?_
        refine own_i2l X16 own_d_prog_15_method_9_code_64 ?_
        refine own_ldiv X16 own_d_prog_15_method_9_code_65 hs0 ?_
        refine own_ladd X16 own_d_prog_15_method_9_code_66 ?_
        generalize hv18 : ((v12 / ((s_).toInt64)) + (v15 / ((s_).toInt64))) = v18
        refine own_lstore X16 #[.val (.ref a), .val (.ref b), .val (.long t), .second, .val (.int s_), .val (.long v18), .second, .val (.int (2 : Int32)), .val (.long v15), .second] own_d_prog_15_method_9_code_67 rfl ?_
        refine own_iinc X16 #[.val (.ref a), .val (.ref b), .val (.long t), .second, .val (.int s_), .val (.long v18), .second, .val (.int (3 : Int32)), .val (.long v15), .second] own_d_prog_15_method_9_code_69 rfl rfl ?_
        refine own_goto X16 own_d_prog_15_method_9_code_72 ?_
        refine own_lload X16 own_d_prog_15_method_9_code_6 rfl ?_
        refine own_lpush X16 own_d_prog_15_method_9_code_8 ?_
        refine own_lcmp X16 own_d_prog_15_method_9_code_9 ?_
        by_cases d3 : (0 : Int64) < v18
        · skip
          refine own_ifNo X16 own_d_prog_15_method_9_code_10 ((if0 _ _).trans (tlt ((lw_gt v18 (0 : Int64)).2 d3)).2.2.2) ?_
          refine own_iload X16 own_d_prog_15_method_9_code_13 rfl ?_
          refine own_aload X16 own_d_prog_15_method_9_code_15 rfl ?_
          refine own_alen X16 V16 own_d_prog_15_method_9_code_16 ?_
          show own_Wins p e below A T16 (mkF m 17 #[.val (.ref a), .val (.ref b), .val (.long t), .second, .val (.int s_), .val (.long v18), .second, .val (.int (3 : Int32)), .val (.long v15), .second] [(.int (3 : Int32)), (.int (3 : Int32))])
          refine own_icYes X16 own_d_prog_15_method_9_code_17 (flt (by decide)).2.1 ?_
          exact own_ret0 X16 hret fin (by decide) (by decide) ⟨(((v3 % ((s_).toInt64))).toInt32), (((v9 % ((s_).toInt64))).toInt32), (((v15 % ((s_).toInt64))).toInt32), (p0 + t), (p1 + v6), (p2 + v12), rfl, K16, V16, F17_b, by subst hv3 hv6 hv9 hv12 hv15 hv18; have e0 : 0 < t := d0; have e1 : 0 < own_m c0 t s_ := d1; have e2 : 0 < own_m c1 (own_m c0 t s_) s_ := d2; refine ⟨?_, ?_, ?_, ?_, ?_, ?_⟩ <;> simp only [if_pos e0, if_pos e1, if_pos e2] <;> rfl⟩ own_d_prog_15_method_9_code_75
        · skip
          refine own_ifYes X16 own_d_prog_15_method_9_code_10 ((if0 _ _).trans (flt (mt (lw_gt v18 (0 : Int64)).1 d3)).2.2.2) ?_
          exact own_ret0 X16 hret fin (by decide) (by decide) ⟨(((v3 % ((s_).toInt64))).toInt32), (((v9 % ((s_).toInt64))).toInt32), (((v15 % ((s_).toInt64))).toInt32), (p0 + t), (p1 + v6), (p2 + v12), rfl, K16, V16, F17_b, by subst hv3 hv6 hv9 hv12 hv15 hv18; have e0 : 0 < t := d0; have e1 : 0 < own_m c0 t s_ := d1; have e2 : 0 < own_m c1 (own_m c0 t s_) s_ := d2; refine ⟨?_, ?_, ?_, ?_, ?_, ?_⟩ <;> simp only [if_pos e0, if_pos e1, if_pos e2] <;> rfl⟩ own_d_prog_15_method_9_code_75
      · skip
        refine own_ifYes X10 own_d_prog_15_method_9_code_10 ((if0 _ _).trans (flt (mt (lw_gt v12 (0 : Int64)).1 d2)).2.2.2) ?_
        exact own_ret0 X10 hret fin (by decide) (by decide) ⟨(((v3 % ((s_).toInt64))).toInt32), (((v9 % ((s_).toInt64))).toInt32), c2, (p0 + t), (p1 + v6), p2, rfl, K10, V10, F11_b, by subst hv3 hv6 hv9 hv12; have e0 : 0 < t := d0; have e1 : 0 < own_m c0 t s_ := d1; have e2 : ¬ 0 < own_m c1 (own_m c0 t s_) s_ := d2; refine ⟨?_, ?_, ?_, ?_, ?_, ?_⟩ <;> simp only [if_pos e0, if_pos e1, if_neg e2] <;> rfl⟩ own_d_prog_15_method_9_code_75
    · skip
      refine own_ifYes X4 own_d_prog_15_method_9_code_10 ((if0 _ _).trans (flt (mt (lw_gt v6 (0 : Int64)).1 d1)).2.2.2) ?_
      exact own_ret0 X4 hret fin (by decide) (by decide) ⟨(((v3 % ((s_).toInt64))).toInt32), c1, c2, (p0 + t), p1, p2, rfl, K4, V4, F5_b, by subst hv3 hv6; have e0 : 0 < t := d0; have e1 : ¬ 0 < own_m c0 t s_ := d1; refine ⟨?_, ?_, ?_, ?_, ?_, ?_⟩ <;> simp only [if_pos e0, if_neg e1] <;> rfl⟩ own_d_prog_15_method_9_code_75
  · skip
    refine own_ifYes X0 own_d_prog_15_method_9_code_10 ((if0 _ _).trans (flt (mt (lw_gt t (0 : Int64)).1 d0)).2.2.2) ?_
    exact own_ret0 X0 hret fin (by decide) (by decide) ⟨c0, c1, c2, p0, p1, p2, rfl, (Keep.refl h0 [a, b]), Va, Vb, by have e0 : ¬ 0 < t := d0; refine ⟨?_, ?_, ?_, ?_, ?_, ?_⟩ <;> simp only [if_neg e0] <;> rfl⟩ own_d_prog_15_method_9_code_75
set_option maxRecDepth 65536 in
set_option maxHeartbeats 40000000 in
theorem own_law (l : Launch) (Z : State) (a0 : Array Value) (hw : ∀ d ∈ tables_1, d.before a0 Z = true) (i0 i1 i2 i3 : Int32) (i4 i5 : Int64) (h0 : Heap) (n0 : Nat) (Z0 : n0 ≤ h0.size)  :
    own_Con l Z n0 x code maxLocals ret room_1 tables_1 #[(.int i0), (.int i1), (.int i2), (.int i3), (.long i4), (.long i5)] h0 (fun v _ => v = some (.int 1)) := by
  refine own_enter (plainFor_of_name own_pn_com_example_tierwheel_tierwheel_wheel_LevelsAddPinLaw) Z0 #[.val (.int i0), .val (.int i1), .val (.int i2), .val (.int i3), .val (.long i4), .second, .val (.long i5), .second, .unset, .unset, .unset, .unset, .unset, .unset, .unset, .unset, .unset, .unset, .unset, .unset, .unset, .unset, .unset, .unset, .unset, .unset, .unset, .unset, .unset, .unset, .unset, .unset, .unset, .unset, .unset] (fun m => by first | (simp [entryFrame, mkF, argsToLocals, Value.category, maxLocals]; done) | rfl) ?_
  intro p e s m below meth c T A X0 hret hnm fin
  refine own_ipush X0 own_d_code_0 ?_
  refine own_iload X0 own_d_code_1 rfl ?_
  refine own_ldc X0 (hw _ (List.mem_of_getElem? (i := 0) rfl)) own_d_code_2 ?_
  refine own_iand X0 own_d_code_4 ?_
  refine own_ldc X0 (hw _ (List.mem_of_getElem? (i := 1) rfl)) own_d_code_5 ?_
  refine own_irem X0 own_d_code_7 (by decide) ?_
  refine own_iadd X0 own_d_code_8 ?_
  generalize hsv : ((2 : Int32) + ((i0 &&& (2147483647 : Int32)) % (65535 : Int32))) = sv
  obtain ⟨S, hS, hS2, hS6⟩ : ∃ S, own_idx sv S ∧ 2 ≤ S ∧ S ≤ 65536 := by rw [← hsv]; exact own_svb i0
  have hsv0 : sv ≠ 0 := fun q => by have := (own_idx_eq hS (n := 0) ⟨by decide, by decide⟩).mp q; omega
  refine own_istore X0 #[.val (.int i0), .val (.int i1), .val (.int i2), .val (.int i3), .val (.long i4), .second, .val (.long i5), .second, .val (.int sv), .unset, .unset, .unset, .unset, .unset, .unset, .unset, .unset, .unset, .unset, .unset, .unset, .unset, .unset, .unset, .unset, .unset, .unset, .unset, .unset, .unset, .unset, .unset, .unset, .unset, .unset] own_d_code_9 rfl ?_
  refine own_iload X0 own_d_code_11 rfl ?_
  refine own_ldc X0 (hw _ (List.mem_of_getElem? (i := 0) rfl)) own_d_code_12 ?_
  refine own_iand X0 own_d_code_14 ?_
  refine own_iload X0 own_d_code_15 rfl ?_
  refine own_irem X0 own_d_code_17 hsv0 ?_
  generalize hc0 : ((i1 &&& (2147483647 : Int32)) % sv) = c0
  obtain ⟨k0, hk0, hc0⟩ : ∃ k, k < S ∧ own_idx c0 k := by rw [← hc0]; exact own_mod_idx i1 sv S hS (by omega)
  refine own_istore X0 #[.val (.int i0), .val (.int i1), .val (.int i2), .val (.int i3), .val (.long i4), .second, .val (.long i5), .second, .val (.int sv), .val (.int c0), .unset, .unset, .unset, .unset, .unset, .unset, .unset, .unset, .unset, .unset, .unset, .unset, .unset, .unset, .unset, .unset, .unset, .unset, .unset, .unset, .unset, .unset, .unset, .unset, .unset] own_d_code_18 rfl ?_
  refine own_iload X0 own_d_code_20 rfl ?_
  refine own_ldc X0 (hw _ (List.mem_of_getElem? (i := 0) rfl)) own_d_code_21 ?_
  refine own_iand X0 own_d_code_23 ?_
  refine own_iload X0 own_d_code_24 rfl ?_
  refine own_irem X0 own_d_code_26 hsv0 ?_
  generalize hc1 : ((i2 &&& (2147483647 : Int32)) % sv) = c1
  obtain ⟨k1, hk1, hc1⟩ : ∃ k, k < S ∧ own_idx c1 k := by rw [← hc1]; exact own_mod_idx i2 sv S hS (by omega)
  refine own_istore X0 #[.val (.int i0), .val (.int i1), .val (.int i2), .val (.int i3), .val (.long i4), .second, .val (.long i5), .second, .val (.int sv), .val (.int c0), .val (.int c1), .unset, .unset, .unset, .unset, .unset, .unset, .unset, .unset, .unset, .unset, .unset, .unset, .unset, .unset, .unset, .unset, .unset, .unset, .unset, .unset, .unset, .unset, .unset, .unset] own_d_code_27 rfl ?_
  refine own_iload X0 own_d_code_29 rfl ?_
  refine own_ldc X0 (hw _ (List.mem_of_getElem? (i := 0) rfl)) own_d_code_30 ?_
  refine own_iand X0 own_d_code_32 ?_
  refine own_iload X0 own_d_code_33 rfl ?_
  refine own_irem X0 own_d_code_35 hsv0 ?_
  generalize hc2 : ((i3 &&& (2147483647 : Int32)) % sv) = c2
  obtain ⟨k2, hk2, hc2⟩ : ∃ k, k < S ∧ own_idx c2 k := by rw [← hc2]; exact own_mod_idx i3 sv S hS (by omega)
  refine own_istore X0 #[.val (.int i0), .val (.int i1), .val (.int i2), .val (.int i3), .val (.long i4), .second, .val (.long i5), .second, .val (.int sv), .val (.int c0), .val (.int c1), .val (.int c2), .unset, .unset, .unset, .unset, .unset, .unset, .unset, .unset, .unset, .unset, .unset, .unset, .unset, .unset, .unset, .unset, .unset, .unset, .unset, .unset, .unset, .unset, .unset] own_d_code_36 rfl ?_
  refine own_lload X0 own_d_code_38 rfl ?_
  refine own_ldc2 X0 (hw _ (List.mem_of_getElem? (i := 2) rfl)) own_d_code_40 ?_
  refine own_land X0 own_d_code_43 ?_
  generalize htv : (i4 &&& (9223372036854775807 : Int64)) = tv
  have ht : 0 ≤ tv.toInt := by rw [← htv, c_maskL i4 9223372036854775807 63 (by decide) (by decide)]; omega
  have hSi := own_idx_iff.mp hS
  have hci0 := own_idx_iff.mp hc0
  have hci1 := own_idx_iff.mp hc1
  have hci2 := own_idx_iff.mp hc2
  have hs1 : sv.toInt64 ≠ 0 := own_ne_of (by rw [c_i2l, show (0 : Int64).toInt = 0 by decide]; omega)
  have hq2 := own_q2 tv sv c0 c1 S hSi (by omega) (by omega) (by omega) (by omega) (by omega) (by omega) ht
  refine own_lstore X0 #[.val (.int i0), .val (.int i1), .val (.int i2), .val (.int i3), .val (.long i4), .second, .val (.long i5), .second, .val (.int sv), .val (.int c0), .val (.int c1), .val (.int c2), .val (.long tv), .second, .unset, .unset, .unset, .unset, .unset, .unset, .unset, .unset, .unset, .unset, .unset, .unset, .unset, .unset, .unset, .unset, .unset, .unset, .unset, .unset, .unset] own_d_code_44 rfl ?_
  refine own_lload X0 own_d_code_46 rfl ?_
  refine own_lstore X0 #[.val (.int i0), .val (.int i1), .val (.int i2), .val (.int i3), .val (.long i4), .second, .val (.long i5), .second, .val (.int sv), .val (.int c0), .val (.int c1), .val (.int c2), .val (.long tv), .second, .val (.long i5), .second, .unset, .unset, .unset, .unset, .unset, .unset, .unset, .unset, .unset, .unset, .unset, .unset, .unset, .unset, .unset, .unset, .unset, .unset, .unset] own_d_code_48 rfl ?_
  refine own_lload X0 own_d_code_50 rfl ?_
  refine own_ldc2 X0 (hw _ (List.mem_of_getElem? (i := 3) rfl)) own_d_code_52 ?_
  refine own_lxor X0 own_d_code_55 ?_
  refine own_lstore X0 #[.val (.int i0), .val (.int i1), .val (.int i2), .val (.int i3), .val (.long i4), .second, .val (.long i5), .second, .val (.int sv), .val (.int c0), .val (.int c1), .val (.int c2), .val (.long tv), .second, .val (.long i5), .second, .val (.long (i5 ^^^ (6148914691236517205 : Int64))), .second, .unset, .unset, .unset, .unset, .unset, .unset, .unset, .unset, .unset, .unset, .unset, .unset, .unset, .unset, .unset, .unset, .unset] own_d_code_56 rfl ?_
  refine own_lload X0 own_d_code_58 rfl ?_
  refine own_ldc2 X0 (hw _ (List.mem_of_getElem? (i := 4) rfl)) own_d_code_60 ?_
  refine own_lxor X0 own_d_code_63 ?_
  refine own_lstore X0 #[.val (.int i0), .val (.int i1), .val (.int i2), .val (.int i3), .val (.long i4), .second, .val (.long i5), .second, .val (.int sv), .val (.int c0), .val (.int c1), .val (.int c2), .val (.long tv), .second, .val (.long i5), .second, .val (.long (i5 ^^^ (6148914691236517205 : Int64))), .second, .val (.long (i5 ^^^ (-1 : Int64))), .second, .unset, .unset, .unset, .unset, .unset, .unset, .unset, .unset, .unset, .unset, .unset, .unset, .unset, .unset, .unset] own_d_code_64 rfl ?_
  refine own_ipush X0 own_d_code_66 ?_
  refine own_newarr X0 (hw _ (List.mem_of_getElem? (i := 5) rfl)) own_d_code_67 (n := 3) ⟨by decide, by decide⟩ 3 (Nat.le_refl _) (by decide) (by decide) (by decide) ?_
  intro T1 h1 b1 X1 E1 g1 ga_b1 V1
  replace V1 : own_AL Z h1 b1 .int [(.int (0 : Int32)), (.int (0 : Int32)), (.int (0 : Int32))] := V1
  refine own_dup X1 own_d_code_69 rfl ?_
  refine own_ipush X1 own_d_code_70 ?_
  refine own_iload X1 own_d_code_71 rfl ?_
  refine own_iastore X1 V1 ga_b1 (i := 0) ⟨by decide, by decide⟩ (Nat.le_of_ble_eq_true rfl) own_d_code_73 ?_
  intro T2 h2 X2 W2 V2
  replace V2 : own_AL Z h2 b1 .int [(.int c0), (.int (0 : Int32)), (.int (0 : Int32))] := V2
  refine own_dup X2 own_d_code_74 rfl ?_
  refine own_ipush X2 own_d_code_75 ?_
  refine own_iload X2 own_d_code_76 rfl ?_
  refine own_iastore X2 V2 ga_b1 (i := 1) ⟨by decide, by decide⟩ (Nat.le_of_ble_eq_true rfl) own_d_code_78 ?_
  intro T3 h3 X3 W3 V3
  replace V3 : own_AL Z h3 b1 .int [(.int c0), (.int c1), (.int (0 : Int32))] := V3
  refine own_dup X3 own_d_code_79 rfl ?_
  refine own_ipush X3 own_d_code_80 ?_
  refine own_iload X3 own_d_code_81 rfl ?_
  refine own_iastore X3 V3 ga_b1 (i := 2) ⟨by decide, by decide⟩ (Nat.le_of_ble_eq_true rfl) own_d_code_83 ?_
  intro T4 h4 X4 W4 V4
  replace V4 : own_AL Z h4 b1 .int [(.int c0), (.int c1), (.int c2)] := V4
  refine own_astore X4 #[.val (.int i0), .val (.int i1), .val (.int i2), .val (.int i3), .val (.long i4), .second, .val (.long i5), .second, .val (.int sv), .val (.int c0), .val (.int c1), .val (.int c2), .val (.long tv), .second, .val (.long i5), .second, .val (.long (i5 ^^^ (6148914691236517205 : Int64))), .second, .val (.long (i5 ^^^ (-1 : Int64))), .second, .val (.ref b1), .unset, .unset, .unset, .unset, .unset, .unset, .unset, .unset, .unset, .unset, .unset, .unset, .unset, .unset] own_d_code_84 rfl ?_
  refine own_ipush X4 own_d_code_86 ?_
  refine own_newarr X4 (hw _ (List.mem_of_getElem? (i := 6) rfl)) own_d_code_87 (n := 3) ⟨by decide, by decide⟩ 3 (Nat.le_refl _) (by decide) (by decide) (by decide) ?_
  intro T5 h5 b5 X5 E5 g5 ga_b5 V5
  have ne_b1_b5 : b1 ≠ b5 := by rw [g5]; exact Nat.ne_of_lt V4.lt
  have F6_b1 : own_AL Z h5 b1 .int [(.int c0), (.int c1), (.int c2)] := V4.ext E5
  replace V5 : own_AL Z h5 b5 .long [(.long (0 : Int64)), (.long (0 : Int64)), (.long (0 : Int64))] := V5
  refine own_dup X5 own_d_code_89 rfl ?_
  refine own_ipush X5 own_d_code_90 ?_
  refine own_lload X5 own_d_code_91 rfl ?_
  refine own_lastore X5 V5 ga_b5 (i := 0) ⟨by decide, by decide⟩ (Nat.le_of_ble_eq_true rfl) own_d_code_93 ?_
  intro T7 h7 X7 W7 V7
  replace V7 : own_AL Z h7 b5 .long [(.long i5), (.long (0 : Int64)), (.long (0 : Int64))] := V7
  have F8_b1 : own_AL Z h7 b1 .int [(.int c0), (.int c1), (.int c2)] := F6_b1.other W7 (Ne.symm (Ne.symm ne_b1_b5))
  refine own_dup X7 own_d_code_94 rfl ?_
  refine own_ipush X7 own_d_code_95 ?_
  refine own_lload X7 own_d_code_96 rfl ?_
  refine own_lastore X7 V7 ga_b5 (i := 1) ⟨by decide, by decide⟩ (Nat.le_of_ble_eq_true rfl) own_d_code_98 ?_
  intro T9 h9 X9 W9 V9
  replace V9 : own_AL Z h9 b5 .long [(.long i5), (.long (i5 ^^^ (6148914691236517205 : Int64))), (.long (0 : Int64))] := V9
  have F10_b1 : own_AL Z h9 b1 .int [(.int c0), (.int c1), (.int c2)] := F8_b1.other W9 (Ne.symm (Ne.symm ne_b1_b5))
  refine own_dup X9 own_d_code_99 rfl ?_
  refine own_ipush X9 own_d_code_100 ?_
  refine own_lload X9 own_d_code_101 rfl ?_
  refine own_lastore X9 V9 ga_b5 (i := 2) ⟨by decide, by decide⟩ (Nat.le_of_ble_eq_true rfl) own_d_code_103 ?_
  intro T11 h11 X11 W11 V11
  replace V11 : own_AL Z h11 b5 .long [(.long i5), (.long (i5 ^^^ (6148914691236517205 : Int64))), (.long (i5 ^^^ (-1 : Int64)))] := V11
  have F12_b1 : own_AL Z h11 b1 .int [(.int c0), (.int c1), (.int c2)] := F10_b1.other W11 (Ne.symm (Ne.symm ne_b1_b5))
  refine own_astore X11 #[.val (.int i0), .val (.int i1), .val (.int i2), .val (.int i3), .val (.long i4), .second, .val (.long i5), .second, .val (.int sv), .val (.int c0), .val (.int c1), .val (.int c2), .val (.long tv), .second, .val (.long i5), .second, .val (.long (i5 ^^^ (6148914691236517205 : Int64))), .second, .val (.long (i5 ^^^ (-1 : Int64))), .second, .val (.ref b1), .val (.ref b5), .unset, .unset, .unset, .unset, .unset, .unset, .unset, .unset, .unset, .unset, .unset, .unset, .unset] own_d_code_104 rfl ?_
  refine own_aload X11 own_d_code_106 rfl ?_
  refine own_aload X11 own_d_code_108 rfl ?_
  refine own_lload X11 own_d_code_110 rfl ?_
  refine own_iload X11 own_d_code_112 rfl ?_
  refine own_callS X11 (y := (⟨"com/example/tierwheel/tierwheel/wheel/Levels", "add", "([I[JJI)V"⟩ : MethodName)) [(.ref b1), (.ref b5), (.long tv), (.int sv)] [] 0 rfl (hw _ (List.mem_of_getElem? (i := 7) rfl)) (hw _ (List.mem_of_getElem? (i := 8) rfl)) (hw _ (List.mem_of_getElem? (i := 9) rfl)) (hw _ (List.mem_of_getElem? (i := 10) rfl)) (by decide) (own_add l Z a0 hw b1 b5 tv sv c0 c1 c2 i5 (i5 ^^^ (6148914691236517205 : Int64)) (i5 ^^^ (-1 : Int64)) h11 n0 X11.sz hs1 (Ne.symm (Ne.symm ne_b1_b5)) F12_b1 V11 ga_b1 ga_b5) own_d_code_114 own_pd___I_JJI_V rfl rfl (by show 2 * 0 + _ ≤ _; exact Nat.le_of_eq rfl) (by decide) (by decide) (by decide) (by decide) ?_
  intro T13 h13 v13 X13 P13
  obtain ⟨r0, r1, r2, u0, u1, u2, rfl, Kc, Ua, Ub, hres⟩ := P13
  have hfin := own_final tv sv c0 c1 c2 _ _ _ r0 r1 r2 u0 u1 u2 S hSi (by omega) (by omega) (by omega) (by omega) (by omega) (by omega) (by omega) (by omega) ht hres
  rw [hq2.1] at hfin
  obtain ⟨x0, x1, x2, x3, x4, x5⟩ := hfin
  show own_Wins p e below A T13 (mkF m 117 #[.val (.int i0), .val (.int i1), .val (.int i2), .val (.int i3), .val (.long i4), .second, .val (.long i5), .second, .val (.int sv), .val (.int c0), .val (.int c1), .val (.int c2), .val (.long tv), .second, .val (.long i5), .second, .val (.long (i5 ^^^ (6148914691236517205 : Int64))), .second, .val (.long (i5 ^^^ (-1 : Int64))), .second, .val (.ref b1), .val (.ref b5), .unset, .unset, .unset, .unset, .unset, .unset, .unset, .unset, .unset, .unset, .unset, .unset, .unset] [])
  refine own_iload X13 own_d_code_117 rfl ?_
  refine own_i2l X13 own_d_code_119 ?_
  refine own_lstore X13 #[.val (.int i0), .val (.int i1), .val (.int i2), .val (.int i3), .val (.long i4), .second, .val (.long i5), .second, .val (.int sv), .val (.int c0), .val (.int c1), .val (.int c2), .val (.long tv), .second, .val (.long i5), .second, .val (.long (i5 ^^^ (6148914691236517205 : Int64))), .second, .val (.long (i5 ^^^ (-1 : Int64))), .second, .val (.ref b1), .val (.ref b5), .val (.long ((sv).toInt64)), .second, .unset, .unset, .unset, .unset, .unset, .unset, .unset, .unset, .unset, .unset, .unset] own_d_code_120 rfl ?_
  refine own_lload X13 own_d_code_122 rfl ?_
  refine own_lload X13 own_d_code_124 rfl ?_
  refine own_lmul X13 own_d_code_126 ?_
  refine own_lstore X13 #[.val (.int i0), .val (.int i1), .val (.int i2), .val (.int i3), .val (.long i4), .second, .val (.long i5), .second, .val (.int sv), .val (.int c0), .val (.int c1), .val (.int c2), .val (.long tv), .second, .val (.long i5), .second, .val (.long (i5 ^^^ (6148914691236517205 : Int64))), .second, .val (.long (i5 ^^^ (-1 : Int64))), .second, .val (.ref b1), .val (.ref b5), .val (.long ((sv).toInt64)), .second, .val (.long (((sv).toInt64) * ((sv).toInt64))), .second, .unset, .unset, .unset, .unset, .unset, .unset, .unset, .unset, .unset] own_d_code_127 rfl ?_
  refine own_lload X13 own_d_code_129 rfl ?_
  refine own_lstore X13 #[.val (.int i0), .val (.int i1), .val (.int i2), .val (.int i3), .val (.long i4), .second, .val (.long i5), .second, .val (.int sv), .val (.int c0), .val (.int c1), .val (.int c2), .val (.long tv), .second, .val (.long i5), .second, .val (.long (i5 ^^^ (6148914691236517205 : Int64))), .second, .val (.long (i5 ^^^ (-1 : Int64))), .second, .val (.ref b1), .val (.ref b5), .val (.long ((sv).toInt64)), .second, .val (.long (((sv).toInt64) * ((sv).toInt64))), .second, .val (.long tv), .second, .unset, .unset, .unset, .unset, .unset, .unset, .unset] own_d_code_131 rfl ?_
  refine own_lload X13 own_d_code_133 rfl ?_
  refine own_lload X13 own_d_code_135 rfl ?_
  refine own_ldiv X13 own_d_code_137 hs1 ?_
  refine own_iload X13 own_d_code_138 rfl ?_
  refine own_i2l X13 own_d_code_140 ?_
  refine own_lload X13 own_d_code_141 rfl ?_
  refine own_lload X13 own_d_code_143 rfl ?_
  refine own_lrem X13 own_d_code_145 hs1 ?_
  refine own_ladd X13 own_d_code_146 ?_
  refine own_lload X13 own_d_code_147 rfl ?_
  refine own_ldiv X13 own_d_code_149 hs1 ?_
  refine own_ladd X13 own_d_code_150 ?_
  refine own_lstore X13 #[.val (.int i0), .val (.int i1), .val (.int i2), .val (.int i3), .val (.long i4), .second, .val (.long i5), .second, .val (.int sv), .val (.int c0), .val (.int c1), .val (.int c2), .val (.long tv), .second, .val (.long i5), .second, .val (.long (i5 ^^^ (6148914691236517205 : Int64))), .second, .val (.long (i5 ^^^ (-1 : Int64))), .second, .val (.ref b1), .val (.ref b5), .val (.long ((sv).toInt64)), .second, .val (.long (((sv).toInt64) * ((sv).toInt64))), .second, .val (.long tv), .second, .val (.long ((tv / ((sv).toInt64)) + ((((c0).toInt64) + (tv % ((sv).toInt64))) / ((sv).toInt64)))), .second, .unset, .unset, .unset, .unset, .unset] own_d_code_151 rfl ?_
  refine own_lload X13 own_d_code_153 rfl ?_
  refine own_lload X13 own_d_code_155 rfl ?_
  refine own_ldiv X13 own_d_code_157 hq2.2 ?_
  refine own_iload X13 own_d_code_158 rfl ?_
  refine own_i2l X13 own_d_code_160 ?_
  refine own_iload X13 own_d_code_161 rfl ?_
  refine own_i2l X13 own_d_code_163 ?_
  refine own_lload X13 own_d_code_164 rfl ?_
  refine own_lmul X13 own_d_code_166 ?_
  refine own_ladd X13 own_d_code_167 ?_
  refine own_lload X13 own_d_code_168 rfl ?_
  refine own_lload X13 own_d_code_170 rfl ?_
  refine own_lrem X13 own_d_code_172 hq2.2 ?_
  refine own_ladd X13 own_d_code_173 ?_
  refine own_lload X13 own_d_code_174 rfl ?_
  refine own_ldiv X13 own_d_code_176 hq2.2 ?_
  refine own_ladd X13 own_d_code_177 ?_
  refine own_lstore X13 #[.val (.int i0), .val (.int i1), .val (.int i2), .val (.int i3), .val (.long i4), .second, .val (.long i5), .second, .val (.int sv), .val (.int c0), .val (.int c1), .val (.int c2), .val (.long tv), .second, .val (.long i5), .second, .val (.long (i5 ^^^ (6148914691236517205 : Int64))), .second, .val (.long (i5 ^^^ (-1 : Int64))), .second, .val (.ref b1), .val (.ref b5), .val (.long ((sv).toInt64)), .second, .val (.long (((sv).toInt64) * ((sv).toInt64))), .second, .val (.long tv), .second, .val (.long ((tv / ((sv).toInt64)) + ((((c0).toInt64) + (tv % ((sv).toInt64))) / ((sv).toInt64)))), .second, .val (.long ((tv / (((sv).toInt64) * ((sv).toInt64))) + (((((c0).toInt64) + (((c1).toInt64) * ((sv).toInt64))) + (tv % (((sv).toInt64) * ((sv).toInt64)))) / (((sv).toInt64) * ((sv).toInt64))))), .second, .unset, .unset, .unset] own_d_code_178 rfl ?_
  refine own_lload X13 own_d_code_180 rfl ?_
  refine own_lload X13 own_d_code_182 rfl ?_
  refine own_lrem X13 own_d_code_184 hs1 ?_
  refine own_iload X13 own_d_code_185 rfl ?_
  refine own_i2l X13 own_d_code_187 ?_
  refine own_ladd X13 own_d_code_188 ?_
  refine own_lload X13 own_d_code_189 rfl ?_
  refine own_lrem X13 own_d_code_191 hs1 ?_
  refine own_l2i X13 own_d_code_192 ?_
  refine own_istore X13 #[.val (.int i0), .val (.int i1), .val (.int i2), .val (.int i3), .val (.long i4), .second, .val (.long i5), .second, .val (.int sv), .val (.int c0), .val (.int c1), .val (.int c2), .val (.long tv), .second, .val (.long i5), .second, .val (.long (i5 ^^^ (6148914691236517205 : Int64))), .second, .val (.long (i5 ^^^ (-1 : Int64))), .second, .val (.ref b1), .val (.ref b5), .val (.long ((sv).toInt64)), .second, .val (.long (((sv).toInt64) * ((sv).toInt64))), .second, .val (.long tv), .second, .val (.long ((tv / ((sv).toInt64)) + ((((c0).toInt64) + (tv % ((sv).toInt64))) / ((sv).toInt64)))), .second, .val (.long ((tv / (((sv).toInt64) * ((sv).toInt64))) + (((((c0).toInt64) + (((c1).toInt64) * ((sv).toInt64))) + (tv % (((sv).toInt64) * ((sv).toInt64)))) / (((sv).toInt64) * ((sv).toInt64))))), .second, .val (.int (((((tv % ((sv).toInt64)) + ((c0).toInt64)) % ((sv).toInt64))).toInt32)), .unset, .unset] own_d_code_193 rfl ?_
  refine own_lload X13 own_d_code_195 rfl ?_
  refine own_lload X13 own_d_code_197 rfl ?_
  refine own_lrem X13 own_d_code_199 hs1 ?_
  refine own_iload X13 own_d_code_200 rfl ?_
  refine own_i2l X13 own_d_code_202 ?_
  refine own_ladd X13 own_d_code_203 ?_
  refine own_lload X13 own_d_code_204 rfl ?_
  refine own_lrem X13 own_d_code_206 hs1 ?_
  refine own_l2i X13 own_d_code_207 ?_
  refine own_istore X13 #[.val (.int i0), .val (.int i1), .val (.int i2), .val (.int i3), .val (.long i4), .second, .val (.long i5), .second, .val (.int sv), .val (.int c0), .val (.int c1), .val (.int c2), .val (.long tv), .second, .val (.long i5), .second, .val (.long (i5 ^^^ (6148914691236517205 : Int64))), .second, .val (.long (i5 ^^^ (-1 : Int64))), .second, .val (.ref b1), .val (.ref b5), .val (.long ((sv).toInt64)), .second, .val (.long (((sv).toInt64) * ((sv).toInt64))), .second, .val (.long tv), .second, .val (.long ((tv / ((sv).toInt64)) + ((((c0).toInt64) + (tv % ((sv).toInt64))) / ((sv).toInt64)))), .second, .val (.long ((tv / (((sv).toInt64) * ((sv).toInt64))) + (((((c0).toInt64) + (((c1).toInt64) * ((sv).toInt64))) + (tv % (((sv).toInt64) * ((sv).toInt64)))) / (((sv).toInt64) * ((sv).toInt64))))), .second, .val (.int (((((tv % ((sv).toInt64)) + ((c0).toInt64)) % ((sv).toInt64))).toInt32)), .val (.int (((((((tv / ((sv).toInt64)) + ((((c0).toInt64) + (tv % ((sv).toInt64))) / ((sv).toInt64))) % ((sv).toInt64)) + ((c1).toInt64)) % ((sv).toInt64))).toInt32)), .unset] own_d_code_208 rfl ?_
  refine own_lload X13 own_d_code_210 rfl ?_
  refine own_lload X13 own_d_code_212 rfl ?_
  refine own_lrem X13 own_d_code_214 hs1 ?_
  refine own_iload X13 own_d_code_215 rfl ?_
  refine own_i2l X13 own_d_code_217 ?_
  refine own_ladd X13 own_d_code_218 ?_
  refine own_lload X13 own_d_code_219 rfl ?_
  refine own_lrem X13 own_d_code_221 hs1 ?_
  refine own_l2i X13 own_d_code_222 ?_
  refine own_istore X13 #[.val (.int i0), .val (.int i1), .val (.int i2), .val (.int i3), .val (.long i4), .second, .val (.long i5), .second, .val (.int sv), .val (.int c0), .val (.int c1), .val (.int c2), .val (.long tv), .second, .val (.long i5), .second, .val (.long (i5 ^^^ (6148914691236517205 : Int64))), .second, .val (.long (i5 ^^^ (-1 : Int64))), .second, .val (.ref b1), .val (.ref b5), .val (.long ((sv).toInt64)), .second, .val (.long (((sv).toInt64) * ((sv).toInt64))), .second, .val (.long tv), .second, .val (.long ((tv / ((sv).toInt64)) + ((((c0).toInt64) + (tv % ((sv).toInt64))) / ((sv).toInt64)))), .second, .val (.long ((tv / (((sv).toInt64) * ((sv).toInt64))) + (((((c0).toInt64) + (((c1).toInt64) * ((sv).toInt64))) + (tv % (((sv).toInt64) * ((sv).toInt64)))) / (((sv).toInt64) * ((sv).toInt64))))), .second, .val (.int (((((tv % ((sv).toInt64)) + ((c0).toInt64)) % ((sv).toInt64))).toInt32)), .val (.int (((((((tv / ((sv).toInt64)) + ((((c0).toInt64) + (tv % ((sv).toInt64))) / ((sv).toInt64))) % ((sv).toInt64)) + ((c1).toInt64)) % ((sv).toInt64))).toInt32)), .val (.int (((((((tv / (((sv).toInt64) * ((sv).toInt64))) + (((((c0).toInt64) + (((c1).toInt64) * ((sv).toInt64))) + (tv % (((sv).toInt64) * ((sv).toInt64)))) / (((sv).toInt64) * ((sv).toInt64)))) % ((sv).toInt64)) + ((c2).toInt64)) % ((sv).toInt64))).toInt32))] own_d_code_223 rfl ?_
  refine own_aload X13 own_d_code_225 rfl ?_
  refine own_alen X13 Ua own_d_code_227 ?_
  show own_Wins p e below A T13 (mkF m 228 #[.val (.int i0), .val (.int i1), .val (.int i2), .val (.int i3), .val (.long i4), .second, .val (.long i5), .second, .val (.int sv), .val (.int c0), .val (.int c1), .val (.int c2), .val (.long tv), .second, .val (.long i5), .second, .val (.long (i5 ^^^ (6148914691236517205 : Int64))), .second, .val (.long (i5 ^^^ (-1 : Int64))), .second, .val (.ref b1), .val (.ref b5), .val (.long ((sv).toInt64)), .second, .val (.long (((sv).toInt64) * ((sv).toInt64))), .second, .val (.long tv), .second, .val (.long ((tv / ((sv).toInt64)) + ((((c0).toInt64) + (tv % ((sv).toInt64))) / ((sv).toInt64)))), .second, .val (.long ((tv / (((sv).toInt64) * ((sv).toInt64))) + (((((c0).toInt64) + (((c1).toInt64) * ((sv).toInt64))) + (tv % (((sv).toInt64) * ((sv).toInt64)))) / (((sv).toInt64) * ((sv).toInt64))))), .second, .val (.int (((((tv % ((sv).toInt64)) + ((c0).toInt64)) % ((sv).toInt64))).toInt32)), .val (.int (((((((tv / ((sv).toInt64)) + ((((c0).toInt64) + (tv % ((sv).toInt64))) / ((sv).toInt64))) % ((sv).toInt64)) + ((c1).toInt64)) % ((sv).toInt64))).toInt32)), .val (.int (((((((tv / (((sv).toInt64) * ((sv).toInt64))) + (((((c0).toInt64) + (((c1).toInt64) * ((sv).toInt64))) + (tv % (((sv).toInt64) * ((sv).toInt64)))) / (((sv).toInt64) * ((sv).toInt64)))) % ((sv).toInt64)) + ((c2).toInt64)) % ((sv).toInt64))).toInt32))] [(.int (3 : Int32))])
  refine own_ipush X13 own_d_code_228 ?_
  refine own_icNo X13 own_d_code_229 (teq rfl).2 ?_
  refine own_aload X13 own_d_code_232 rfl ?_
  refine own_alen X13 Ub own_d_code_234 ?_
  show own_Wins p e below A T13 (mkF m 235 #[.val (.int i0), .val (.int i1), .val (.int i2), .val (.int i3), .val (.long i4), .second, .val (.long i5), .second, .val (.int sv), .val (.int c0), .val (.int c1), .val (.int c2), .val (.long tv), .second, .val (.long i5), .second, .val (.long (i5 ^^^ (6148914691236517205 : Int64))), .second, .val (.long (i5 ^^^ (-1 : Int64))), .second, .val (.ref b1), .val (.ref b5), .val (.long ((sv).toInt64)), .second, .val (.long (((sv).toInt64) * ((sv).toInt64))), .second, .val (.long tv), .second, .val (.long ((tv / ((sv).toInt64)) + ((((c0).toInt64) + (tv % ((sv).toInt64))) / ((sv).toInt64)))), .second, .val (.long ((tv / (((sv).toInt64) * ((sv).toInt64))) + (((((c0).toInt64) + (((c1).toInt64) * ((sv).toInt64))) + (tv % (((sv).toInt64) * ((sv).toInt64)))) / (((sv).toInt64) * ((sv).toInt64))))), .second, .val (.int (((((tv % ((sv).toInt64)) + ((c0).toInt64)) % ((sv).toInt64))).toInt32)), .val (.int (((((((tv / ((sv).toInt64)) + ((((c0).toInt64) + (tv % ((sv).toInt64))) / ((sv).toInt64))) % ((sv).toInt64)) + ((c1).toInt64)) % ((sv).toInt64))).toInt32)), .val (.int (((((((tv / (((sv).toInt64) * ((sv).toInt64))) + (((((c0).toInt64) + (((c1).toInt64) * ((sv).toInt64))) + (tv % (((sv).toInt64) * ((sv).toInt64)))) / (((sv).toInt64) * ((sv).toInt64)))) % ((sv).toInt64)) + ((c2).toInt64)) % ((sv).toInt64))).toInt32))] [(.int (3 : Int32))])
  refine own_ipush X13 own_d_code_235 ?_
  refine own_icNo X13 own_d_code_236 (teq rfl).2 ?_
  refine own_aload X13 own_d_code_239 rfl ?_
  refine own_ipush X13 own_d_code_241 ?_
  refine own_iaload X13 Ua (i := 0) ⟨by decide, by decide⟩ rfl own_d_code_242 ?_
  refine own_iload X13 own_d_code_243 rfl ?_
  refine own_icNo X13 own_d_code_245 (teq x0).2 ?_
  refine own_aload X13 own_d_code_248 rfl ?_
  refine own_ipush X13 own_d_code_250 ?_
  refine own_iaload X13 Ua (i := 1) ⟨by decide, by decide⟩ rfl own_d_code_251 ?_
  refine own_iload X13 own_d_code_252 rfl ?_
  refine own_icNo X13 own_d_code_254 (teq x1).2 ?_
  refine own_aload X13 own_d_code_257 rfl ?_
  refine own_ipush X13 own_d_code_259 ?_
  refine own_iaload X13 Ua (i := 2) ⟨by decide, by decide⟩ rfl own_d_code_260 ?_
  refine own_iload X13 own_d_code_261 rfl ?_
  refine own_icNo X13 own_d_code_263 (teq x2).2 ?_
  refine own_aload X13 own_d_code_266 rfl ?_
  refine own_ipush X13 own_d_code_268 ?_
  refine own_laload X13 Ub (i := 0) ⟨by decide, by decide⟩ rfl own_d_code_269 ?_
  refine own_lload X13 own_d_code_270 rfl ?_
  refine own_lload X13 own_d_code_272 rfl ?_
  refine own_ladd X13 own_d_code_274 ?_
  refine own_lcmp X13 own_d_code_275 ?_
  refine own_ifNo X13 own_d_code_276 ((if0 _ _).trans (teq ((lw_eq u0 (i5 + tv)).2 x3)).2) ?_
  refine own_aload X13 own_d_code_279 rfl ?_
  refine own_ipush X13 own_d_code_281 ?_
  refine own_laload X13 Ub (i := 1) ⟨by decide, by decide⟩ rfl own_d_code_282 ?_
  refine own_lload X13 own_d_code_283 rfl ?_
  refine own_lload X13 own_d_code_285 rfl ?_
  refine own_ladd X13 own_d_code_287 ?_
  refine own_lcmp X13 own_d_code_288 ?_
  refine own_ifNo X13 own_d_code_289 ((if0 _ _).trans (teq ((lw_eq u1 ((i5 ^^^ (6148914691236517205 : Int64)) + ((tv / ((sv).toInt64)) + ((((c0).toInt64) + (tv % ((sv).toInt64))) / ((sv).toInt64))))).2 x4)).2) ?_
  refine own_aload X13 own_d_code_292 rfl ?_
  refine own_ipush X13 own_d_code_294 ?_
  refine own_laload X13 Ub (i := 2) ⟨by decide, by decide⟩ rfl own_d_code_295 ?_
  refine own_lload X13 own_d_code_296 rfl ?_
  refine own_lload X13 own_d_code_298 rfl ?_
  refine own_ladd X13 own_d_code_300 ?_
  refine own_lcmp X13 own_d_code_301 ?_
  refine own_ifNo X13 own_d_code_302 ((if0 _ _).trans (teq ((lw_eq u2 ((i5 ^^^ (-1 : Int64)) + ((tv / (((sv).toInt64) * ((sv).toInt64))) + (((((c0).toInt64) + (((c1).toInt64) * ((sv).toInt64))) + (tv % (((sv).toInt64) * ((sv).toInt64)))) / (((sv).toInt64) * ((sv).toInt64)))))).2 x5)).2) ?_
  refine own_ipush X13 own_d_code_305 ?_
  refine own_goto X13 own_d_code_306 ?_
  exact own_retZ X13 hret rfl fin (by decide) (by decide) rfl own_d_code_310
set_option maxRecDepth 65536 in
set_option maxHeartbeats 40000000 in
theorem own_comes {Post : Tables → Env → Array Value → State → Outcome → State → Prop} (hpost : ∀ tb e args s v u, (limb_1_1.after args s (.returned v) u = true ∧ limb_1_2.after args s (.returned v) u = true) → FrameEnd s (.returned v) u (Jvm.fieldLocs frame_1_writes args s ++ Jvm.arrayLocs frame_1_arrays args s ++ Jvm.staticLocs frame_1_statics s) 16 128 → Post tb e args s (.returned v) u) :
    ArmFor flags0 classFile x code maxLocals ret World_1 tables_1 room_1 Calls_1 rest_1 Pre_1 Post := by
  intro l hfl _ _ p e ha hc hk s m args below hf hA hF happ hP
  obtain ⟨hcalls, hrest, hpre⟩ := hP
  obtain ⟨-, -, -, hnamed, -, -, -, hat⟩ := (Spec.applies_iff hf).mp happ
  obtain ⟨hg, hn⟩ := and_e (Cond.before_iff.mp (show (Jvm.Cond.and given_1 narrow_1).before args s = true from hpre))
  obtain ⟨gc, g0⟩ := and_e hg
  obtain ⟨q0, g1⟩ := and_e g0
  obtain ⟨q1, g2⟩ := and_e g1
  obtain ⟨q2, g3⟩ := and_e g2
  obtain ⟨q3, g4⟩ := and_e g3
  obtain ⟨q4, g5⟩ := and_e g4
  obtain ⟨w0, w1, w2, w3, w4, w5, rfl⟩ : ∃ w0 w1 w2 w3 w4 w5 : Value, args = #[w0, w1, w2, w3, w4, w5] := by
    have hs : args.size = 6 := by simpa [Cond.value, given_1] using gc
    obtain ⟨L⟩ := args
    match L, hs with
    | [w0, w1, w2, w3, w4, w5], _ => exact ⟨w0, w1, w2, w3, w4, w5, rfl⟩
  have hw := fun d (hd : d ∈ tables_1) => atoms_spec (ws := Jvm.Cond.code x code maxLocals ret :: tables_1) hat d (List.mem_cons_of_mem _ hd)
  obtain ⟨i0, ei0⟩ := is_v q0
  obtain rfl : w0 = (.int i0) := Option.some.inj ei0
  obtain ⟨i1, ei1⟩ := is_v q1
  obtain rfl : w1 = (.int i1) := Option.some.inj ei1
  obtain ⟨i2, ei2⟩ := is_v q2
  obtain rfl : w2 = (.int i2) := Option.some.inj ei2
  obtain ⟨i3, ei3⟩ := is_v q3
  obtain rfl : w3 = (.int i3) := Option.some.inj ei3
  obtain ⟨i4, ei4⟩ := isL_v q4
  obtain rfl : w4 = (.long i4) := Option.some.inj ei4
  obtain ⟨i5, ei5⟩ := isL_v g5
  obtain rfl : w5 = (.long i5) := Option.some.inj ei5
  obtain ⟨n, o, h1, h2, h3, _, L, rfl, ⟨N, -, rfl⟩, hq⟩ := own_law l s _ hw i0 i1 i2 i3 i4 i5 s.heap s.heap.size (Nat.le_refl _) p e ha hc hk s m _ below hf ((Spec.applies_iff_loose hf).mp happ).1 ⟨rfl, State.Warmed39.refl s, rfl⟩ trivial
  refine ⟨n, _, h1, h2, h3, hpost _ _ _ _ _ _ ⟨Cond.after_iff.mpr rfl, Cond.after_iff.mpr (eq_i res_at (Term.int_eval (1)) rfl)⟩ ⟨hq.1, hq.2.1, (hq.2.2.sift fun y hy => Or.inr (N y hy)).mono (by decide) (by decide)⟩⟩
theorem main_1_1 : Claimed_1_1 := own_comes fun _ _ _ _ _ _ h hF => ⟨h.1, hF⟩
theorem main_1_2 : Claimed_1_2 := own_comes fun _ _ _ _ _ _ h hF => ⟨h.2, hF⟩
end Jvm.Pilot.@@N@@
namespace Jvm.Pilot.@@N@@
open Jvm Jvm.ClassFile Sem Op Lib Jvm.Free Jvm.Stand Jvm.Pilot.@@N@@.Jvm.D
/-! MADE BY PROGRAM (witnessworld.py) out of the Statement's table words and the real class files: 11 classes; the members and pool entries that the words name. The judged class is class 1, her method 1. -/
namespace start1
open Jvm.ClassFile
def u (s : String) : CpInfo := .utf8 (stringToUtf16 s)
/-- a pool by its gaps: so many unusable entries, then the entry; so many at the end -/
def gap : Nat → List CpInfo → List CpInfo
  | 0, r => r
  | n + 1, r => .unusable :: gap n r
def poolList (es : List (Nat × CpInfo)) (last : Nat) : List CpInfo := es.foldr (fun e r => gap e.1 (e.2 :: r)) (gap last [])
def pool (es : List (Nat × CpInfo)) (last : Nat) : Array CpInfo := ⟨poolList es last⟩
def fileOf (pool : Array CpInfo) (this : Nat) (attrs : Array Attribute := #[]) (ms : Array MethodInfo := #[]) (fl : Nat := 33) (sup : Nat := 0) (ifs : Array Nat := #[]) (fds : Array FieldInfo := #[]) : ClassFile where
  minorVersion := 0
  majorVersion := 65
  constantPool := pool
  accessFlags := fl
  thisClass := this
  superClass := sup
  interfaces := ifs
  fields := fds
  methods := ms
  attributes := attrs
def plain (name : String) (sup : Option ClassId) : Class where
  name := name
  kind := .ordinary
  loader := none
  accessFlags := 33
  super := sup
  interfaces := #[]
  cf := none
  fields := #[]
  methods := #[]
  instanceTypes := #[]
  staticTypes := #[]
  resolved := #[]
  callSites := []
  init := .initialized
  statics := none
  mirror := none

def pool0 : Array CpInfo := pool [(5, u "<init>"), (0, u "()V"), (1, .class_ 10), (1, u "java/lang/Object")] 113

def k0m0 : Method := { name := "<init>", desc := "()V", sig := { parameters := [], returnType := none }, accessFlags := 1, code := none }
/-- java/lang/Object -/
def k0 : Class := { plain "java/lang/Object" none with
  accessFlags := 33
  interfaces := #[]
  cf := some (fileOf pool0 8 #[] #[{ accessFlags := 1, nameIndex := 5, descriptorIndex := 6, attributes := #[] }] 33 0 #[] #[])
  fields := #[]
  methods := #[k0m0]
  instanceTypes := #[]
  staticTypes := #[]
  resolved := Array.replicate 124 none
  statics := none }

def pool1 : Array CpInfo := pool [(2, .class_ 4), (1, u "java/lang/Object"), (0, u "<init>"), (0, u "()V"), (0, .integer 2147483647), (0, .integer 65535), (2, .long 9223372036854775807), (1, .long 6148914691236517205), (1, .long 18446744073709551615), (1, .methodref 18 19), (0, .class_ 20), (0, .nameAndType 21 22), (0, u "com/example/tierwheel/tierwheel/wheel/Levels"), (0, u "add"), (0, u "([I[JJI)V"), (0, .class_ 24), (0, u "com/example/tierwheel/tierwheel/wheel/LevelsAddPinLaw"), (2, u "law"), (0, u "(IIIIJJ)Z")] 7

def k1m0 : Method := { name := "<init>", desc := "()V", sig := { parameters := [], returnType := none }, accessFlags := 1, code := none }
def k1c1 : Code := { maxStack := 8, maxLocals := 35, code := code, exceptionTable := #[], attributes := #[] }
def k1m1 : Method := { name := "law", desc := "(IIIIJJ)Z", sig := { parameters := [.int, .int, .int, .int, .long, .long], returnType := some .boolean }, accessFlags := 9, code := some k1c1 }
/-- com/example/tierwheel/tierwheel/wheel/LevelsAddPinLaw -/
def k1 : Class := { plain "com/example/tierwheel/tierwheel/wheel/LevelsAddPinLaw" (some 0) with
  accessFlags := 49
  interfaces := #[]
  cf := some (fileOf pool1 23 #[] #[{ accessFlags := 1, nameIndex := 5, descriptorIndex := 6, attributes := #[] }, { accessFlags := 9, nameIndex := 27, descriptorIndex := 28, attributes := #[] }] 49 2 #[] #[])
  fields := #[]
  methods := #[k1m0, k1m1]
  instanceTypes := #[]
  staticTypes := #[]
  resolved := Array.replicate 36 none
  statics := none }

def pool2 : Array CpInfo := pool [(1, .class_ 2), (0, u "com/example/tierwheel/tierwheel/wheel/Levels"), (1, .class_ 6), (1, u "java/lang/Object"), (0, u "<init>"), (0, u "()V"), (43, u "MIN_SLOTS_PER_LEVEL"), (0, u "I"), (2, u "MAX_SLOTS_PER_LEVEL"), (0, u "SLOT_BITS"), (1, u "SLOT_MASK"), (10, u "add"), (0, u "([I[JJI)V")] 17

def k2m0 : Method := { name := "<init>", desc := "()V", sig := { parameters := [], returnType := none }, accessFlags := 2, code := none }
def k2c1 : Code := { maxStack := 6, maxLocals := 10, code := prog_15_method_9_code, exceptionTable := #[], attributes := #[] }
def k2m1 : Method := { name := "add", desc := "([I[JJI)V", sig := { parameters := [(.array .int), (.array .long), .long, .int], returnType := none }, accessFlags := 8, code := some k2c1 }
/-- com/example/tierwheel/tierwheel/wheel/Levels -/
def k2 : Class := { plain "com/example/tierwheel/tierwheel/wheel/Levels" (some 0) with
  accessFlags := 48
  interfaces := #[]
  cf := some (fileOf pool2 1 #[] #[{ accessFlags := 2, nameIndex := 7, descriptorIndex := 8, attributes := #[] }, { accessFlags := 8, nameIndex := 70, descriptorIndex := 71, attributes := #[] }] 48 4 #[] #[{ accessFlags := 24, nameIndex := 52, descriptorIndex := 53, attributes := #[] }, { accessFlags := 24, nameIndex := 56, descriptorIndex := 53, attributes := #[] }, { accessFlags := 26, nameIndex := 57, descriptorIndex := 53, attributes := #[] }, { accessFlags := 26, nameIndex := 59, descriptorIndex := 53, attributes := #[] }])
  fields := #[{ name := "MIN_SLOTS_PER_LEVEL", type := .int, accessFlags := 24, slot := 0, constantValue := 0 }, { name := "MAX_SLOTS_PER_LEVEL", type := .int, accessFlags := 24, slot := 1, constantValue := 0 }, { name := "SLOT_BITS", type := .int, accessFlags := 26, slot := 2, constantValue := 0 }, { name := "SLOT_MASK", type := .int, accessFlags := 26, slot := 3, constantValue := 0 }]
  methods := #[k2m0, k2m1]
  instanceTypes := #[]
  staticTypes := #[.int, .int, .int, .int]
  resolved := Array.replicate 89 none
  statics := none }

def pool3 : Array CpInfo := pool [(1, u "java/lang/Cloneable"), (0, .class_ 1), (0, u "java/lang/Object"), (0, .class_ 3)] 3

/-- java/lang/Cloneable -/
def k3 : Class := { plain "java/lang/Cloneable" (some 0) with
  accessFlags := 1537
  interfaces := #[]
  cf := some (fileOf pool3 2 #[] #[] 1537 4 #[] #[])
  fields := #[]
  methods := #[]
  instanceTypes := #[]
  staticTypes := #[]
  resolved := Array.replicate 8 none
  statics := none }

def pool4 : Array CpInfo := pool [(1, u "java/io/Serializable"), (0, .class_ 1), (0, u "java/lang/Object"), (0, .class_ 3)] 3

/-- java/io/Serializable -/
def k4 : Class := { plain "java/io/Serializable" (some 0) with
  accessFlags := 1537
  interfaces := #[]
  cf := some (fileOf pool4 2 #[] #[] 1537 4 #[] #[])
  fields := #[]
  methods := #[]
  instanceTypes := #[]
  staticTypes := #[]
  resolved := Array.replicate 8 none
  statics := none }

/-- the primitive byte -/
def k5 : Class := { plain "byte" none with kind := .primitive 'B', accessFlags := 0x411 }
/-- [B -/
def k6 : Class := { plain "[B" (some 0) with kind := .array 5 .byte, interfaces := #[3, 4], accessFlags := 1041 }

/-- the primitive int -/
def k7 : Class := { plain "int" none with kind := .primitive 'I', accessFlags := 0x411 }
/-- [I -/
def k8 : Class := { plain "[I" (some 0) with kind := .array 7 .int, interfaces := #[3, 4], accessFlags := 1041 }

/-- the primitive long -/
def k9 : Class := { plain "long" none with kind := .primitive 'J', accessFlags := 0x411 }
/-- [J -/
def k10 : Class := { plain "[J" (some 0) with kind := .array 9 .long, interfaces := #[3, 4], accessFlags := 1041 }

def heap : Heap := #[]
def classes : Array Class := #[k0, k1, k2, k3, k4, k5, k6, k7, k8, k9, k10]
def interned : List (Array UInt16 × Addr) := []
def slotsUsed : Nat := 0
def theMethod : MethodId := ⟨1, 1⟩
def args0 : Array Value := #[.int 5, .int 6, .int 7, .int 8, .long 9, .long 10]
def aboutOver (below : List Frame) : State where
  vm := { classes := classes, interned := interned.toArray }
  heap := heap
  slotsUsed := slotsUsed
  threads := #[{ frames := .invoking theMethod args0 :: below }]
def below0 : List Frame := [.native { method := ⟨0, 0⟩, args := #[] }]
def about1 : State := aboutOver below0
def p0 : Program := .bare "" "" ""
def e0 : Env := launch0.env 0 0 0
theorem w_frames : about1.frames = Frame.invoking theMethod args0 :: below0 := rfl
set_option maxRecDepth 65536 in
theorem w_args : argsFit about1.vm theMethod args0 = true := by decide +kernel
set_option maxRecDepth 65536 in
theorem w_heap : heapFits about1 = true := by decide +kernel
set_option maxRecDepth 65536 in
theorem w_runnable : about1.curStatus? = some .runnable := by decide +kernel
set_option maxRecDepth 65536 in
theorem w_alone : about1.alone = true := by decide +kernel
set_option maxRecDepth 65536 in
theorem w_named : about1.methodNamed? x = some theMethod := by decide +kernel
set_option maxRecDepth 65536 in
theorem w_hears : about1.hears theMethod below0 = true := by decide +kernel
set_option maxRecDepth 65536 in
theorem w_ripe : about1.ripe theMethod args0 below0 = true := by decide +kernel
theorem w_running : about1.status = .running := rfl
set_option maxRecDepth 65536 in
theorem w_room : about1.hasRoom e0.platform room_1 = true :=
  launch0.hasRoom_least _ room_1 (by decide +kernel) (by decide +kernel) (by decide +kernel) (by decide +kernel) (by decide +kernel) (by decide +kernel)
theorem allAtoms_all (ts : List Jvm.Cond) (a : Array Jvm.Value) (st : Jvm.State) : (allAtoms ts).before a st = ts.all (fun c => c.before a st) := by
  induction ts with
  | nil => rfl
  | cons c t ih =>
    show (Jvm.Cond.and c (allAtoms t)).before a st = _
    rw [Jvm.Cond.before_and, ih, List.all_cons]
def words1 : List Jvm.Cond := Jvm.Cond.code x code maxLocals ret :: tables_1
/-- a 'code' word, met by the world's own term for the bytes: nothing is compared byte by byte -/
theorem code_word {y : MethodName} {bytes : ByteArray} {mx : Nat} {rt : Option FieldType} {a : Array Value} {s : State} {m : MethodId} {meth : Method} {c : Code} (h1 : s.methodNamed? y = some m) (h2 : s.vm.method? m = some meth) (h3 : meth.code = some c) (h4 : c.code = bytes)
    (h5 : (c.maxLocals == mx && c.exceptionTable.isEmpty && decide (c.maxStack ≤ mostOperands) && decide (meth.sig.returnType = rt) && !meth.locks && decide (parseMethodDescriptor y.desc = some meth.sig)) = true) : (Jvm.Cond.code y bytes mx rt).before a s = true := by
  simp only [Bool.and_eq_true, beq_iff_eq, Bool.not_eq_true', decide_eq_true_eq] at h5
  obtain ⟨⟨⟨⟨⟨g1, g2⟩, g3⟩, g4⟩, g5⟩, g6⟩ := h5
  simp [Cond.before, Cond.holds, Cond.value, h1, h2, h3, h4, g1, g2, g3, g4, g5, g6]
def isCode : Jvm.Cond → Bool
  | .code _ _ _ _ => true
  | _ => false
theorem all_split {L : List Jvm.Cond} {P : Jvm.Cond → Bool} (h1 : L.all (fun c => isCode c || P c) = true) (h2 : ∀ c ∈ L.filter isCode, P c = true) : L.all P = true := by
  refine List.all_eq_true.mpr fun c hc => ?_
  have h := List.all_eq_true.mp h1 c hc
  rcases Bool.eq_false_or_eq_true (isCode c) with hi | hi
  · exact h2 c (List.mem_filter.mpr ⟨hc, hi⟩)
  · simpa [hi] using h
set_option maxRecDepth 65536 in
theorem w_c0 : (Jvm.Cond.code x code maxLocals ret).before args0 about1 = true := code_word (m := ⟨1, 1⟩) (meth := k1m1) (c := k1c1) (by decide +kernel) rfl rfl rfl (by decide +kernel)
set_option maxRecDepth 65536 in
theorem w_c1 : (Jvm.Cond.code ({ cls := "com/example/tierwheel/tierwheel/wheel/Levels", name := "add", desc := "([I[JJI)V" } : Jvm.MethodName) prog_15_method_9_code (10 : Nat) (Option.none : Option Jvm.ClassFile.FieldType)).before args0 about1 = true := code_word (m := ⟨2, 1⟩) (meth := k2m1) (c := k2c1) (by decide +kernel) rfl rfl rfl (by decide +kernel)
def codes1 : List Jvm.Cond := [Jvm.Cond.code x code maxLocals ret, Jvm.Cond.code ({ cls := "com/example/tierwheel/tierwheel/wheel/Levels", name := "add", desc := "([I[JJI)V" } : Jvm.MethodName) prog_15_method_9_code (10 : Nat) (Option.none : Option Jvm.ClassFile.FieldType)]
set_option maxRecDepth 65536 in
theorem codes_eq : words1.filter isCode = codes1 := rfl
theorem w_codes : ∀ c ∈ words1.filter isCode, c.before args0 about1 = true := by
  rw [codes_eq]
  intro c hc
  simp only [codes1, List.mem_cons, List.not_mem_nil, or_false] at hc
  rcases hc with rfl | rfl
  · exact w_c0
  · exact w_c1
set_option maxRecDepth 65536 in
theorem w_t1 : words1.all (fun c => isCode c || c.before args0 about1) = true := by decide +kernel
theorem w_tables : (allAtoms (Jvm.Cond.code x code maxLocals ret :: tables_1)).before args0 about1 = true := by
  rw [allAtoms_all]
  show words1.all (fun c => c.before args0 about1) = true
  refine all_split ?_ w_codes
  rw [w_t1]
set_option maxRecDepth 65536 in
theorem w_case : (Jvm.Cond.and given_1 narrow_1).before args0 about1 = true := by decide +kernel
theorem w_applies : (headSpec (Jvm.Cond.code x code maxLocals ret :: tables_1) room_1).applies x e0.platform about1 = true :=
  (Spec.applies_iff w_frames).mpr ⟨w_running, w_runnable, w_alone, w_named, w_hears, w_ripe, w_room, w_tables⟩
theorem atStart : AtStart classFile x code maxLocals ret World_1 tables_1 room_1 Calls_1 rest_1 Pre_1 launch0 p0 e0 about1 theMethod args0 below0 :=
  ⟨lists_1, trivial, launch0.admits_env _ _ _, launch0.least_env, fairChoices_fair.cas, fairChoices_fair.clock, w_frames, w_args, w_heap, w_applies, trivial, trivial, w_case⟩
end start1
theorem witness_1 : WitnessClaimed_1 := ⟨start1.p0, start1.e0, start1.about1, start1.theMethod, start1.args0, start1.below0, start1.atStart⟩
end Jvm.Pilot.@@N@@
