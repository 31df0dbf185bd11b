import JvmDerived
import JvmDerived.Pilot.@@N@@Statement
import JvmDerived.Pilot.@@N@@Code
set_option linter.unusedVariables false
set_option linter.unusedSimpArgs false
namespace Jvm.Pilot.@@N@@
open Jvm Jvm.ClassFile Sem Op Lib Jvm.Free Jvm.Stand Jvm.LawKit Jvm.RoadKit Bundle Jvm.Pilot.@@N@@.Jvm.D
section OwnLayer
variable {p : Program} {l : Launch} {e : Env} {R : Room} {s : State} {m : MethodId} {args : Array Value} {below : List Frame} {meth : Method} {c : Code} {T : State} {cells slots : Nat} {Z : State} {a0 : Array Value} {h h' : Heap} {n0 : Nat} {A : State → Outcome → Prop} {bs : ByteArray} {maxL : Nat} {own : String} {pc pc' : Nat} {L L' : Array Slot} {st : List Value}
/-- the run that stands over T with the frame f comes to an end that A allows -/
def own_Wins (p : Program) (e : Env) (below : List Frame) (A : State → Outcome → Prop) (T : State) (f : JFrame) : Prop := ∃ U o, Steps p.tables e below (T.setTop f) U ∧ A U o
theorem own_by {T' : State} {f f' : JFrame} (q : ∀ target, Steps p.tables e below (T'.setTop f') target → Steps p.tables e below (T.setTop f) target) (k : own_Wins p e below A T' f') : own_Wins p e below A T f := by
  obtain ⟨U, o, h1, h2⟩ := k
  exact ⟨U, o, q _ h1, h2⟩
/-- where the walk stands: the kit's Stand, the heap, what was written is new, and what the walk knows of the body -/
def own_St (p : Program) (l : Launch) (e : Env) (R : Room) (s : State) (m : MethodId) (args : Array Value) (below : List Frame) (meth : Method) (c : Code) (Z : State) (n0 : Nat) (bs : ByteArray) (maxL : Nat) (own : String) (T : State) (h : Heap) (cells slots : Nat) : Prop :=
  ∃ locs, Stand p l e R s m args below meth c T locs cells slots ∧ T.heap = h ∧ Fr n0 locs ∧ n0 ≤ h.size ∧ p.tables.exec = Jvm.exec ∧ c.code = bs ∧ c.maxLocals = maxL ∧ s.vm.findClass own = some m.cls ∧ Z.Warmed39 s.vm ∧ meth.locks = false
theorem own_St.here (X : own_St p l e R s m args below meth c Z n0 bs maxL own T h cells slots) : At T m c below := by obtain ⟨_, Y, -⟩ := X; exact Y.here
theorem own_St.ex (X : own_St p l e R s m args below meth c Z n0 bs maxL own T h cells slots) : p.tables.exec = Jvm.exec := by obtain ⟨_, -, -, -, -, q, -⟩ := X; exact q
theorem own_St.cd (X : own_St p l e R s m args below meth c Z n0 bs maxL own T h cells slots) : c.code = bs := by obtain ⟨_, -, -, -, -, -, q, -⟩ := X; exact q
theorem own_St.ml (X : own_St p l e R s m args below meth c Z n0 bs maxL own T h cells slots) : c.maxLocals = maxL := by obtain ⟨_, -, -, -, -, -, -, q, -⟩ := X; exact q
theorem own_St.sz (X : own_St p l e R s m args below meth c Z n0 bs maxL own T h cells slots) : n0 ≤ h.size := by obtain ⟨_, -, -, -, q, -⟩ := X; exact q
theorem own_St.wz (X : own_St p l e R s m args below meth c Z n0 bs maxL own T h cells slots) : Z.Warmed39 s.vm := by obtain ⟨_, -, -, -, -, -, -, -, -, q, -⟩ := X; exact q
theorem own_St.more (X : own_St p l e R s m args below meth c Z n0 bs maxL own T h cells slots) {cells' slots' : Nat} (hc : cells ≤ cells') (hs : slots ≤ slots') : own_St p l e R s m args below meth c Z n0 bs maxL own T h cells' slots' := by
  obtain ⟨locs, Y, r⟩ := X
  exact ⟨locs, Y.more hc hs, r⟩
/-- an instruction, with the pc behind it -/
def own_ix (bs : ByteArray) (pc : Nat) (i : Instr) (n pc' : Nat) : Prop := decode bs pc = .ok (i, n) ∧ pc + n = pc'
def own_ik (bs : ByteArray) (pc : Nat) (v : Int32) (pc' : Nat) : Prop := ∃ i : Int, (decode bs pc = .ok (.iconst i, 1) ∧ Int32.ofInt i = v ∧ pc + 1 = pc') ∨ (decode bs pc = .ok (.bipush i, 2) ∧ (Int8.ofInt i).toInt32 = v ∧ pc + 2 = pc') ∨ (decode bs pc = .ok (.sipush i, 3) ∧ (Int16.ofInt i).toInt32 = v ∧ pc + 3 = pc')
def own_lk (bs : ByteArray) (pc : Nat) (v : Int64) (pc' : Nat) : Prop := ∃ k : Fin 2, decode bs pc = .ok (.lconst k, 1) ∧ Int64.ofNat k = v ∧ pc + 1 = pc'
def own_ii (bs : ByteArray) (pc : Nat) (k : Nat) (w : Int32) (pc' : Nat) : Prop := ∃ cst : Int, decode bs pc = .ok (.iinc k cst, 3) ∧ Int32.ofInt cst = w ∧ pc + 3 = pc'
def own_gt (bs : ByteArray) (pc tgt : Nat) : Prop := ∃ o : Int, decode bs pc = .ok (.goto o, 3) ∧ 0 ≤ (pc : Int) + o ∧ ((pc : Int) + o).toNat = tgt
def own_ifc (bs : ByteArray) (pc : Nat) (cd : ClassFile.Cond) (pc' tgt : Nat) : Prop := ∃ o : Int, decode bs pc = .ok (.ifCond cd o, 3) ∧ pc + 3 = pc' ∧ 0 ≤ (pc : Int) + o ∧ ((pc : Int) + o).toNat = tgt
def own_icm (bs : ByteArray) (pc : Nat) (cd : ClassFile.Cond) (pc' tgt : Nat) : Prop := ∃ o : Int, decode bs pc = .ok (.if_icmp cd o, 3) ∧ pc + 3 = pc' ∧ 0 ≤ (pc : Int) + o ∧ ((pc : Int) + o).toNat = tgt
def own_inl (bs : ByteArray) (pc : Nat) (pc' tgt : Nat) : Prop := ∃ o : Int, decode bs pc = .ok (.ifnull o, 3) ∧ pc + 3 = pc' ∧ 0 ≤ (pc : Int) + o ∧ ((pc : Int) + o).toNat = tgt
def own_inn (bs : ByteArray) (pc : Nat) (pc' tgt : Nat) : Prop := ∃ o : Int, decode bs pc = .ok (.ifnonnull o, 3) ∧ pc + 3 = pc' ∧ 0 ≤ (pc : Int) + o ∧ ((pc : Int) + o).toNat = tgt
def own_il (bs : ByteArray) (pc k pc' : Nat) : Prop := (∃ q : Fin 4, decode bs pc = .ok (.iload_n q, 1) ∧ q.val = k ∧ pc + 1 = pc') ∨ (decode bs pc = .ok (.iload k, 2) ∧ pc + 2 = pc')
def own_ll (bs : ByteArray) (pc k pc' : Nat) : Prop := (∃ q : Fin 4, decode bs pc = .ok (.lload_n q, 1) ∧ q.val = k ∧ pc + 1 = pc') ∨ (decode bs pc = .ok (.lload k, 2) ∧ pc + 2 = pc')
def own_al (bs : ByteArray) (pc k pc' : Nat) : Prop := (∃ q : Fin 4, decode bs pc = .ok (.aload_n q, 1) ∧ q.val = k ∧ pc + 1 = pc') ∨ (decode bs pc = .ok (.aload k, 2) ∧ pc + 2 = pc')
def own_si (bs : ByteArray) (pc k pc' : Nat) : Prop := (∃ q : Fin 4, decode bs pc = .ok (.istore_n q, 1) ∧ q.val = k ∧ pc + 1 = pc') ∨ (decode bs pc = .ok (.istore k, 2) ∧ pc + 2 = pc')
def own_sl (bs : ByteArray) (pc k pc' : Nat) : Prop := (∃ q : Fin 4, decode bs pc = .ok (.lstore_n q, 1) ∧ q.val = k ∧ pc + 1 = pc') ∨ (decode bs pc = .ok (.lstore k, 2) ∧ pc + 2 = pc')
def own_sa (bs : ByteArray) (pc k pc' : Nat) : Prop := (∃ q : Fin 4, decode bs pc = .ok (.astore_n q, 1) ∧ q.val = k ∧ pc + 1 = pc') ∨ (decode bs pc = .ok (.astore k, 2) ∧ pc + 2 = pc')
def own_Lshl (x : Int64) (q : Int32) : Int64 := x <<< (q &&& 0x3f).toInt64
def own_Lshr (x : Int64) (q : Int32) : Int64 := x >>> (q &&& 0x3f).toInt64
def own_Lushr (x : Int64) (q : Int32) : Int64 := (x.toUInt64 >>> (q &&& 0x3f).toInt64.toUInt64).toInt64
def own_Ishl (x q : Int32) : Int32 := x <<< (q &&& 31)
def own_Ishr (x q : Int32) : Int32 := x >>> (q &&& 31)
def own_Iushr (x q : Int32) : Int32 := (x.toUInt32 >>> (q &&& 31).toUInt32).toInt32
theorem own_iadd (X : own_St p l e R s m args below meth c Z n0 bs maxL own T h cells slots) {x y : Int32} (d : own_ix bs pc .iadd 1 pc')  (k : own_Wins p e below A T (mkF m pc' L (.int (x + y) :: st))) : own_Wins p e below A T (mkF m pc L (.int y :: .int x :: st)) := by
  obtain ⟨d, rfl⟩ := d
  exact own_by (fun _ q => XS.iadd X.here X.ex rfl (hb X.cd d) rfl q) k
theorem own_isub (X : own_St p l e R s m args below meth c Z n0 bs maxL own T h cells slots) {x y : Int32} (d : own_ix bs pc .isub 1 pc')  (k : own_Wins p e below A T (mkF m pc' L (.int (x - y) :: st))) : own_Wins p e below A T (mkF m pc L (.int y :: .int x :: st)) := by
  obtain ⟨d, rfl⟩ := d
  exact own_by (fun _ q => XS.isub X.here X.ex rfl (hb X.cd d) rfl q) k
theorem own_imul (X : own_St p l e R s m args below meth c Z n0 bs maxL own T h cells slots) {x y : Int32} (d : own_ix bs pc .imul 1 pc')  (k : own_Wins p e below A T (mkF m pc' L (.int (x * y) :: st))) : own_Wins p e below A T (mkF m pc L (.int y :: .int x :: st)) := by
  obtain ⟨d, rfl⟩ := d
  exact own_by (fun _ q => XS.imul X.here X.ex rfl (hb X.cd d) rfl q) k
theorem own_iand (X : own_St p l e R s m args below meth c Z n0 bs maxL own T h cells slots) {x y : Int32} (d : own_ix bs pc .iand 1 pc')  (k : own_Wins p e below A T (mkF m pc' L (.int (x &&& y) :: st))) : own_Wins p e below A T (mkF m pc L (.int y :: .int x :: st)) := by
  obtain ⟨d, rfl⟩ := d
  exact own_by (fun _ q => XS.iand X.here X.ex rfl (hb X.cd d) rfl q) k
theorem own_ior (X : own_St p l e R s m args below meth c Z n0 bs maxL own T h cells slots) {x y : Int32} (d : own_ix bs pc .ior 1 pc')  (k : own_Wins p e below A T (mkF m pc' L (.int (x ||| y) :: st))) : own_Wins p e below A T (mkF m pc L (.int y :: .int x :: st)) := by
  obtain ⟨d, rfl⟩ := d
  exact own_by (fun _ q => XS.ior X.here X.ex rfl (hb X.cd d) rfl q) k
theorem own_ixor (X : own_St p l e R s m args below meth c Z n0 bs maxL own T h cells slots) {x y : Int32} (d : own_ix bs pc .ixor 1 pc')  (k : own_Wins p e below A T (mkF m pc' L (.int (x ^^^ y) :: st))) : own_Wins p e below A T (mkF m pc L (.int y :: .int x :: st)) := by
  obtain ⟨d, rfl⟩ := d
  exact own_by (fun _ q => XS.ixor X.here X.ex rfl (hb X.cd d) rfl q) k
theorem own_ladd (X : own_St p l e R s m args below meth c Z n0 bs maxL own T h cells slots) {x y : Int64} (d : own_ix bs pc .ladd 1 pc')  (k : own_Wins p e below A T (mkF m pc' L (.long (x + y) :: st))) : own_Wins p e below A T (mkF m pc L (.long y :: .long x :: st)) := by
  obtain ⟨d, rfl⟩ := d
  exact own_by (fun _ q => XS.ladd X.here X.ex rfl (hb X.cd d) rfl q) k
theorem own_lsub (X : own_St p l e R s m args below meth c Z n0 bs maxL own T h cells slots) {x y : Int64} (d : own_ix bs pc .lsub 1 pc')  (k : own_Wins p e below A T (mkF m pc' L (.long (x - y) :: st))) : own_Wins p e below A T (mkF m pc L (.long y :: .long x :: st)) := by
  obtain ⟨d, rfl⟩ := d
  exact own_by (fun _ q => XS.lsub X.here X.ex rfl (hb X.cd d) rfl q) k
theorem own_lmul (X : own_St p l e R s m args below meth c Z n0 bs maxL own T h cells slots) {x y : Int64} (d : own_ix bs pc .lmul 1 pc')  (k : own_Wins p e below A T (mkF m pc' L (.long (x * y) :: st))) : own_Wins p e below A T (mkF m pc L (.long y :: .long x :: st)) := by
  obtain ⟨d, rfl⟩ := d
  exact own_by (fun _ q => XS.lmul X.here X.ex rfl (hb X.cd d) rfl q) k
theorem own_land (X : own_St p l e R s m args below meth c Z n0 bs maxL own T h cells slots) {x y : Int64} (d : own_ix bs pc .land 1 pc')  (k : own_Wins p e below A T (mkF m pc' L (.long (x &&& y) :: st))) : own_Wins p e below A T (mkF m pc L (.long y :: .long x :: st)) := by
  obtain ⟨d, rfl⟩ := d
  exact own_by (fun _ q => XS.land X.here X.ex rfl (hb X.cd d) rfl q) k
theorem own_lor (X : own_St p l e R s m args below meth c Z n0 bs maxL own T h cells slots) {x y : Int64} (d : own_ix bs pc .lor 1 pc')  (k : own_Wins p e below A T (mkF m pc' L (.long (x ||| y) :: st))) : own_Wins p e below A T (mkF m pc L (.long y :: .long x :: st)) := by
  obtain ⟨d, rfl⟩ := d
  exact own_by (fun _ q => XS.lor X.here X.ex rfl (hb X.cd d) rfl q) k
theorem own_lxor (X : own_St p l e R s m args below meth c Z n0 bs maxL own T h cells slots) {x y : Int64} (d : own_ix bs pc .lxor 1 pc')  (k : own_Wins p e below A T (mkF m pc' L (.long (x ^^^ y) :: st))) : own_Wins p e below A T (mkF m pc L (.long y :: .long x :: st)) := by
  obtain ⟨d, rfl⟩ := d
  exact own_by (fun _ q => XS.lxor X.here X.ex rfl (hb X.cd d) rfl q) k
theorem own_ishl (X : own_St p l e R s m args below meth c Z n0 bs maxL own T h cells slots) {x y : Int32} (d : own_ix bs pc .ishl 1 pc')  (k : own_Wins p e below A T (mkF m pc' L (.int (own_Ishl x y) :: st))) : own_Wins p e below A T (mkF m pc L (.int y :: .int x :: st)) := by
  obtain ⟨d, rfl⟩ := d
  exact own_by (fun _ q => XS.ishl X.here X.ex rfl (hb X.cd d) rfl q) k
theorem own_ishr (X : own_St p l e R s m args below meth c Z n0 bs maxL own T h cells slots) {x y : Int32} (d : own_ix bs pc .ishr 1 pc')  (k : own_Wins p e below A T (mkF m pc' L (.int (own_Ishr x y) :: st))) : own_Wins p e below A T (mkF m pc L (.int y :: .int x :: st)) := by
  obtain ⟨d, rfl⟩ := d
  exact own_by (fun _ q => XS.ishr X.here X.ex rfl (hb X.cd d) rfl q) k
theorem own_iushr (X : own_St p l e R s m args below meth c Z n0 bs maxL own T h cells slots) {x y : Int32} (d : own_ix bs pc .iushr 1 pc')  (k : own_Wins p e below A T (mkF m pc' L (.int (own_Iushr x y) :: st))) : own_Wins p e below A T (mkF m pc L (.int y :: .int x :: st)) := by
  obtain ⟨d, rfl⟩ := d
  exact own_by (fun _ q => XS.iushr X.here X.ex rfl (hb X.cd d) rfl q) k
theorem own_lshl (X : own_St p l e R s m args below meth c Z n0 bs maxL own T h cells slots) {x : Int64} {y : Int32} (d : own_ix bs pc .lshl 1 pc')  (k : own_Wins p e below A T (mkF m pc' L (.long (own_Lshl x y) :: st))) : own_Wins p e below A T (mkF m pc L (.int y :: .long x :: st)) := by
  obtain ⟨d, rfl⟩ := d
  exact own_by (fun _ q => XS.lshl X.here X.ex rfl (hb X.cd d) rfl q) k
theorem own_lshr (X : own_St p l e R s m args below meth c Z n0 bs maxL own T h cells slots) {x : Int64} {y : Int32} (d : own_ix bs pc .lshr 1 pc')  (k : own_Wins p e below A T (mkF m pc' L (.long (own_Lshr x y) :: st))) : own_Wins p e below A T (mkF m pc L (.int y :: .long x :: st)) := by
  obtain ⟨d, rfl⟩ := d
  exact own_by (fun _ q => XS.lshr X.here X.ex rfl (hb X.cd d) rfl q) k
theorem own_lushr (X : own_St p l e R s m args below meth c Z n0 bs maxL own T h cells slots) {x : Int64} {y : Int32} (d : own_ix bs pc .lushr 1 pc')  (k : own_Wins p e below A T (mkF m pc' L (.long (own_Lushr x y) :: st))) : own_Wins p e below A T (mkF m pc L (.int y :: .long x :: st)) := by
  obtain ⟨d, rfl⟩ := d
  exact own_by (fun _ q => XS.lushr X.here X.ex rfl (hb X.cd d) rfl q) k
theorem own_idiv (X : own_St p l e R s m args below meth c Z n0 bs maxL own T h cells slots) {x y : Int32} (d : own_ix bs pc .idiv 1 pc') (hy : y ≠ 0) (k : own_Wins p e below A T (mkF m pc' L (.int (x / y) :: st))) : own_Wins p e below A T (mkF m pc L (.int y :: .int x :: st)) := by
  obtain ⟨d, rfl⟩ := d
  exact own_by (fun _ q => XS.idiv X.here X.ex rfl (hb X.cd d) rfl hy q) k
theorem own_ldiv (X : own_St p l e R s m args below meth c Z n0 bs maxL own T h cells slots) {x y : Int64} (d : own_ix bs pc .ldiv 1 pc') (hy : y ≠ 0) (k : own_Wins p e below A T (mkF m pc' L (.long (x / y) :: st))) : own_Wins p e below A T (mkF m pc L (.long y :: .long x :: st)) := by
  obtain ⟨d, rfl⟩ := d
  exact own_by (fun _ q => XS.ldiv X.here X.ex rfl (hb X.cd d) rfl hy q) k
theorem own_irem (X : own_St p l e R s m args below meth c Z n0 bs maxL own T h cells slots) {x y : Int32} (d : own_ix bs pc .irem 1 pc') (hy : y ≠ 0) (k : own_Wins p e below A T (mkF m pc' L (.int (x % y) :: st))) : own_Wins p e below A T (mkF m pc L (.int y :: .int x :: st)) := by
  obtain ⟨d, rfl⟩ := d
  have e1 : x - x / y * y = x % y := irem_eq_mod x y
  exact own_by (fun _ q => XS.irem X.here X.ex rfl (hb X.cd d) rfl hy (by rw [e1]; exact q)) k
theorem own_lrem (X : own_St p l e R s m args below meth c Z n0 bs maxL own T h cells slots) {x y : Int64} (d : own_ix bs pc .lrem 1 pc') (hy : y ≠ 0) (k : own_Wins p e below A T (mkF m pc' L (.long (x % y) :: st))) : own_Wins p e below A T (mkF m pc L (.long y :: .long x :: st)) := by
  obtain ⟨d, rfl⟩ := d
  have e1 : x - x / y * y = x % y := lrem_mod x y
  exact own_by (fun _ q => XS.lrem X.here X.ex rfl (hb X.cd d) rfl hy (by rw [e1]; exact q)) k
theorem own_ineg (X : own_St p l e R s m args below meth c Z n0 bs maxL own T h cells slots) {x : Int32} (d : own_ix bs pc .ineg 1 pc')  (k : own_Wins p e below A T (mkF m pc' L (.int (-x) :: st))) : own_Wins p e below A T (mkF m pc L (.int x :: st)) := by
  obtain ⟨d, rfl⟩ := d
  exact own_by (fun _ q => XS.ineg X.here X.ex rfl (hb X.cd d) rfl q) k
theorem own_lneg (X : own_St p l e R s m args below meth c Z n0 bs maxL own T h cells slots) {x : Int64} (d : own_ix bs pc .lneg 1 pc')  (k : own_Wins p e below A T (mkF m pc' L (.long (-x) :: st))) : own_Wins p e below A T (mkF m pc L (.long x :: st)) := by
  obtain ⟨d, rfl⟩ := d
  exact own_by (fun _ q => XS.lneg X.here X.ex rfl (hb X.cd d) rfl q) k
theorem own_i2l (X : own_St p l e R s m args below meth c Z n0 bs maxL own T h cells slots) {x : Int32} (d : own_ix bs pc .i2l 1 pc')  (k : own_Wins p e below A T (mkF m pc' L (.long x.toInt64 :: st))) : own_Wins p e below A T (mkF m pc L (.int x :: st)) := by
  obtain ⟨d, rfl⟩ := d
  exact own_by (fun _ q => XS.i2l X.here X.ex rfl (hb X.cd d) rfl q) k
theorem own_l2i (X : own_St p l e R s m args below meth c Z n0 bs maxL own T h cells slots) {x : Int64} (d : own_ix bs pc .l2i 1 pc')  (k : own_Wins p e below A T (mkF m pc' L (.int x.toInt32 :: st))) : own_Wins p e below A T (mkF m pc L (.long x :: st)) := by
  obtain ⟨d, rfl⟩ := d
  exact own_by (fun _ q => XS.l2i X.here X.ex rfl (hb X.cd d) rfl q) k
theorem own_i2b (X : own_St p l e R s m args below meth c Z n0 bs maxL own T h cells slots) {x : Int32} (d : own_ix bs pc .i2b 1 pc')  (k : own_Wins p e below A T (mkF m pc' L (.int x.toInt8.toInt32 :: st))) : own_Wins p e below A T (mkF m pc L (.int x :: st)) := by
  obtain ⟨d, rfl⟩ := d
  exact own_by (fun _ q => XS.i2b X.here X.ex rfl (hb X.cd d) rfl q) k
theorem own_lcmp (X : own_St p l e R s m args below meth c Z n0 bs maxL own T h cells slots) {x y : Int64} (d : own_ix bs pc .lcmp 1 pc')  (k : own_Wins p e below A T (mkF m pc' L (.int (lcmpW x y) :: st))) : own_Wins p e below A T (mkF m pc L (.long y :: .long x :: st)) := by
  obtain ⟨d, rfl⟩ := d
  exact own_by (fun _ q => XS.lcmp X.here X.ex rfl (hb X.cd d) rfl q) k
theorem own_dup (X : own_St p l e R s m args below meth c Z n0 bs maxL own T h cells slots) {x : Value} (d : own_ix bs pc .dup 1 pc') (hc : x.category = 1) (k : own_Wins p e below A T (mkF m pc' L (x :: x :: st))) : own_Wins p e below A T (mkF m pc L (x :: st)) := by
  obtain ⟨d, rfl⟩ := d
  exact own_by (fun _ q => XS.dup X.here X.ex rfl (hb X.cd d) rfl hc q) k
theorem own_pop (X : own_St p l e R s m args below meth c Z n0 bs maxL own T h cells slots) {x : Value} (d : own_ix bs pc .pop 1 pc') (hc : x.category = 1) (k : own_Wins p e below A T (mkF m pc' L st)) : own_Wins p e below A T (mkF m pc L (x :: st)) := by
  obtain ⟨d, rfl⟩ := d
  exact own_by (fun _ q => XS.pop X.here X.ex rfl (hb X.cd d) rfl hc q) k
theorem own_dup2 (X : own_St p l e R s m args below meth c Z n0 bs maxL own T h cells slots) {x : Int32} {y : Addr} (d : own_ix bs pc .dup2 1 pc')  (k : own_Wins p e below A T (mkF m pc' L (.int x :: .ref y :: .int x :: .ref y :: st))) : own_Wins p e below A T (mkF m pc L (.int x :: .ref y :: st)) := by
  obtain ⟨d, rfl⟩ := d
  refine own_by (fun _ q => ?_) k
  show Steps p.tables e below (T.setTop (mkF m pc L (.int x :: .ref y :: st))) _
  jvm_step X.here [X.here.top, X.ex, (hb X.cd d), Value.category]
  exact q
theorem own_anull (X : own_St p l e R s m args below meth c Z n0 bs maxL own T h cells slots)  (d : own_ix bs pc .aconst_null 1 pc')  (k : own_Wins p e below A T (mkF m pc' L (.null :: st))) : own_Wins p e below A T (mkF m pc L st) := by
  obtain ⟨d, rfl⟩ := d
  exact own_by (fun _ q => XS.aconstNull X.here X.ex rfl (hb X.cd d) q) k
theorem own_ipush (X : own_St p l e R s m args below meth c Z n0 bs maxL own T h cells slots) {v : Int32} (d : own_ik bs pc v pc')  (k : own_Wins p e below A T (mkF m pc' L (.int v :: st))) : own_Wins p e below A T (mkF m pc L st) := by
  obtain ⟨i, ⟨d, rfl, rfl⟩ | ⟨d, rfl, rfl⟩ | ⟨d, rfl, rfl⟩⟩ := d
  · exact own_by (fun _ q => XS.iconst X.here X.ex rfl (hb X.cd d) q) k
  · exact own_by (fun _ q => XS.bipush X.here X.ex rfl (hb X.cd d) q) k
  · exact own_by (fun _ q => XS.sipush X.here X.ex rfl (hb X.cd d) q) k
theorem own_lpush (X : own_St p l e R s m args below meth c Z n0 bs maxL own T h cells slots) {v : Int64} (d : own_lk bs pc v pc')  (k : own_Wins p e below A T (mkF m pc' L (.long v :: st))) : own_Wins p e below A T (mkF m pc L st) := by
  obtain ⟨i, d, rfl, rfl⟩ := d
  exact own_by (fun _ q => XS.lconst X.here X.ex rfl (hb X.cd d) q) k
theorem own_iload (X : own_St p l e R s m args below meth c Z n0 bs maxL own T h cells slots) {i : Nat} {v : Int32} (d : own_il bs pc i pc') (hl : L[i]? = some (.val (.int v))) (k : own_Wins p e below A T (mkF m pc' L (.int v :: st))) : own_Wins p e below A T (mkF m pc L st) := by
  obtain ⟨i', d, rfl, rfl⟩ | ⟨d, rfl⟩ := d
  · exact own_by (fun _ q => XS.iloadN X.here X.ex rfl (hb X.cd d) hl q) k
  · exact own_by (fun _ q => XS.iload X.here X.ex rfl (hb X.cd d) hl q) k
theorem own_lload (X : own_St p l e R s m args below meth c Z n0 bs maxL own T h cells slots) {i : Nat} {v : Int64} (d : own_ll bs pc i pc') (hl : L[i]? = some (.val (.long v))) (k : own_Wins p e below A T (mkF m pc' L (.long v :: st))) : own_Wins p e below A T (mkF m pc L st) := by
  obtain ⟨i', d, rfl, rfl⟩ | ⟨d, rfl⟩ := d
  · exact own_by (fun _ q => XS.lloadN X.here X.ex rfl (hb X.cd d) hl q) k
  · exact own_by (fun _ q => XS.lload X.here X.ex rfl (hb X.cd d) hl q) k
theorem own_aload (X : own_St p l e R s m args below meth c Z n0 bs maxL own T h cells slots) {i : Nat} {v : Addr} (d : own_al bs pc i pc') (hl : L[i]? = some (.val (.ref v))) (k : own_Wins p e below A T (mkF m pc' L (.ref v :: st))) : own_Wins p e below A T (mkF m pc L st) := by
  obtain ⟨i', d, rfl, rfl⟩ | ⟨d, rfl⟩ := d
  · exact own_by (fun _ q => XS.aloadN X.here X.ex rfl (hb X.cd d) hl rfl q) k
  · exact own_by (fun _ q => XS.aload X.here X.ex rfl (hb X.cd d) hl rfl q) k
theorem own_aloadN (X : own_St p l e R s m args below meth c Z n0 bs maxL own T h cells slots) {i : Nat} (d : own_al bs pc i pc') (hl : L[i]? = some (.val .null)) (k : own_Wins p e below A T (mkF m pc' L (.null :: st))) : own_Wins p e below A T (mkF m pc L st) := by
  obtain ⟨i', d, rfl, rfl⟩ | ⟨d, rfl⟩ := d
  · exact own_by (fun _ q => XS.aloadN X.here X.ex rfl (hb X.cd d) hl rfl q) k
  · exact own_by (fun _ q => XS.aload X.here X.ex rfl (hb X.cd d) hl rfl q) k
theorem own_istore (X : own_St p l e R s m args below meth c Z n0 bs maxL own T h cells slots) {i : Nat} {v : Int32} (L' : Array Slot) (d : own_si bs pc i pc') (hl : storeLocals L i (.int v) = some L') (k : own_Wins p e below A T (mkF m pc' L' st)) : own_Wins p e below A T (mkF m pc L (.int v :: st)) := by
  obtain ⟨i', d, rfl, rfl⟩ | ⟨d, rfl⟩ := d
  · exact own_by (fun _ q => XS.istoreN X.here X.ex rfl (hb X.cd d) rfl hl q) k
  · exact own_by (fun _ q => XS.istore X.here X.ex rfl (hb X.cd d) rfl hl q) k
theorem own_lstore (X : own_St p l e R s m args below meth c Z n0 bs maxL own T h cells slots) {i : Nat} {v : Int64} (L' : Array Slot) (d : own_sl bs pc i pc') (hl : storeLocals L i (.long v) = some L') (k : own_Wins p e below A T (mkF m pc' L' st)) : own_Wins p e below A T (mkF m pc L (.long v :: st)) := by
  obtain ⟨i', d, rfl, rfl⟩ | ⟨d, rfl⟩ := d
  · exact own_by (fun _ q => XS.lstoreN X.here X.ex rfl (hb X.cd d) rfl hl q) k
  · exact own_by (fun _ q => XS.lstore X.here X.ex rfl (hb X.cd d) rfl hl q) k
theorem own_astore (X : own_St p l e R s m args below meth c Z n0 bs maxL own T h cells slots) {i : Nat} {v : Addr} (L' : Array Slot) (d : own_sa bs pc i pc') (hl : storeLocals L i (.ref v) = some L') (k : own_Wins p e below A T (mkF m pc' L' st)) : own_Wins p e below A T (mkF m pc L (.ref v :: st)) := by
  obtain ⟨i', d, rfl, rfl⟩ | ⟨d, rfl⟩ := d
  · exact own_by (fun _ q => XS.astoreN X.here X.ex rfl (hb X.cd d) rfl rfl hl q) k
  · exact own_by (fun _ q => XS.astore X.here X.ex rfl (hb X.cd d) rfl rfl hl q) k
theorem own_iinc (X : own_St p l e R s m args below meth c Z n0 bs maxL own T h cells slots) {i : Nat} {x w : Int32} (L' : Array Slot) (d : own_ii bs pc i w pc') (hl : L[i]? = some (.val (.int x))) (hl' : storeLocals L i (.int (x + w)) = some L') (k : own_Wins p e below A T (mkF m pc' L' st)) : own_Wins p e below A T (mkF m pc L st) := by
  obtain ⟨i', d, rfl, rfl⟩ := d
  exact own_by (fun _ q => XS.iinc X.here X.ex rfl (hb X.cd d) hl hl' q) k
theorem own_goto (X : own_St p l e R s m args below meth c Z n0 bs maxL own T h cells slots) (d : own_gt bs pc pc') (k : own_Wins p e below A T (mkF m pc' L st)) : own_Wins p e below A T (mkF m pc L st) := by
  obtain ⟨o, d, h1, h2⟩ := d
  exact own_by (fun _ q => XS.goto X.here X.ex rfl rfl (hb X.cd d) h1 h2 q) k
theorem own_ifYes (X : own_St p l e R s m args below meth c Z n0 bs maxL own T h cells slots) {cd : ClassFile.Cond} {x : Int32} {nx : Nat} (d : own_ifc bs pc cd nx pc') (hc : ifCond.holds cd x = true) (k : own_Wins p e below A T (mkF m pc' L st)) : own_Wins p e below A T (mkF m pc L (.int x :: st)) := by
  obtain ⟨o, d, -, h1, h2⟩ := d
  exact own_by (fun _ q => XS.ifYes X.here X.ex rfl rfl (hb X.cd d) rfl hc h1 h2 q) k
theorem own_ifNo (X : own_St p l e R s m args below meth c Z n0 bs maxL own T h cells slots) {cd : ClassFile.Cond} {x : Int32} {tg : Nat} (d : own_ifc bs pc cd pc' tg) (hc : ifCond.holds cd x = false) (k : own_Wins p e below A T (mkF m pc' L st)) : own_Wins p e below A T (mkF m pc L (.int x :: st)) := by
  obtain ⟨o, d, rfl, h1, h2⟩ := d
  exact own_by (fun _ q => XS.ifNo X.here X.ex rfl (hb X.cd d) rfl hc q) k
theorem own_icYes (X : own_St p l e R s m args below meth c Z n0 bs maxL own T h cells slots) {cd : ClassFile.Cond} {x y : Int32} {nx : Nat} (d : own_icm bs pc cd nx pc') (hc : if_icmp.holds cd x y = true) (k : own_Wins p e below A T (mkF m pc' L st)) : own_Wins p e below A T (mkF m pc L (.int y :: .int x :: st)) := by
  obtain ⟨o, d, -, h1, h2⟩ := d
  exact own_by (fun _ q => XS.icmpYes X.here X.ex rfl rfl (hb X.cd d) rfl hc h1 h2 q) k
theorem own_icNo (X : own_St p l e R s m args below meth c Z n0 bs maxL own T h cells slots) {cd : ClassFile.Cond} {x y : Int32} {tg : Nat} (d : own_icm bs pc cd pc' tg) (hc : if_icmp.holds cd x y = false) (k : own_Wins p e below A T (mkF m pc' L st)) : own_Wins p e below A T (mkF m pc L (.int y :: .int x :: st)) := by
  obtain ⟨o, d, rfl, h1, h2⟩ := d
  exact own_by (fun _ q => XS.icmpNo X.here X.ex rfl (hb X.cd d) rfl hc q) k
theorem own_inlYes (X : own_St p l e R s m args below meth c Z n0 bs maxL own T h cells slots) {nx : Nat} (d : own_inl bs pc nx pc') (k : own_Wins p e below A T (mkF m pc' L st)) : own_Wins p e below A T (mkF m pc L (.null :: st)) := by
  obtain ⟨o, d, -, h1, h2⟩ := d
  exact own_by (fun _ q => XS.ifnullYes X.here X.ex rfl rfl (hb X.cd d) rfl h1 h2 q) k
theorem own_inlNo (X : own_St p l e R s m args below meth c Z n0 bs maxL own T h cells slots) {a : Addr} {tg : Nat} (d : own_inl bs pc pc' tg) (k : own_Wins p e below A T (mkF m pc' L st)) : own_Wins p e below A T (mkF m pc L (.ref a :: st)) := by
  obtain ⟨o, d, rfl, h1, h2⟩ := d
  exact own_by (fun _ q => XS.ifnullNo X.here X.ex rfl (hb X.cd d) rfl q) k
theorem own_innYes (X : own_St p l e R s m args below meth c Z n0 bs maxL own T h cells slots) {a : Addr} {nx : Nat} (d : own_inn bs pc nx pc') (k : own_Wins p e below A T (mkF m pc' L st)) : own_Wins p e below A T (mkF m pc L (.ref a :: st)) := by
  obtain ⟨o, d, -, h1, h2⟩ := d
  exact own_by (fun _ q => XS.ifnonnullYes X.here X.ex rfl rfl (hb X.cd d) rfl h1 h2 q) k
theorem own_innNo (X : own_St p l e R s m args below meth c Z n0 bs maxL own T h cells slots) {tg : Nat} (d : own_inn bs pc pc' tg) (k : own_Wins p e below A T (mkF m pc' L st)) : own_Wins p e below A T (mkF m pc L (.null :: st)) := by
  obtain ⟨o, d, rfl, h1, h2⟩ := d
  exact own_by (fun _ q => XS.ifnonnullNo X.here X.ex rfl (hb X.cd d) rfl q) k
theorem own_ldc (X : own_St p l e R s m args below meth c Z n0 bs maxL own T h cells slots) {i : Nat} {v : Int32} (w : (Jvm.Cond.constant own i v).before a0 Z = true) (d : own_ix bs pc (.ldc i) 2 pc') (k : own_Wins p e below A T (mkF m pc' L (.int v :: st))) : own_Wins p e below A T (mkF m pc L st) := by
  obtain ⟨locs, Y, eT, N, hn, hx, hby, hml, hown, hZ, hlk⟩ := X
  obtain ⟨d, rfl⟩ := d
  exact own_by (Y.ldcInt hx hown (mvT hZ w) (g := mkF m pc L st) rfl (hb hby d)) k
theorem own_ldc2 (X : own_St p l e R s m args below meth c Z n0 bs maxL own T h cells slots) {i : Nat} {v : Int64} (w : (Jvm.Cond.constantLong own i v).before a0 Z = true) (d : own_ix bs pc (.ldc2_w i) 3 pc') (k : own_Wins p e below A T (mkF m pc' L (.long v :: st))) : own_Wins p e below A T (mkF m pc L st) := by
  obtain ⟨locs, Y, eT, N, hn, hx, hby, hml, hown, hZ, hlk⟩ := X
  obtain ⟨d, rfl⟩ := d
  exact own_by (Y.ldc2Long hx hown (mvT hZ w) (g := mkF m pc L st) rfl (hb hby d)) k
/-- an array of primitives: its values as a list -/
def own_AL (Z : State) (h : Heap) (a : Addr) (ty : FieldType) (vs : List Value) : Prop := ∃ c : Cell, Arr Z h a c ty ∧ c.slots = vs.toArray ∧ vs.length < 2147483648
theorem own_AL.lt {a : Addr} {ty : FieldType} {vs : List Value} (V : own_AL Z h a ty vs) : a < h.size := by obtain ⟨c, A, -⟩ := V; exact A.lt
theorem own_AL.ext {a : Addr} {ty : FieldType} {vs : List Value} (V : own_AL Z h a ty vs) (E : Ext h h') : own_AL Z h' a ty vs := by obtain ⟨c, A, r⟩ := V; exact ⟨c, A.ext E, r⟩
theorem own_AL.other {a b : Addr} {sl : Nat} {v : Value} {ty : FieldType} {vs : List Value} (V : own_AL Z h b ty vs) (W : Wr h h' a sl v) (q : b ≠ a) : own_AL Z h' b ty vs := by obtain ⟨c, A, r⟩ := V; exact ⟨c, A.other W q, r⟩
theorem own_AL.keep {a : Addr} {ws : List Addr} {ty : FieldType} {vs : List Value} (V : own_AL Z h a ty vs) (K : Keep h h' ws) (q : a ∉ ws) : own_AL Z h' a ty vs := by obtain ⟨c, A, r⟩ := V; exact ⟨c, ⟨K.2.1 a c A.1 q, A.2⟩, r⟩
theorem own_AL.new {a : Addr} {k : ClassId} {ty : FieldType} {z : Int32} {n : Nat} (A : Arr Z h a (newA k ty z) ty) (hz : z.toNatClampNeg = n) (hn : n < 2147483648) : own_AL Z h a ty (List.replicate n (defaultValue ty)) :=
  ⟨_, A, by simp [newA, hz], by simpa using hn⟩
theorem own_AL.same {a : Addr} {k : Nat} {v : Value} {ty : FieldType} {vs : List Value} (V : own_AL Z h a ty vs) (W : Wr h h' a k v) : own_AL Z h' a ty (vs.set k v) := by
  obtain ⟨c, A, q, r⟩ := V
  exact ⟨_, A.same W, by simp [Cell.setSlot, q], by simpa using r⟩
/-- an index in its two forms -/
def own_idx (j : Int32) (k : Nat) : Prop := ¬ j < 0 ∧ j.toNatClampNeg = k
theorem own_in {j : Int32} {k : Nat} {cl : Cell} {vs : List Value} (hj : own_idx j k) (q : cl.slots = vs.toArray) (hk : k < vs.length) : ¬ (j < 0 ∨ cl.slots.size ≤ j.toNatClampNeg) := by
  rw [q, hj.2]; simp only [List.size_toArray]
  intro z; rcases z with z | z
  · exact hj.1 z
  · omega
theorem own_len {cl : Cell} {vs : List Value} (q : cl.slots = vs.toArray) : cl.slots.size.toInt32 = Int32.ofNat vs.length := by rw [q]; simp [Nat.toInt32]
theorem own_iaload (X : own_St p l e R s m args below meth c Z n0 bs maxL own T h cells slots) {a : Addr} {vs : List Value} (V : own_AL Z h a .int vs) {j : Int32} {i : Nat} {v : Value} (hj : own_idx j i) (hv : vs[i]? = some v) (d : own_ix bs pc .iaload 1 pc') (k : own_Wins p e below A T (mkF m pc' L (v :: st))) : own_Wins p e below A T (mkF m pc L (.int j :: .ref a :: st)) := by
  obtain ⟨locs, Y, eT, N, hn, hx, hby, hml, hown, hZ, hlk⟩ := X
  obtain ⟨d, rfl⟩ := d
  obtain ⟨cl, Ar, q, r⟩ := V
  have hk : i < vs.length := (List.getElem?_eq_some_iff.mp hv).1
  exact own_by (fun t kk => Y.iaload hx (j := j) (v := v) (by rw [eT]; exact Ar.1) (State.isArrayOf_alike hZ.alike Ar.2.1) Ar.2.2 (own_in hj q hk) (by rw [q, hj.2]; simpa using hv) (g := mkF m pc L (.int j :: .ref a :: st)) rfl rfl (hb hby d) t kk) k
theorem own_laload (X : own_St p l e R s m args below meth c Z n0 bs maxL own T h cells slots) {a : Addr} {vs : List Value} (V : own_AL Z h a .long vs) {j : Int32} {i : Nat} {v : Value} (hj : own_idx j i) (hv : vs[i]? = some v) (d : own_ix bs pc .laload 1 pc') (k : own_Wins p e below A T (mkF m pc' L (v :: st))) : own_Wins p e below A T (mkF m pc L (.int j :: .ref a :: st)) := by
  obtain ⟨locs, Y, eT, N, hn, hx, hby, hml, hown, hZ, hlk⟩ := X
  obtain ⟨d, rfl⟩ := d
  obtain ⟨cl, Ar, q, r⟩ := V
  have hk : i < vs.length := (List.getElem?_eq_some_iff.mp hv).1
  exact own_by (fun t kk => Y.laload hx (j := j) (v := v) (by rw [eT]; exact Ar.1) (State.isArrayOf_alike hZ.alike Ar.2.1) Ar.2.2 (own_in hj q hk) (by rw [q, hj.2]; simpa using hv) (g := mkF m pc L (.int j :: .ref a :: st)) rfl rfl (hb hby d) t kk) k
theorem own_baload (X : own_St p l e R s m args below meth c Z n0 bs maxL own T h cells slots) {a : Addr} {vs : List Value} (V : own_AL Z h a .byte vs) {j : Int32} {i : Nat} {v : Value} (hj : own_idx j i) (hv : vs[i]? = some v) (d : own_ix bs pc .baload 1 pc') (k : own_Wins p e below A T (mkF m pc' L (v :: st))) : own_Wins p e below A T (mkF m pc L (.int j :: .ref a :: st)) := by
  obtain ⟨locs, Y, eT, N, hn, hx, hby, hml, hown, hZ, hlk⟩ := X
  obtain ⟨d, rfl⟩ := d
  obtain ⟨cl, Ar, q, r⟩ := V
  have hk : i < vs.length := (List.getElem?_eq_some_iff.mp hv).1
  exact own_by (fun t kk => Y.baloadBytes hx (j := j) (v := v) (by rw [eT]; exact Ar.1) (State.isArrayOf_alike hZ.alike Ar.2.1) Ar.2.2 (own_in hj q hk) (by rw [q, hj.2]; simpa using hv) (g := mkF m pc L (.int j :: .ref a :: st)) rfl rfl (hb hby d) t kk) k
theorem own_alen (X : own_St p l e R s m args below meth c Z n0 bs maxL own T h cells slots) {a : Addr} {ty : FieldType} {vs : List Value} (V : own_AL Z h a ty vs) (d : own_ix bs pc .arraylength 1 pc') (k : own_Wins p e below A T (mkF m pc' L (.int (Int32.ofNat vs.length) :: st))) : own_Wins p e below A T (mkF m pc L (.ref a :: st)) := by
  obtain ⟨locs, Y, eT, N, hn, hx, hby, hml, hown, hZ, hlk⟩ := X
  obtain ⟨d, rfl⟩ := d
  obtain ⟨cl, Ar, q, r⟩ := V
  exact own_by (fun t kk => Y.arraylength hx (by rw [eT]; exact Ar.1) (State.isArrayOf_alike hZ.alike Ar.2.1) (g := mkF m pc L (.ref a :: st)) rfl rfl (hb hby d) t (by rw [own_len q]; exact kk)) k
theorem own_iastore (X : own_St p l e R s m args below meth c Z n0 bs maxL own T h cells slots) {a : Addr} {vs : List Value} (V : own_AL Z h a .int vs) (ga : n0 ≤ a) {j : Int32} {x : Int32} {i : Nat} (hj : own_idx j i) (hk : i < vs.length) (d : own_ix bs pc .iastore 1 pc') (k : ∀ T' h', own_St p l e R s m args below meth c Z n0 bs maxL own T' h' cells slots → Wr h h' a i (.int x) → own_AL Z h' a .int (vs.set i (.int x)) → own_Wins p e below A T' (mkF m pc' L st)) : own_Wins p e below A T (mkF m pc L (.int x :: .int j :: .ref a :: st)) := by
  obtain ⟨locs, Y, eT, N, hn, hx, hby, hml, hown, hZ, hlk⟩ := X
  obtain ⟨d, rfl⟩ := d
  have V0 := V
  obtain ⟨cl, Ar, q, r⟩ := V
  obtain ⟨T', h', Y', e', W', st'⟩ := stI Y hx hZ eT Ar (j := j) (x := x) (own_in hj q hk) (g := mkF m pc L (.int x :: .int j :: .ref a :: st)) rfl rfl (hb hby d)
  have W2 : Wr h h' a i (.int x) := hj.2 ▸ W'
  exact own_by st' (k T' h' ⟨_, Y', e', Fr.snoc Y' N ga, W'.size ▸ hn, hx, hby, hml, hown, hZ, hlk⟩ W2 (V0.same W2))
theorem own_lastore (X : own_St p l e R s m args below meth c Z n0 bs maxL own T h cells slots) {a : Addr} {vs : List Value} (V : own_AL Z h a .long vs) (ga : n0 ≤ a) {j : Int32} {x : Int64} {i : Nat} (hj : own_idx j i) (hk : i < vs.length) (d : own_ix bs pc .lastore 1 pc') (k : ∀ T' h', own_St p l e R s m args below meth c Z n0 bs maxL own T' h' cells slots → Wr h h' a i (.long x) → own_AL Z h' a .long (vs.set i (.long x)) → own_Wins p e below A T' (mkF m pc' L st)) : own_Wins p e below A T (mkF m pc L (.long x :: .int j :: .ref a :: st)) := by
  obtain ⟨locs, Y, eT, N, hn, hx, hby, hml, hown, hZ, hlk⟩ := X
  obtain ⟨d, rfl⟩ := d
  have V0 := V
  obtain ⟨cl, Ar, q, r⟩ := V
  obtain ⟨T', h', Y', e', W', st'⟩ := stJ Y hx hZ eT Ar (j := j) (x := x) (own_in hj q hk) (g := mkF m pc L (.long x :: .int j :: .ref a :: st)) rfl rfl (hb hby d)
  have W2 : Wr h h' a i (.long x) := hj.2 ▸ W'
  exact own_by st' (k T' h' ⟨_, Y', e', Fr.snoc Y' N ga, W'.size ▸ hn, hx, hby, hml, hown, hZ, hlk⟩ W2 (V0.same W2))
theorem own_bastore (X : own_St p l e R s m args below meth c Z n0 bs maxL own T h cells slots) {a : Addr} {vs : List Value} (V : own_AL Z h a .byte vs) (ga : n0 ≤ a) {j : Int32} {x : Int32} {i : Nat} (hj : own_idx j i) (hk : i < vs.length) (d : own_ix bs pc .bastore 1 pc') (k : ∀ T' h', own_St p l e R s m args below meth c Z n0 bs maxL own T' h' cells slots → Wr h h' a i (.int x.toInt8.toInt32) → own_AL Z h' a .byte (vs.set i (.int x.toInt8.toInt32)) → own_Wins p e below A T' (mkF m pc' L st)) : own_Wins p e below A T (mkF m pc L (.int x :: .int j :: .ref a :: st)) := by
  obtain ⟨locs, Y, eT, N, hn, hx, hby, hml, hown, hZ, hlk⟩ := X
  obtain ⟨d, rfl⟩ := d
  have V0 := V
  obtain ⟨cl, Ar, q, r⟩ := V
  obtain ⟨T', h', Y', e', W', st'⟩ := stB Y hx hZ eT Ar (j := j) (x := x) (own_in hj q hk) (g := mkF m pc L (.int x :: .int j :: .ref a :: st)) rfl rfl (hb hby d)
  have W2 : Wr h h' a i (.int x.toInt8.toInt32) := hj.2 ▸ W'
  exact own_by st' (k T' h' ⟨_, Y', e', Fr.snoc Y' N ga, W'.size ▸ hn, hx, hby, hml, hown, hZ, hlk⟩ W2 (V0.same W2))
theorem own_newarr (X : own_St p l e R s m args below meth c Z n0 bs maxL own T h cells slots) {aty : ArrayType} (w : (Jvm.Cond.arrayClass (newarray.typeOf aty)).before a0 Z = true) (d : own_ix bs pc (.newarray aty) 2 pc') {z : Int32} {n : Nat} (hz : own_idx z n) (cap : Nat) (hcap : n ≤ cap) (hb1 : cap * 8 ≤ 536870912) (hc : cells + 1 ≤ R.cells) (hl : slots + cap ≤ R.slots)
    (k : ∀ T' h' a, own_St p l e R s m args below meth c Z n0 bs maxL own T' h' (cells + 1) (slots + cap) → Ext h h' → a = h.size → n0 ≤ a → own_AL Z h' a (newarray.typeOf aty) (List.replicate n (defaultValue (newarray.typeOf aty))) → own_Wins p e below A T' (mkF m pc' L (.ref a :: st))) : own_Wins p e below A T (mkF m pc L (.int z :: st)) := by
  obtain ⟨locs, Y, eT, N, hn, hx, hby, hml, hown, hZ, hlk⟩ := X
  obtain ⟨d, rfl⟩ := d
  obtain ⟨T', h', cA, Y', e', E', A', st'⟩ := newP Y hx hZ w eT (g := mkF m pc L (.int z :: st)) rfl (hb hby d) rfl hz.1 (cap := cap) (by rw [hz.2]; exact hcap) hb1 hc hl
  exact own_by st' (k T' h' _ ⟨_, Y', e', N, Nat.le_trans hn E'.1, hx, hby, hml, hown, hZ, hlk⟩ E' rfl hn (own_AL.new A' hz.2 (by omega)))
def own_up (g : Nat → Value) (k : Nat) (v : Value) : Nat → Value := fun j => if j = k then v else g j
theorem own_up_same (g : Nat → Value) (k : Nat) (v : Value) : own_up g k v k = v := if_pos rfl
theorem own_up_ne (g : Nat → Value) {k j : Nat} (v : Value) (h : j ≠ k) : own_up g k v j = g j := if_neg h
def own_AF (Z : State) (h : Heap) (a : Addr) (ty : FieldType) (n : Nat) (g : Nat → Value) : Prop := ∃ vs, own_AL Z h a ty vs ∧ vs.length = n ∧ ∀ j, j < n → vs[j]? = some (g j)
theorem own_AF.lt {a : Addr} {ty : FieldType} {n : Nat} {g : Nat → Value} (V : own_AF Z h a ty n g) : a < h.size := by obtain ⟨vs, V, -⟩ := V; exact V.lt
theorem own_AF.ext {a : Addr} {ty : FieldType} {n : Nat} {g : Nat → Value} (V : own_AF Z h a ty n g) (E : Ext h h') : own_AF Z h' a ty n g := by obtain ⟨vs, V, r⟩ := V; exact ⟨vs, V.ext E, r⟩
theorem own_AF.other {a b : Addr} {sl : Nat} {v : Value} {ty : FieldType} {n : Nat} {g : Nat → Value} (V : own_AF Z h b ty n g) (W : Wr h h' a sl v) (q : b ≠ a) : own_AF Z h' b ty n g := by obtain ⟨vs, V, r⟩ := V; exact ⟨vs, V.other W q, r⟩
theorem own_AF.keep {a : Addr} {ws : List Addr} {ty : FieldType} {n : Nat} {g : Nat → Value} (V : own_AF Z h a ty n g) (K : Keep h h' ws) (q : a ∉ ws) : own_AF Z h' a ty n g := by obtain ⟨vs, V, r⟩ := V; exact ⟨vs, V.keep K q, r⟩
theorem own_AF.same {a : Addr} {i : Nat} {v : Value} {ty : FieldType} {n : Nat} {g : Nat → Value} (V : own_AF Z h a ty n g) (W : Wr h h' a i v) : own_AF Z h' a ty n (own_up g i v) := by
  obtain ⟨vs, V, hn, hg⟩ := V
  refine ⟨_, V.same W, by simpa using hn, fun j hj => ?_⟩
  by_cases hij : j = i
  · subst hij; rw [own_up_same, List.getElem?_set_self (by omega)]
  · rw [own_up_ne _ _ hij, List.getElem?_set_ne (Ne.symm hij)]; exact hg j hj
theorem own_AF.len {a : Addr} {ty : FieldType} {n : Nat} {g : Nat → Value} (V : own_AF Z h a ty n g) : n < 2147483648 := by obtain ⟨vs, ⟨c, -, -, q⟩, hn, -⟩ := V; omega
theorem own_AL.fn {a : Addr} {ty : FieldType} {vs : List Value} (V : own_AL Z h a ty vs) (n : Nat) (hn : vs.length = n) (d : Value) : own_AF Z h a ty n (fun j => vs.getD j d) := ⟨vs, V, hn, fun j hj => by simp only [List.getD_eq_getElem?_getD]; rw [List.getElem?_eq_getElem (by omega)]; rfl⟩
theorem own_AF.to {a : Addr} {ty : FieldType} {n : Nat} {g g' : Nat → Value} (V : own_AF Z h a ty n g) (e : ∀ j, j < n → g j = g' j) : own_AF Z h a ty n g' := by obtain ⟨vs, V, hn, hg⟩ := V; exact ⟨vs, V, hn, fun j hj => by rw [hg j hj, e j hj]⟩
theorem own_ialoadF (X : own_St p l e R s m args below meth c Z n0 bs maxL own T h cells slots) {a : Addr} {n : Nat} {g : Nat → Value} (V : own_AF Z h a .int n g) {j : Int32} {i : Nat} {v : Value} (hj : own_idx j i) (hi : i < n) (hv : g i = v) (d : own_ix bs pc .iaload 1 pc') (k : own_Wins p e below A T (mkF m pc' L (v :: st))) : own_Wins p e below A T (mkF m pc L (.int j :: .ref a :: st)) := by
  obtain ⟨vs, V, hn, hg⟩ := V
  exact own_iaload X V hj (by rw [hg i hi, hv]) d k
theorem own_laloadF (X : own_St p l e R s m args below meth c Z n0 bs maxL own T h cells slots) {a : Addr} {n : Nat} {g : Nat → Value} (V : own_AF Z h a .long n g) {j : Int32} {i : Nat} {v : Value} (hj : own_idx j i) (hi : i < n) (hv : g i = v) (d : own_ix bs pc .laload 1 pc') (k : own_Wins p e below A T (mkF m pc' L (v :: st))) : own_Wins p e below A T (mkF m pc L (.int j :: .ref a :: st)) := by
  obtain ⟨vs, V, hn, hg⟩ := V
  exact own_laload X V hj (by rw [hg i hi, hv]) d k
theorem own_baloadF (X : own_St p l e R s m args below meth c Z n0 bs maxL own T h cells slots) {a : Addr} {n : Nat} {g : Nat → Value} (V : own_AF Z h a .byte n g) {j : Int32} {i : Nat} {v : Value} (hj : own_idx j i) (hi : i < n) (hv : g i = v) (d : own_ix bs pc .baload 1 pc') (k : own_Wins p e below A T (mkF m pc' L (v :: st))) : own_Wins p e below A T (mkF m pc L (.int j :: .ref a :: st)) := by
  obtain ⟨vs, V, hn, hg⟩ := V
  exact own_baload X V hj (by rw [hg i hi, hv]) d k
theorem own_alenF (X : own_St p l e R s m args below meth c Z n0 bs maxL own T h cells slots) {a : Addr} {ty : FieldType} {n : Nat} {g : Nat → Value} (V : own_AF Z h a ty n g) (d : own_ix bs pc .arraylength 1 pc') (k : own_Wins p e below A T (mkF m pc' L (.int (Int32.ofNat n) :: st))) : own_Wins p e below A T (mkF m pc L (.ref a :: st)) := by
  obtain ⟨vs, V, rfl, hg⟩ := V
  exact own_alen X V d k
theorem own_iastoreF (X : own_St p l e R s m args below meth c Z n0 bs maxL own T h cells slots) {a : Addr} {n : Nat} {g : Nat → Value} (V : own_AF Z h a .int n g) (ga : n0 ≤ a) {j : Int32} {x : Int32} {i : Nat} (hj : own_idx j i) (hi : i < n) (d : own_ix bs pc .iastore 1 pc') (k : ∀ T' h', own_St p l e R s m args below meth c Z n0 bs maxL own T' h' cells slots → Wr h h' a i (.int x) → own_AF Z h' a .int n (own_up g i (.int x)) → own_Wins p e below A T' (mkF m pc' L st)) : own_Wins p e below A T (mkF m pc L (.int x :: .int j :: .ref a :: st)) := by
  have V0 := V
  obtain ⟨vs, V, hn, hg⟩ := V
  exact own_iastore X V ga hj (by omega) d (fun T' h' X' W' _ => k T' h' X' W' (V0.same W'))
theorem own_lastoreF (X : own_St p l e R s m args below meth c Z n0 bs maxL own T h cells slots) {a : Addr} {n : Nat} {g : Nat → Value} (V : own_AF Z h a .long n g) (ga : n0 ≤ a) {j : Int32} {x : Int64} {i : Nat} (hj : own_idx j i) (hi : i < n) (d : own_ix bs pc .lastore 1 pc') (k : ∀ T' h', own_St p l e R s m args below meth c Z n0 bs maxL own T' h' cells slots → Wr h h' a i (.long x) → own_AF Z h' a .long n (own_up g i (.long x)) → own_Wins p e below A T' (mkF m pc' L st)) : own_Wins p e below A T (mkF m pc L (.long x :: .int j :: .ref a :: st)) := by
  have V0 := V
  obtain ⟨vs, V, hn, hg⟩ := V
  exact own_lastore X V ga hj (by omega) d (fun T' h' X' W' _ => k T' h' X' W' (V0.same W'))
theorem own_bastoreF (X : own_St p l e R s m args below meth c Z n0 bs maxL own T h cells slots) {a : Addr} {n : Nat} {g : Nat → Value} (V : own_AF Z h a .byte n g) (ga : n0 ≤ a) {j : Int32} {x : Int32} {i : Nat} (hj : own_idx j i) (hi : i < n) (d : own_ix bs pc .bastore 1 pc') (k : ∀ T' h', own_St p l e R s m args below meth c Z n0 bs maxL own T' h' cells slots → Wr h h' a i (.int x.toInt8.toInt32) → own_AF Z h' a .byte n (own_up g i (.int x.toInt8.toInt32)) → own_Wins p e below A T' (mkF m pc' L st)) : own_Wins p e below A T (mkF m pc L (.int x :: .int j :: .ref a :: st)) := by
  have V0 := V
  obtain ⟨vs, V, hn, hg⟩ := V
  exact own_bastore X V ga hj (by omega) d (fun T' h' X' W' _ => k T' h' X' W' (V0.same W'))
/-- an object of a class with these fields (names and descriptors), holding these values -/
def own_Obj (Z : State) (h : Heap) (a : Addr) (C : String) (ns : List (String × String)) (vs : List Value) : Prop := Exa Z h a C ∧ ns.length = vs.length ∧ ∀ (i : Nat) (n d : String) (v : Value), ns[i]? = some (n, d) → vs[i]? = some v → Fld Z h a C n d v
theorem own_Obj.lt {a : Addr} {C : String} {ns : List (String × String)} {vs : List Value} (O : own_Obj Z h a C ns vs) : a < h.size := O.1.lt
theorem own_Obj.ext {a : Addr} {C : String} {ns : List (String × String)} {vs : List Value} (O : own_Obj Z h a C ns vs) (E : Ext h h') : own_Obj Z h' a C ns vs := ⟨O.1.ext E, O.2.1, fun i n d v h1 h2 => (O.2.2 i n d v h1 h2).ext E⟩
theorem own_Obj.other {a b : Addr} {sl : Nat} {w : Value} {C : String} {ns : List (String × String)} {vs : List Value} (O : own_Obj Z h b C ns vs) (W : Wr h h' a sl w) (q : b ≠ a) : own_Obj Z h' b C ns vs := ⟨O.1.wr W, O.2.1, fun i n d v h1 h2 => (O.2.2 i n d v h1 h2).other W (Or.inl q)⟩
theorem own_Obj.keep {a : Addr} {ws : List Addr} {C : String} {ns : List (String × String)} {vs : List Value} (O : own_Obj Z h a C ns vs) (K : Keep h h' ws) (q : a ∉ ws) : own_Obj Z h' a C ns vs := ⟨O.1.keep K, O.2.1, fun i n d v h1 h2 => (O.2.2 i n d v h1 h2).keep K q⟩
def own_Laid (Z : State) (a0 : Array Value) (C : String) (ns : List (String × String)) : Prop := (∀ q ∈ ns, Laid Z a0 C C q.1 q.2 ∧ ∃ t, parseFieldDescriptor q.2 = some t) ∧ (ns.map (·.1)).Nodup
theorem own_Obj.put {a : Addr} {C n d : String} {ns : List (String × String)} {vs : List Value} {i : Nat} {v : Value} (O : own_Obj Z h a C ns vs) (La : own_Laid Z a0 C ns) (hi : ns[i]? = some (n, d)) (W : Wr h h' a (Jvm.RoadKit.slotOf Z C n d) v) : own_Obj Z h' a C ns (vs.set i v) := by
  refine ⟨O.1.wr W, by simpa using O.2.1, fun j n' d' v' h1 h2 => ?_⟩
  by_cases hij : i = j
  · subst hij
    rw [hi] at h1
    obtain ⟨rfl, rfl⟩ : n = n' ∧ d = d' := by simpa using h1
    have hlt : i < vs.length := by rw [← O.2.1]; exact (List.getElem?_eq_some_iff.mp hi).1
    rw [List.getElem?_set_self hlt] at h2
    cases h2
    exact (O.2.2 i n d vs[i] hi (List.getElem?_eq_getElem hlt)).same W
  · rw [List.getElem?_set_ne hij] at h2
    refine (O.2.2 j n' d' v' h1 h2).other W (Or.inr ?_)
    obtain ⟨L1, t1, e1⟩ := La.1 _ (List.mem_of_getElem? hi)
    obtain ⟨L2, t2, e2⟩ := La.1 _ (List.mem_of_getElem? h1)
    refine slot_ne L2 L1 ?_ e2 e1
    intro hnn
    obtain ⟨li, ei⟩ := List.getElem?_eq_some_iff.mp hi
    obtain ⟨lj, ej⟩ := List.getElem?_eq_some_iff.mp h1
    have hp := List.pairwise_iff_getElem.mp La.2
    rcases Nat.lt_or_gt_of_ne hij with hlt | hlt
    · exact hp i j (by simpa using li) (by simpa using lj) hlt (by simp [ei, ej, hnn])
    · exact hp j i (by simpa using lj) (by simpa using li) hlt (by simp [ei, ej, hnn])
theorem own_getF (X : own_St p l e R s m args below meth c Z n0 bs maxL own T h cells slots) {i k : Nat} {a : Addr} {C n dd host : String} {ns : List (String × String)} {vs : List Value} {v : Value} (w : (Jvm.Cond.fieldLink own i C n dd).before a0 Z = true) (O : own_Obj Z h a C ns vs) (hi : ns[k]? = some (n, dd)) (hv : vs[k]? = some v) (d : own_ix bs pc (.getfield i) 3 pc')
    (kk : ∀ T', own_St p l e R s m args below meth c Z n0 bs maxL own T' h cells slots → own_Wins p e below A T' (mkF m pc' L (v :: st))) : own_Wins p e below A T (mkF m pc L (.ref a :: st)) := by
  obtain ⟨locs, Y, eT, N, hn, hx, hby, hml, hown, hZ, hlk⟩ := X
  obtain ⟨d, rfl⟩ := d
  obtain ⟨T', Y', e', st'⟩ := getF Y hx hZ hown (host := "") (Or.inl w) Via.refl eT (O.2.2 k n dd v hi hv) (g := mkF m pc L (.ref a :: st)) rfl rfl (hb hby d)
  exact own_by st' (kk T' ⟨_, Y', e', N, hn, hx, hby, hml, hown, hZ, hlk⟩)
theorem own_putF (X : own_St p l e R s m args below meth c Z n0 bs maxL own T h cells slots) {i k kc : Nat} {a : Addr} {C n dd : String} {ns : List (String × String)} {vs : List Value} {v v' : Value} {ty : FieldType} (w : (Jvm.Cond.fieldLink own i C n dd).before a0 Z = true) (O : own_Obj Z h a C ns vs) (La : own_Laid Z a0 C ns) (hi : ns[k]? = some (n, dd))
    (Ly : (Jvm.Cond.lays C C n dd).before a0 Z = true ∨ ((Jvm.Cond.laysFinal C C n dd).before a0 Z = true ∧ own = C ∧ meth.name = "<init>")) (wi : (Jvm.Cond.instantiable C kc).before a0 Z = true) (hty : parseFieldDescriptor dd = some ty) (hnr : narrow ty v = v') (hf : fits ty v' = true) (ga : n0 ≤ a) (d : own_ix bs pc (.putfield i) 3 pc')
    (kk : ∀ T' h', own_St p l e R s m args below meth c Z n0 bs maxL own T' h' cells slots → Wr h h' a (Jvm.RoadKit.slotOf Z C n dd) v' → own_Obj Z h' a C ns (vs.set k v') → own_Wins p e below A T' (mkF m pc' L st)) : own_Wins p e below A T (mkF m pc L (v :: .ref a :: st)) := by
  obtain ⟨locs, Y, eT, N, hn, hx, hby, hml, hown, hZ, hlk⟩ := X
  obtain ⟨d, rfl⟩ := d
  have hlt : k < vs.length := by rw [← O.2.1]; exact (List.getElem?_eq_some_iff.mp hi).1
  obtain ⟨T', h', Y', e', W', st'⟩ := putFN Y hx hZ hown w Via.refl eT (O.2.2 k n dd vs[k] hi (List.getElem?_eq_getElem hlt)) O.1 Ly wi hty hnr hf (g := mkF m pc L (v :: .ref a :: st)) rfl rfl (hb hby d)
  exact own_by st' (kk T' h' ⟨_, Y', e', Fr.snoc Y' N ga, W'.size ▸ hn, hx, hby, hml, hown, hZ, hlk⟩ W' (O.put La hi W'))
theorem own_new (X : own_St p l e R s m args below meth c Z n0 bs maxL own T h cells slots) {i nn : Nat} {C : String} {ns : List (String × String)} (w1 : (Jvm.Cond.classLink own i C).before a0 Z = true) (w2 : (Jvm.Cond.instantiable C nn).before a0 Z = true) (w3 : (Jvm.Cond.initialized C).before a0 Z = true) (La : own_Laid Z a0 C ns) (vs : List Value) (hvs : vs = ns.map fun q => match parseFieldDescriptor q.2 with | some t => defaultValue t | none => .null) (d : own_ix bs pc (.new i) 3 pc') (hc : cells + 1 ≤ R.cells) (hl : slots + nn ≤ R.slots)
    (kk : ∀ T' h' a, own_St p l e R s m args below meth c Z n0 bs maxL own T' h' (cells + 1) (slots + nn) → Ext h h' → a = h.size → n0 ≤ a → own_Obj Z h' a C ns vs → own_Wins p e below A T' (mkF m pc' L (.ref a :: st))) : own_Wins p e below A T (mkF m pc L st) := by
  obtain ⟨locs, Y, eT, N, hn, hx, hby, hml, hown, hZ, hlk⟩ := X
  obtain ⟨d, rfl⟩ := d
  obtain ⟨T', h', Y', e', E', A', D', -, st'⟩ := newO Y hx hZ hown w1 w2 w3 eT (g := mkF m pc L st) rfl (hb hby d) hc hl
  refine own_by st' (kk T' h' _ ⟨_, Y', e', N, Nat.le_trans hn E'.1, hx, hby, hml, hown, hZ, hlk⟩ E' rfl hn ⟨A', by simp [hvs], fun j n dd v h1 h2 => ?_⟩)
  obtain ⟨Lq, t, et⟩ := La.1 _ (List.mem_of_getElem? h1)
  rw [hvs, List.getElem?_map, h1] at h2
  simp only [Option.map_some, et, Option.some.injEq] at h2
  subst h2
  exact D' Lq et
theorem own_initO (X : own_St p l e R s m args below meth c Z n0 bs maxL own T h cells slots) {i : Nat} {a : Addr} (w1 : (Jvm.Cond.methodLink own i Lib.objectInit).before a0 Z = true) (w2 : (Jvm.Cond.instanceMethod Lib.objectInit).before a0 Z = true) (w3 : (Jvm.Cond.code Lib.objectInit ⟨#[0xb1]⟩ 1 none).before a0 Z = true) (d : own_ix bs pc (.invokespecial i) 3 pc') (hsz : L.size = maxL) (hf : 1 ≤ R.frames) (Wt : Nat) (hW : 2 * 0 + (st.map fun v => v.category).sum ≤ Wt) (hl : Wt + 12 ≤ R.locals)
    (kk : ∀ T', own_St p l e R s m args below meth c Z n0 bs maxL own T' h cells slots → own_Wins p e below A T' (mkF m pc' L st)) : own_Wins p e below A T (mkF m pc L (.ref a :: st)) := by
  obtain ⟨locs, Y, eT, N, hn, hx, hby, hml, hown, hZ, hlk⟩ := X
  obtain ⟨d, rfl⟩ := d
  obtain ⟨T', Y', e', st'⟩ := initO Y hx hZ hown w1 w2 w3 eT (g := mkF m pc L (.ref a :: st)) rfl (by rw [hml]; exact hsz) rfl (hb hby d) hf (W := Wt) hW hl
  exact own_by st' (kk T' ⟨_, Y', e', N, hn, hx, hby, hml, hown, hZ, hlk⟩)
/-- what a body does, called with these arguments over this heap: it returns v and leaves a heap with P v h' -/
def own_Con (l : Launch) (Z : State) (n0 : Nat) (y : MethodName) (bs : ByteArray) (maxL : Nat) (ret : Option FieldType) (rm : Room) (ws : List Jvm.Cond) (av : Array Value) (h0 : Heap) (P : Option Value → Heap → Prop) : Prop :=
  MetFree l y (head1 (Jvm.Cond.code y bs maxL ret :: ws) rm) (fun a U => a = av ∧ Z.Warmed39 U.vm ∧ U.heap = h0) (fun _ _ _ _ _ => True) (fun _ U o U' => ∃ v L, o = .returned v ∧ (Fr n0 L ∧ n0 ≤ U'.heap.size ∧ P v U'.heap) ∧ FrameEnd U o U' L rm.cells rm.slots)
def own_G (s : State) (below : List Frame) (n0 : Nat) (rm : Room) (P : Option Value → Heap → Prop) (U : State) (o : Outcome) : Prop :=
  U.status = .running ∧ Ended U below o ∧ ∃ v L, o = .returned v ∧ (Fr n0 L ∧ n0 ≤ U.heap.size ∧ P v U.heap) ∧ FrameEnd s o U L rm.cells rm.slots
theorem own_enter {l : Launch} {Z : State} {n0 : Nat} {y : MethodName} {bs : ByteArray} {maxL : Nat} {ret : Option FieldType} {rm : Room} {ws : List Jvm.Cond} {av : Array Value} {h0 : Heap} {P : Option Value → Heap → Prop} (hpl : plainFor y = true) (Z0 : n0 ≤ h0.size) (L0 : Array Slot) (ef : ∀ m, entryFrame m av maxL = mkF m 0 L0 [])
    (body : ∀ (p : Program) (e : Env) (s : State) (m : MethodId) (below : List Frame) (meth : Method) (c : Code) (T : State) (A : State → Outcome → Prop), own_St p l e rm s m av below meth c Z n0 bs maxL y.cls T h0 0 0 → meth.sig.returnType = ret → meth.name = y.name → (∀ U o, own_G s below n0 rm P U o → A U o) → own_Wins p e below A T (mkF m 0 L0 [])) :
    own_Con l Z n0 y bs maxL ret rm ws av h0 P := by
  refine MetFree.of_bodySF hpl hisR ?_
  intro p e s m args below meth c s₁ Bd hml0 hP hK
  obtain ⟨rfl, hZ, hh⟩ := hP
  have hnm := (name_of_methodNamed Bd.named Bd.method).1
  have X0 : own_St p l e rm s m _ below meth c Z n0 bs maxL y.cls s₁ h0 0 0 := ⟨[], Stand.of_body Bd, by rw [← hh, Bd.state]; rfl, Fr.nil n0, Z0, Bd.exec, Bd.bytes, hml0, findClass_of_methodNamed Bd.named, hZ, BodyLoose.notSynchronized Bd⟩
  obtain ⟨U, o, h1, h2⟩ := body p e s m below meth c s₁ (own_G s below n0 rm P) X0 Bd.returns hnm (fun _ _ g => g)
  exact ⟨U, o, castTop (ef m) h1, h2⟩
theorem own_ret0 (X : own_St p l e R s m args below meth c Z n0 bs maxL own T h cells slots) (hret : meth.sig.returnType = none) {P : Option Value → Heap → Prop} (fin : ∀ U o, own_G s below n0 R P U o → A U o) (hc : cells ≤ R.cells) (hs : slots ≤ R.slots) (hP : P none h) (d : own_ix bs pc .return_ 1 pc') : own_Wins p e below A T (mkF m pc L []) := by
  obtain ⟨locs, Y, eT, N, hn, hx, hby, hml, hown, hZ, hlk⟩ := X
  obtain ⟨fs, hr, hrun, hended, hW, hsame⟩ := Y.leave (v := none) (fun _ => rfl) hlk
  have eF : (T.setFrames fs).heap = h := eT
  exact ⟨_, _, Y.returnOut hx hret (hb hby d.1) hr, fin _ _ ⟨hrun, hended, _, _, rfl, ⟨N, by rw [eF]; exact hn, by rw [eF]; exact hP⟩, ⟨_, rfl⟩, hW, hsame.mono hc hs⟩⟩
theorem own_retJ (X : own_St p l e R s m args below meth c Z n0 bs maxL own T h cells slots) {z : Int64} (hret : meth.sig.returnType = some .long) {P : Option Value → Heap → Prop} (fin : ∀ U o, own_G s below n0 R P U o → A U o) (hc : cells ≤ R.cells) (hs : slots ≤ R.slots) (hP : P (some (.long z)) h) (d : own_ix bs pc .lreturn 1 pc') : own_Wins p e below A T (mkF m pc L (.long z :: st)) := by
  obtain ⟨locs, Y, eT, N, hn, hx, hby, hml, hown, hZ, hlk⟩ := X
  obtain ⟨fs, hr, hrun, hended, hW, hsame⟩ := Y.leave (v := (some (.long z))) (fun q => by rw [hret] at q; cases q) hlk
  have eF : (T.setFrames fs).heap = h := eT
  exact ⟨_, _, retOut Y hx hret rfl (Or.inr (Or.inl ⟨rfl, rfl, z, rfl⟩)) (hb hby d.1) hr, fin _ _ ⟨hrun, hended, _, _, rfl, ⟨N, by rw [eF]; exact hn, by rw [eF]; exact hP⟩, ⟨_, rfl⟩, hW, hsame.mono hc hs⟩⟩
theorem own_retI (X : own_St p l e R s m args below meth c Z n0 bs maxL own T h cells slots) {z : Int32} (hret : meth.sig.returnType = some .int) {P : Option Value → Heap → Prop} (fin : ∀ U o, own_G s below n0 R P U o → A U o) (hc : cells ≤ R.cells) (hs : slots ≤ R.slots) (hP : P (some (.int z)) h) (d : own_ix bs pc .ireturn 1 pc') : own_Wins p e below A T (mkF m pc L (.int z :: st)) := by
  obtain ⟨locs, Y, eT, N, hn, hx, hby, hml, hown, hZ, hlk⟩ := X
  obtain ⟨fs, hr, hrun, hended, hW, hsame⟩ := Y.leave (v := (some (.int z))) (fun q => by rw [hret] at q; cases q) hlk
  have eF : (T.setFrames fs).heap = h := eT
  exact ⟨_, _, retOut Y hx hret rfl (Or.inl ⟨rfl, Or.inl rfl, z, rfl⟩) (hb hby d.1) hr, fin _ _ ⟨hrun, hended, _, _, rfl, ⟨N, by rw [eF]; exact hn, by rw [eF]; exact hP⟩, ⟨_, rfl⟩, hW, hsame.mono hc hs⟩⟩
theorem own_retZ (X : own_St p l e R s m args below meth c Z n0 bs maxL own T h cells slots) {z : Int32} (hret : meth.sig.returnType = some .boolean) (hz : narrow .boolean (.int z) = .int z) {P : Option Value → Heap → Prop} (fin : ∀ U o, own_G s below n0 R P U o → A U o) (hc : cells ≤ R.cells) (hs : slots ≤ R.slots) (hP : P (some (.int z)) h) (d : own_ix bs pc .ireturn 1 pc') : own_Wins p e below A T (mkF m pc L (.int z :: st)) := by
  obtain ⟨locs, Y, eT, N, hn, hx, hby, hml, hown, hZ, hlk⟩ := X
  obtain ⟨fs, hr, hrun, hended, hW, hsame⟩ := Y.leave (v := (some (.int z))) (fun q => by rw [hret] at q; cases q) hlk
  have eF : (T.setFrames fs).heap = h := eT
  exact ⟨_, _, retOut Y hx hret hz (Or.inl ⟨rfl, Or.inr (Or.inl rfl), z, rfl⟩) (hb hby d.1) hr, fin _ _ ⟨hrun, hended, _, _, rfl, ⟨N, by rw [eF]; exact hn, by rw [eF]; exact hP⟩, ⟨_, rfl⟩, hW, hsame.mono hc hs⟩⟩
theorem own_retB (X : own_St p l e R s m args below meth c Z n0 bs maxL own T h cells slots) {z : Int32} (hret : meth.sig.returnType = some .byte) (hz : narrow .byte (.int z) = .int z) {P : Option Value → Heap → Prop} (fin : ∀ U o, own_G s below n0 R P U o → A U o) (hc : cells ≤ R.cells) (hs : slots ≤ R.slots) (hP : P (some (.int z)) h) (d : own_ix bs pc .ireturn 1 pc') : own_Wins p e below A T (mkF m pc L (.int z :: st)) := by
  obtain ⟨locs, Y, eT, N, hn, hx, hby, hml, hown, hZ, hlk⟩ := X
  obtain ⟨fs, hr, hrun, hended, hW, hsame⟩ := Y.leave (v := (some (.int z))) (fun q => by rw [hret] at q; cases q) hlk
  have eF : (T.setFrames fs).heap = h := eT
  exact ⟨_, _, retOut Y hx hret hz (Or.inl ⟨rfl, Or.inr (Or.inr (Or.inl rfl)), z, rfl⟩) (hb hby d.1) hr, fin _ _ ⟨hrun, hended, _, _, rfl, ⟨N, by rw [eF]; exact hn, by rw [eF]; exact hP⟩, ⟨_, rfl⟩, hW, hsame.mono hc hs⟩⟩
theorem own_retA (X : own_St p l e R s m args below meth c Z n0 bs maxL own T h cells slots) {z : Addr} {t : FieldType} (hret : meth.sig.returnType = some t) (ht : t.isReference = true) (hn' : narrow t (.ref z) = .ref z) {P : Option Value → Heap → Prop} (fin : ∀ U o, own_G s below n0 R P U o → A U o) (hc : cells ≤ R.cells) (hs : slots ≤ R.slots) (hP : P (some (.ref z)) h) (d : own_ix bs pc .areturn 1 pc') : own_Wins p e below A T (mkF m pc L (.ref z :: st)) := by
  obtain ⟨locs, Y, eT, N, hn, hx, hby, hml, hown, hZ, hlk⟩ := X
  obtain ⟨fs, hr, hrun, hended, hW, hsame⟩ := Y.leave (v := (some (.ref z))) (fun q => by rw [hret] at q; cases q) hlk
  have eF : (T.setFrames fs).heap = h := eT
  exact ⟨_, _, retOut Y hx hret hn' (Or.inr (Or.inr (Or.inr (Or.inr ⟨rfl, ht, rfl⟩)))) (hb hby d.1) hr, fin _ _ ⟨hrun, hended, _, _, rfl, ⟨N, by rw [eF]; exact hn, by rw [eF]; exact hP⟩, ⟨_, rfl⟩, hW, hsame.mono hc hs⟩⟩
theorem own_callS (X : own_St p l e R s m args below meth c Z n0 bs maxL own T h cells slots) {y : MethodName} {bs' : ByteArray} {maxL' : Nat} {ret' : Option FieldType} {rm : Room} {P : Option Value → Heap → Prop} {i : Nat} (argsL rest : List Value) {ps : List FieldType} {r : Option FieldType} (Wt : Nat) (hstk : st = argsL.reverse ++ rest) (w1 : (Jvm.Cond.methodLink own i y).before a0 Z = true) (w2 : (Jvm.Cond.static y).before a0 Z = true) (w3 : (Jvm.Cond.initialized y.cls).before a0 Z = true) (w4 : (Jvm.Cond.code y bs' maxL' ret').before a0 Z = true) (hy : y.cls ≠ "java/lang/invoke/MethodHandle" ∧ y.cls ≠ "java/lang/invoke/VarHandle")
    (C : own_Con l Z n0 y bs' maxL' ret' rm [] argsL.toArray h P) (d : own_ix bs pc (.invokestatic i) 3 pc') (hlen : parseMethodDescriptor y.desc = some ⟨ps, r⟩) (hl2 : argsL.length = ps.length) (hsz : L.size = maxL) (hW : 2 * 0 + (rest.map fun v => v.category).sum ≤ Wt) (hf : rm.frames + 1 ≤ R.frames) (hl : Wt + (maxL' + 11) + rm.locals ≤ R.locals) (hc : cells + rm.cells ≤ R.cells) (hs : slots + rm.slots ≤ R.slots)
    (kk : ∀ T' h' v, own_St p l e R s m args below meth c Z n0 bs maxL own T' h' (cells + rm.cells) (slots + rm.slots) → P v h' → own_Wins p e below A T' (mkF m pc' L (v.toList ++ rest))) : own_Wins p e below A T (mkF m pc L st) := by
  obtain ⟨locs, Y, eT, N, hn, hx, hby, hml, hown, hZ, hlk⟩ := X
  obtain ⟨d, rfl⟩ := d
  obtain ⟨v, _, ⟨T1, L1, k1, n1⟩, -, X1, ⟨Lc, hQ, l1, y1, z1⟩, st1⟩ := Jvm.LawKit.callS Y hx (y := y) hown (mvT hZ w1) (mvT hZ w2) (mvT hZ w3) (mvT hZ w4) hy (backOf (W := Wt) (bytes := bs') (maxL := maxL') (rm := rm) (Q := fun v h' L => Fr n0 L ∧ n0 ≤ h'.size ∧ P v h') C hZ w4 w3 hf hl) (g := mkF m pc L st) rfl (by rw [hml]; exact hsz) (argsL := argsL) (rest := rest) (lenOf hlen hl2) hstk hW (hb hby d) (fun _ _ => ⟨rfl, eT, hc, hs⟩)
  dsimp only [Pt.U, Pt.locs, Pt.cells, Pt.slots] at X1 l1 y1 z1 st1 hQ
  subst l1 y1 z1
  obtain ⟨N1, n1, hP⟩ := hQ
  exact own_by st1 (kk T1 _ v ⟨_, X1, rfl, Fr.app N N1, n1, hx, hby, hml, hown, hZ, hlk⟩ hP)
theorem own_callI (X : own_St p l e R s m args below meth c Z n0 bs maxL own T h cells slots) {y : MethodName} {bs' : ByteArray} {maxL' : Nat} {rm : Room} {P : Option Value → Heap → Prop} {i : Nat} (argsL rest : List Value) {ps : List FieldType} {r : Option FieldType} (Wt : Nat) {a : Addr} (hstk : st = argsL.reverse ++ .ref a :: rest) (hy1 : y.name = "<init>") (w1 : (Jvm.Cond.methodLink own i y).before a0 Z = true) (w2 : (Jvm.Cond.instanceMethod y).before a0 Z = true) (w3 : (Jvm.Cond.initialized y.cls).before a0 Z = true) (w4 : (Jvm.Cond.code y bs' maxL' none).before a0 Z = true) (hy : y.cls ≠ "java/lang/invoke/MethodHandle" ∧ y.cls ≠ "java/lang/invoke/VarHandle")
    (C : own_Con l Z n0 y bs' maxL' none rm [] (.ref a :: argsL).toArray h P) (d : own_ix bs pc (.invokespecial i) 3 pc') (hlen : parseMethodDescriptor y.desc = some ⟨ps, r⟩) (hl2 : argsL.length = ps.length) (hsz : L.size = maxL) (hW : 2 * 0 + (rest.map fun v => v.category).sum ≤ Wt) (hf : rm.frames + 1 ≤ R.frames) (hl : Wt + (maxL' + 11) + rm.locals ≤ R.locals) (hc : cells + rm.cells ≤ R.cells) (hs : slots + rm.slots ≤ R.slots)
    (kk : ∀ T' h' v, own_St p l e R s m args below meth c Z n0 bs maxL own T' h' (cells + rm.cells) (slots + rm.slots) → P v h' → own_Wins p e below A T' (mkF m pc' L (v.toList ++ rest))) : own_Wins p e below A T (mkF m pc L st) := by
  obtain ⟨locs, Y, eT, N, hn, hx, hby, hml, hown, hZ, hlk⟩ := X
  obtain ⟨d, rfl⟩ := d
  obtain ⟨v, _, ⟨T1, L1, k1, n1⟩, -, X1, ⟨Lc, hQ, l1, y1, z1⟩, st1⟩ := Y.specialBack hx (y := y) hy1 hown (mvT hZ w1) (mvT hZ w2) (mvT hZ w4) hy (backOf (W := Wt) (bytes := bs') (maxL := maxL') (rm := rm) (Q := fun v h' L => Fr n0 L ∧ n0 ≤ h'.size ∧ P v h') C hZ w4 w3 hf hl) (g := mkF m pc L st) rfl (by rw [hml]; exact hsz) (Steps.refl _) (a := a) (argsL := argsL) (rest := rest) (lenOf hlen hl2) hstk hW (hb hby d) (fun _ _ => ⟨rfl, eT, hc, hs⟩)
  dsimp only [Pt.U, Pt.locs, Pt.cells, Pt.slots] at X1 l1 y1 z1 st1 hQ
  subst l1 y1 z1
  obtain ⟨N1, n1, hP⟩ := hQ
  exact own_by (fun _ q => st1.trans q) (kk T1 _ v ⟨_, X1, rfl, Fr.app N N1, n1, hx, hby, hml, hown, hZ, hlk⟩ hP)
theorem own_callV (X : own_St p l e R s m args below meth c Z n0 bs maxL own T h cells slots) {y : MethodName} {bs' : ByteArray} {maxL' : Nat} {ret' : Option FieldType} {rm : Room} {P : Option Value → Heap → Prop} {i : Nat} (argsL rest : List Value) {ps : List FieldType} {r : Option FieldType} (Wt : Nat) {a : Addr} (hstk : st = argsL.reverse ++ .ref a :: rest) (w1 : (Jvm.Cond.methodLink own i y).before a0 Z = true) (w2 : (Jvm.Cond.declares y).before a0 Z = true) (w5 : (Jvm.Cond.selects y.cls y y).before a0 Z = true) (w6 : (Jvm.Cond.instanceMethod y).before a0 Z = true) (w3 : (Jvm.Cond.initialized y.cls).before a0 Z = true) (w4 : (Jvm.Cond.code y bs' maxL' ret').before a0 Z = true) (hy : y.cls ≠ "java/lang/invoke/MethodHandle" ∧ y.cls ≠ "java/lang/invoke/VarHandle") (E : Exa Z h a y.cls)
    (C : own_Con l Z n0 y bs' maxL' ret' rm [] (.ref a :: argsL).toArray h P) (d : own_ix bs pc (.invokevirtual i) 3 pc') (hlen : parseMethodDescriptor y.desc = some ⟨ps, r⟩) (hl2 : argsL.length = ps.length) (hsz : L.size = maxL) (hW : 2 * 0 + (rest.map fun v => v.category).sum ≤ Wt) (hf : rm.frames + 1 ≤ R.frames) (hl : Wt + (maxL' + 11) + rm.locals ≤ R.locals) (hc : cells + rm.cells ≤ R.cells) (hs : slots + rm.slots ≤ R.slots)
    (kk : ∀ T' h' v, own_St p l e R s m args below meth c Z n0 bs maxL own T' h' (cells + rm.cells) (slots + rm.slots) → P v h' → own_Wins p e below A T' (mkF m pc' L (v.toList ++ rest))) : own_Wins p e below A T (mkF m pc L st) := by
  obtain ⟨locs, Y, eT, N, hn, hx, hby, hml, hown, hZ, hlk⟩ := X
  obtain ⟨d, rfl⟩ := d
  obtain ⟨cq, kq, qa, qb, qc⟩ := isOf hZ eT E
  obtain ⟨v, _, ⟨T1, L1, k1, n1⟩, -, X1, ⟨Lc, hQ, l1, y1, z1⟩, st1⟩ := Y.virtualBack hx (y := y) (z := y) hown (mvT hZ w1) (mvT hZ w2) (notFace_of_selects (args := #[]) (mvT hZ w5)) (mvT hZ w5) (mvT hZ w6) hy (backOf (W := Wt) (bytes := bs') (maxL := maxL') (rm := rm) (Q := fun v h' L => Fr n0 L ∧ n0 ≤ h'.size ∧ P v h') C hZ w4 w3 hf hl) qa qc (g := mkF m pc L st) rfl (by rw [hml]; exact hsz) (Steps.refl _) (argsL := argsL) (rest := rest) (lenOf hlen hl2) hstk hW (hb hby d) (fun _ _ => ⟨rfl, eT, hc, hs⟩)
  dsimp only [Pt.U, Pt.locs, Pt.cells, Pt.slots] at X1 l1 y1 z1 st1 hQ
  subst l1 y1 z1
  obtain ⟨N1, n1, hP⟩ := hQ
  exact own_by (fun _ q => st1.trans q) (kk T1 _ v ⟨_, X1, rfl, Fr.app N N1, n1, hx, hby, hml, hown, hZ, hlk⟩ hP)
theorem own_callP (X : own_St p l e R s m args below meth c Z n0 bs maxL own T h cells slots) {y : MethodName} {bs' : ByteArray} {maxL' : Nat} {ret' : Option FieldType} {rm : Room} {P : Option Value → Heap → Prop} {i : Nat} (argsL rest : List Value) {ps : List FieldType} {r : Option FieldType} (Wt : Nat) {a : Addr} {kk' : Nat} (hstk : st = argsL.reverse ++ .ref a :: rest) (w1 : (Jvm.Cond.methodLink own i y).before a0 Z = true) (w2 : (Jvm.Cond.privateMethod y).before a0 Z = true) (w6 : (Jvm.Cond.instanceMethod y).before a0 Z = true) (w3 : (Jvm.Cond.initialized y.cls).before a0 Z = true) (w4 : (Jvm.Cond.code y bs' maxL' ret').before a0 Z = true) (wi : (Jvm.Cond.instantiable y.cls kk').before a0 Z = true) (hy : y.cls ≠ "java/lang/invoke/MethodHandle" ∧ y.cls ≠ "java/lang/invoke/VarHandle") (E : Exa Z h a y.cls)
    (C : own_Con l Z n0 y bs' maxL' ret' rm [] (.ref a :: argsL).toArray h P) (d : own_ix bs pc (.invokevirtual i) 3 pc') (hlen : parseMethodDescriptor y.desc = some ⟨ps, r⟩) (hl2 : argsL.length = ps.length) (hsz : L.size = maxL) (hW : 2 * 0 + (rest.map fun v => v.category).sum ≤ Wt) (hf : rm.frames + 1 ≤ R.frames) (hl : Wt + (maxL' + 11) + rm.locals ≤ R.locals) (hc : cells + rm.cells ≤ R.cells) (hs : slots + rm.slots ≤ R.slots)
    (kk : ∀ T' h' v, own_St p l e R s m args below meth c Z n0 bs maxL own T' h' (cells + rm.cells) (slots + rm.slots) → P v h' → own_Wins p e below A T' (mkF m pc' L (v.toList ++ rest))) : own_Wins p e below A T (mkF m pc L st) := by
  obtain ⟨locs, Y, eT, N, hn, hx, hby, hml, hown, hZ, hlk⟩ := X
  obtain ⟨d, rfl⟩ := d
  obtain ⟨cq, q1, q2⟩ := E.cell
  have hpr : s.PrivateAt y := Cond.privateMethod_at (mvP hZ w2 (args := #[]))
  obtain ⟨cI, kI, e1, e2, -, e3, -⟩ := Cond.instantiable_spec (mv (args := #[]) hZ wi)
  have hsel : (Jvm.Cond.selects y.cls y y).before args s = true := Jvm.Stand.selects_self_of_private e1 e2 (by cases hq : kI.isInterface <;> simp_all) hpr (mvT hZ w6) hy
  obtain ⟨v, _, ⟨T1, L1, k1, n1⟩, -, X1, ⟨Lc, hQ, l1, y1, z1⟩, st1⟩ := Y.privateBack hx (y := y) hown (mvT hZ w1) (mvT hZ w6) hsel hpr (mvT hZ w4) hy (backOf (W := Wt) (bytes := bs') (maxL := maxL') (rm := rm) (Q := fun v h' L => Fr n0 L ∧ n0 ≤ h'.size ∧ P v h') C hZ w4 w3 hf hl) (g := mkF m pc L st) rfl (by rw [hml]; exact hsz) (Steps.refl _) (a := a) (by rw [eT]; exact q1) q2 (argsL := argsL) (rest := rest) (lenOf hlen hl2) hstk hW (hb hby d) (fun _ _ => ⟨rfl, eT, hc, hs⟩)
  dsimp only [Pt.U, Pt.locs, Pt.cells, Pt.slots] at X1 l1 y1 z1 st1 hQ
  subst l1 y1 z1
  obtain ⟨N1, n1, hP⟩ := hQ
  exact own_by (fun _ q => st1.trans q) (kk T1 _ v ⟨_, X1, rfl, Fr.app N N1, n1, hx, hby, hml, hown, hZ, hlk⟩ hP)
end OwnLayer
theorem own_Lushr_bv (x : Int64) (q : Int32) (k : Nat) (hk : q.toBitVec.toNat % 64 = k) : (own_Lushr x q).toBitVec = x.toBitVec >>> k := by
  have h5 := (sm64 q k hk).2
  show x.toBitVec >>> ((q &&& 0x3f).toInt64.toBitVec % 64) = _
  rw [BitVec.ushiftRight_eq', BitVec.toNat_umod, (sm64 q k hk).1, BitVec.toNat_ofNat]
  congr 1
  show k % 2 ^ 64 % 64 = k
  omega
theorem own_Lshl_bv (x : Int64) (q : Int32) (k : Nat) (hk : q.toBitVec.toNat % 64 = k) : (own_Lshl x q).toBitVec = x.toBitVec <<< k := by
  show x.toBitVec <<< ((q &&& 0x3f).toInt64.toBitVec.smod 64) = _
  rw [BitVec.shiftLeft_eq', (sm64 q k hk).1, smod64 k (sm64 q k hk).2]
theorem own_Iushr_bv (x q : Int32) (k : Nat) (hk : q.toBitVec.toNat % 32 = k) : (own_Iushr x q).toBitVec = x.toBitVec >>> k := by
  have h1 : (q &&& 31).toBitVec.toNat = k := by
    show (q.toBitVec &&& (31 : Int32).toBitVec).toNat = _
    rw [BitVec.toNat_and, show (31 : Int32).toBitVec.toNat = 2 ^ 5 - 1 from by decide, Nat.and_two_pow_sub_one_eq_mod]; exact hk
  show x.toBitVec >>> ((q &&& 31).toBitVec % 32) = _
  rw [BitVec.ushiftRight_eq', BitVec.toNat_umod, h1]
  congr 1
  show k % 32 = k
  omega

theorem own_idx_iff {j : Int32} {k : Nat} : own_idx j k ↔ j.toInt = (k : Int) := by
  have h0 : (0 : Int32).toInt = 0 := by decide
  have h1 : j.toNatClampNeg = j.toInt.toNat := rfl
  rw [own_idx, Int32.lt_iff_toInt_lt, h0, h1]
  omega
theorem own_idx_nat {k : Nat} (h : k < 2147483648) : own_idx (Int32.ofNat k) k := own_idx_iff.mpr (Int32.toInt_ofNat_of_lt h)
theorem own_idx_add {a b : Int32} {m n : Nat} (ha : own_idx a m) (hb : own_idx b n) (h : m + n < 2147483648) : own_idx (a + b) (m + n) := by
  rw [own_idx_iff] at *
  have h1 := c_iadd a b
  have h2 := rng32 (a + b)
  omega
theorem own_idx_sub {a b : Int32} {m n : Nat} (ha : own_idx a m) (hb : own_idx b n) (h : n ≤ m) : own_idx (a - b) (m - n) := by
  rw [own_idx_iff] at *
  have h1 := c_isub a b
  have h2 := rng32 (a - b)
  have h3 := rng32 a
  omega
theorem own_idx_lt {a b : Int32} {m n : Nat} (ha : own_idx a m) (hb : own_idx b n) : a < b ↔ m < n := by
  rw [own_idx_iff] at *
  rw [Int32.lt_iff_toInt_lt]
  omega
theorem own_idx_eq {a b : Int32} {m n : Nat} (ha : own_idx a m) (hb : own_idx b n) : a = b ↔ m = n := by
  rw [own_idx_iff] at *
  rw [← Int32.toInt_inj]
  omega
theorem own_idx_range {a : Int32} {m : Nat} (ha : own_idx a m) : m < 2147483648 := by
  rw [own_idx_iff] at ha
  have := rng32 a
  omega
theorem own_idx_val {a : Int32} {m : Nat} (ha : own_idx a m) : a = Int32.ofNat m := (own_idx_eq ha (own_idx_nat (own_idx_range ha))).mpr rfl
theorem own_succ (i : Nat) : Int32.ofNat i + 1 = Int32.ofNat (i + 1) := by
  rw [Int32.ofNat_add]; rfl
theorem own_mod_idx (z : Int32) (d : Int32) (n : Nat) (hd : own_idx d n) (hn : 0 < n) : ∃ k, k < n ∧ own_idx ((z &&& 2147483647) % d) k := by
  have h1 := c_mask z 2147483647 31 (by decide) (by decide)
  have hd' := own_idx_iff.mp hd
  have h2 := (c_irem (z &&& 2147483647) d n hd').1 (by rw [h1]; omega)
  refine ⟨((z &&& 2147483647).toInt % (n : Int)).toNat, ?_, ?_⟩
  · have := Int.emod_lt_of_pos (z &&& 2147483647).toInt (show (0 : Int) < n by omega)
    have := Int.emod_nonneg (z &&& 2147483647).toInt (show (n : Int) ≠ 0 by omega)
    omega
  · rw [own_idx_iff, h2]
    have := Int.emod_nonneg (z &&& 2147483647).toInt (show (n : Int) ≠ 0 by omega)
    omega

theorem own_idx_bv {j : Int32} {k : Nat} (h : own_idx j k) : j.toBitVec.toNat = k := by
  have h1 := own_idx_iff.mp h
  have h2 := own_idx_range h
  have h3 : j.toInt = j.toBitVec.toInt := rfl
  rw [h3, BitVec.toInt_eq_toNat_cond] at h1
  split at h1 <;> omega
theorem own_idx_sh {j : Int32} {k : Nat} (h : own_idx j k) (hk : k < 64) : j.toBitVec.toNat % 64 = k := by rw [own_idx_bv h]; omega
theorem own_not (x : Int64) : (x ^^^ (-1 : Int64)).toBitVec = ~~~ x.toBitVec := by
  rw [Int64.toBitVec_xor, show (-1 : Int64).toBitVec = BitVec.allOnes 64 by decide, BitVec.xor_allOnes]
/-- one bit of a long, as a long -/
theorem own_bit1 (x : Int64) (j : Int32) (k : Nat) (h : own_idx j k) (hk : k < 64) : (own_Lushr x j) &&& (1 : Int64) = if x.toBitVec.getLsbD k then 1 else 0 := by
  apply Int64.toBitVec_inj.mp
  rw [Int64.toBitVec_and, own_Lushr_bv x j k (own_idx_sh h hk), show (1 : Int64).toBitVec = 1#64 by decide]
  have e : (if x.toBitVec.getLsbD k then (1 : Int64) else 0).toBitVec = if x.toBitVec.getLsbD k then 1#64 else 0#64 := by split <;> rfl
  rw [e]
  apply BitVec.eq_of_getLsbD_eq
  intro i hi
  rw [BitVec.getLsbD_and, BitVec.getLsbD_ushiftRight, BitVec.getLsbD_one]
  by_cases h0 : i = 0
  · subst h0; cases hx : x.toBitVec.getLsbD k <;> simp [hx]
  · cases hx : x.toBitVec.getLsbD k <;> simp [h0]
theorem own_div64 {j : Int32} {k : Nat} (h : own_idx j k) : own_idx (j / (64 : Int32)) (k / 64) ∧ own_idx (j % (64 : Int32)) (k % 64) := by
  have h1 := own_idx_iff.mp h
  have h2 := (c_idiv j 64 64 (by decide) (by decide)).1 (by omega)
  have h3 := (c_irem j 64 64 (by decide)).1 (by omega)
  exact ⟨own_idx_iff.mpr (by omega), own_idx_iff.mpr (by omega)⟩
theorem own_and_idx (z m : Int32) (b : Nat) (hb : b ≤ 31) (hm : m.toBitVec.toNat = 2 ^ b - 1) : ∃ k, k < 2 ^ b ∧ own_idx (z &&& m) k := by
  have h1 := c_mask z m b hb hm
  have h2 : (0 : Int) < ((2 ^ b : Nat) : Int) := by have := Nat.two_pow_pos b; omega
  have h3 := Int.emod_nonneg z.toInt (show ((2 ^ b : Nat) : Int) ≠ 0 by omega)
  have h4 := Int.emod_lt_of_pos z.toInt h2
  exact ⟨(z &&& m).toInt.toNat, by omega, own_idx_iff.mpr (by omega)⟩
theorem own_ushr_idx {j q : Int32} {k : Nat} (n : Nat) (h : own_idx j k) (hq : q.toBitVec.toNat % 32 = n) (hn : 0 < n) : own_idx (own_Iushr j q) (k / 2 ^ n) := by
  have h1 := own_idx_iff.mp h
  have h2 := own_idx_range h
  have h3 := c_iushr j q n hq hn
  rw [own_idx_iff]
  show ((j.toUInt32 >>> (q &&& 31).toUInt32).toInt32).toInt = _
  rw [h3, h1, show (k : Int) % 4294967296 = (k : Int) by omega]
  exact (Int.natCast_ediv _ _).symm
theorem own_mul64 {j : Int32} {k : Nat} (h : own_idx j k) (hk : 64 * k < 2147483648) : own_idx (j * (64 : Int32)) (64 * k) := by
  rw [own_idx_iff] at *
  have h1 := c_imul j 64
  have h2 := rng32 (j * 64)
  have h3 : (64 : Int32).toInt = 64 := by decide
  rw [h3, h] at h1
  omega

def own_mx (x y : Int32) : Int32 := if x < y then y else x
def own_mn (x y : Int32) : Int32 := if y < x then y else x
theorem own_z16 (k : Nat) (hk : k < 16) : ([(.int (0 : Int32)), (.int (0 : Int32)), (.int (0 : Int32)), (.int (0 : Int32)), (.int (0 : Int32)), (.int (0 : Int32)), (.int (0 : Int32)), (.int (0 : Int32)), (.int (0 : Int32)), (.int (0 : Int32)), (.int (0 : Int32)), (.int (0 : Int32)), (.int (0 : Int32)), (.int (0 : Int32)), (.int (0 : Int32)), (.int (0 : Int32))] : List Value)[k]? = some (.int 0) := by
  match k, hk with
  | 0, _ => rfl
  | 1, _ => rfl
  | 2, _ => rfl
  | 3, _ => rfl
  | 4, _ => rfl
  | 5, _ => rfl
  | 6, _ => rfl
  | 7, _ => rfl
  | 8, _ => rfl
  | 9, _ => rfl
  | 10, _ => rfl
  | 11, _ => rfl
  | 12, _ => rfl
  | 13, _ => rfl
  | 14, _ => rfl
  | 15, _ => rfl
  | n + 16, h => exact absurd h (by omega)

def own_hs (h : Int64) (t c : Int32) : Int64 := ((h ^^^ ((own_Lshl t.toInt64 32) ||| c.toInt64)) * (-7046029254386353131 : Int64)) ^^^ (own_Lushr ((h ^^^ ((own_Lshl t.toInt64 32) ||| c.toInt64)) * (-7046029254386353131 : Int64)) 29)
def own_stp (h : Int64) (t c : Int32) : Int64 := ((h ^^^ ((t.toInt64 * 4294967296) + c.toInt64)) * (-7046029254386353131 : Int64)) ^^^ (own_Lushr ((h ^^^ ((t.toInt64 * 4294967296) + c.toInt64)) * (-7046029254386353131 : Int64)) 29)
theorem own_ar (k : Nat) (m : Int) (hk : k < 16) (h : (m - (k : Int) * 4294967296) % 18446744073709551616 = 0) (h1 : -9223372036854775808 ≤ m ∧ m < 9223372036854775808) : m = (k : Int) * 4294967296 := by omega
theorem own_ar2 (k : Nat) (m c : Int) (hk : k < 16) (hc : 0 ≤ c ∧ c < 2147483648) (h : (m - ((k : Int) * 4294967296 + c)) % 18446744073709551616 = 0) (h1 : -9223372036854775808 ≤ m ∧ m < 9223372036854775808) : m = (k : Int) * 4294967296 + c := by omega
theorem own_hs_stp (h : Int64) (t c : Int32) (k : Nat) (ht : own_idx t k) (hk : k < 16) (hc : 0 < c) : own_hs h t c = own_stp h t c := by
  have e : (own_Lshl t.toInt64 32) ||| c.toInt64 = (t.toInt64 * 4294967296) + c.toInt64 := by
    have h1 : (t.toInt64).toInt = k := by rw [c_i2l]; exact own_idx_iff.mp ht
    have h2 : (c.toInt64).toInt = c.toInt := c_i2l c
    have h3 := rng32 c
    have hc' : 0 < c.toInt := by rw [Int32.lt_iff_toInt_lt, show (0 : Int32).toInt = 0 by decide] at hc; exact hc
    have hcc : 0 ≤ c.toInt ∧ c.toInt < 2147483648 := by omega
    have h4 : ((own_Lshl t.toInt64 32).toInt - (t.toInt64).toInt * (2 ^ 32 : Nat)) % 18446744073709551616 = 0 := c_lshl t.toInt64 32 32 (by decide)
    have h5 := rng64 (own_Lshl t.toInt64 32)
    rw [h1] at h4
    have h6 : (own_Lshl t.toInt64 32).toInt = (k : Int) * 4294967296 := by omega
    have h7 := c_orL (own_Lshl t.toInt64 32) c.toInt64 32 (by decide) 4294967296 (by decide) (by rw [h6]; omega) (by omega) (by omega)
    rw [h6, h2] at h7
    have e1 := own_ar2 k _ c.toInt hk hcc h7 (rng64 _)
    have h9 := c_lmul t.toInt64 4294967296
    rw [h1, show (4294967296 : Int64).toInt = 4294967296 by decide] at h9
    have h10 := own_ar k _ hk h9 (rng64 _)
    have h11 := c_ladd (t.toInt64 * 4294967296) c.toInt64
    rw [h10, h2] at h11
    have e2 := own_ar2 k _ c.toInt hk hcc h11 (rng64 _)
    exact Int64.toInt_inj.mp (e1.trans e2.symm)
  rw [own_hs, own_stp, e]
theorem own_b15 (z : Int32) : ∃ k, k < 2 ^ 4 ∧ own_idx (z &&& 15) k := own_and_idx z 15 4 (by decide) (by decide)
theorem own_next (a z : Int32) (k : Nat) (ha : own_idx a k) (hk : k < 16) : ∃ q, q < 16 ∧ own_idx (((a + 1) + (z &&& 14)) &&& 15) q ∧ q ≠ k := by
  have h1 := own_idx_iff.mp ha
  have h14 : (z &&& 14).toInt % 2 = 0 ∧ 0 ≤ (z &&& 14).toInt ∧ (z &&& 14).toInt ≤ 14 := by
    have hb := c_and z 14 (by decide)
    have hp := par (z &&& 14)
    rw [show (14 : Int32).toInt = 14 by decide] at hb
    have : (z &&& 14).toBitVec.toNat % 2 = 0 := by
      show (z.toBitVec &&& (14 : Int32).toBitVec).toNat % 2 = 0
      have e : ((z.toBitVec &&& (14 : Int32).toBitVec).toNat).testBit 0 = false := by
        rw [BitVec.toNat_and, Nat.testBit_and, show ((14 : Int32).toBitVec.toNat).testBit 0 = false by decide, Bool.and_false]
      rw [Nat.testBit_zero] at e
      have e' := of_decide_eq_false e
      exact (Nat.mod_two_eq_zero_or_one _).resolve_right e'
    omega
  have h2 := c_iadd a 1
  have h3 := rng32 (a + 1)
  rw [show (1 : Int32).toInt = 1 by decide] at h2
  have h4 := c_iadd (a + 1) (z &&& 14)
  have h5 := rng32 ((a + 1) + (z &&& 14))
  have h6 := c_mask ((a + 1) + (z &&& 14)) 15 4 (by decide) (by decide)
  exact ⟨((((a + 1) + (z &&& 14)) &&& 15)).toInt.toNat, by omega, own_idx_iff.mpr (by omega), by omega⟩
theorem own_mx_pos (z : Int32) : 0 < own_mx 1 z := by
  rw [own_mx]
  split
  · rename_i h
    rw [Int32.lt_iff_toInt_lt, show (1 : Int32).toInt = 1 by decide] at h
    rw [Int32.lt_iff_toInt_lt, show (0 : Int32).toInt = 0 by decide]
    omega
  · decide

theorem own_lt_of {a b : Int32} (h : ¬ b < a) (hn : ¬ a = b) : a < b := by
  rw [Int32.lt_iff_toInt_lt] at *
  have : a.toInt ≠ b.toInt := fun q => hn (Int32.toInt_inj.mp q)
  omega
section OwnExtra
variable {p : Program} {l : Launch} {e : Env} {R : Room} {s : State} {m : MethodId} {args : Array Value} {below : List Frame} {meth : Method} {c : Code} {T : State} {cells slots : Nat} {Z : State} {a0 : Array Value} {h h' : Heap} {n0 : Nat} {A : State → Outcome → Prop} {bs : ByteArray} {maxL : Nat} {own : String} {pc pc' : Nat} {L L' : Array Slot} {st : List Value}
theorem own_anew (X : own_St p l e R s m args below meth c Z n0 bs maxL own T h cells slots) {i : Nat} {C : String} (w1 : (Jvm.Cond.classLink own i C).before a0 Z = true) (w2 : (Jvm.Cond.arrayOver (.object C)).before a0 Z = true) (d : own_ix bs pc (.anewarray i) 3 pc') {z : Int32} {n : Nat} (hz : own_idx z n) (cap : Nat) (hcap : n ≤ cap) (hb1 : cap * 8 ≤ 536870912) (hc : cells + 1 ≤ R.cells) (hl : slots + cap ≤ R.slots)
    (k : ∀ T' h' a, own_St p l e R s m args below meth c Z n0 bs maxL own T' h' (cells + 1) (slots + cap) → Ext h h' → a = h.size → n0 ≤ a → own_AL Z h' a (.object C) (List.replicate n .null) → own_Wins p e below A T' (mkF m pc' L (.ref a :: st))) : own_Wins p e below A T (mkF m pc L (.int z :: st)) := by
  obtain ⟨locs, Y, eT, N, hn, hx, hby, hml, hown, hZ, hlk⟩ := X
  obtain ⟨d, rfl⟩ := d
  obtain ⟨T', h', cA, Y', e', E', A', -, st'⟩ := newR Y hx hZ hown w1 w2 eT (g := mkF m pc L (.int z :: st)) rfl (hb hby d) rfl hz.1 (cap := cap) (by rw [hz.2]; exact hcap) hb1 hc hl
  exact own_by st' (k T' h' _ ⟨_, Y', e', N, Nat.le_trans hn E'.1, hx, hby, hml, hown, hZ, hlk⟩ E' rfl hn (own_AL.new A' hz.2 (by omega)))
/-- System.arraycopy within one array of ints -/
theorem own_acopy (X : own_St p l e R s m args below meth c Z n0 bs maxL own T h cells slots) {i : Nat} {a : Addr} {vs : List Value} (rest : List Value) (Wt : Nat) (w1 : (Jvm.Cond.methodLink own i Jvm.Stand.acN).before a0 Z = true) (w2 : (Jvm.Cond.native Jvm.Stand.acN).before a0 Z = true) (w3 : (Jvm.Cond.static Jvm.Stand.acN).before a0 Z = true) (w4 : (Jvm.Cond.initialized "java/lang/System").before a0 Z = true)
    (V : own_AL Z h a .int vs) (hfit : ∀ v ∈ vs, fits .int v = true) (ga : n0 ≤ a) {sp dp nn : Int32} {s' d' n' : Nat} (hsp : own_idx sp s') (hdp : own_idx dp d') (hnn : own_idx nn n') (h4 : s' + n' ≤ vs.length) (h5 : d' + n' ≤ vs.length) (d : own_ix bs pc (.invokestatic i) 3 pc') (hsz : L.size = maxL) (hf : 1 ≤ R.frames) (hW : 2 * 0 + (rest.map fun v => v.category).sum ≤ Wt) (hl : Wt + (nativeFrameWords "java/lang/System" "arraycopy" 5 + 11) ≤ R.locals)
    (k : ∀ T' h', own_St p l e R s m args below meth c Z n0 bs maxL own T' h' cells slots → Keep h h' [a] → own_AL Z h' a .int (vs.take d' ++ ((List.range n').map fun i => vs.getD (s' + i) (.int 0)) ++ vs.drop (d' + n')) → own_Wins p e below A T' (mkF m pc' L rest)) : own_Wins p e below A T (mkF m pc L (.int nn :: .int dp :: .ref a :: .int sp :: .ref a :: rest)) := by
  obtain ⟨locs, Y, eT, N, hn, hx, hby, hml, hown, hZ, hlk⟩ := X
  obtain ⟨d, rfl⟩ := d
  obtain ⟨cl, Ar, q, r⟩ := V
  have hln : own_idx (Int32.ofNat vs.length) vs.length := own_idx_nat r
  have A1 : Arv Z h a cl.cls .int (Int32.ofNat vs.length) vs (.int 0) := by
    refine ⟨cl, Ar, rfl, by rw [hln.2, q]; simp, hln.1, fun j hj => ?_, fun j hj => ?_⟩
    · rw [q] at hj ⊢
      have hj' : j < vs.length := by simpa using hj
      simp [List.getD_eq_getElem?_getD, List.getElem?_eq_getElem hj']
    · rw [q] at hj
      have hj' : j < vs.length := by simpa using hj
      simp only [List.getD_eq_getElem?_getD, List.getElem?_eq_getElem hj', Option.getD_some]
      exact hfit _ (List.getElem_mem hj')
  obtain ⟨T', h', Lc, Y', e', N', K', V', st'⟩ := cpA Y hx hZ hown w1 w2 w3 w4 eT A1 A1 (us := (List.range n').map fun i => vs.getD (s' + i) (.int 0)) (Or.inl ⟨rfl, rfl⟩) hsp.1 hdp.1 hnn.1 (by rw [hsp.2, hnn.2, hln.2]; exact h4) (by rw [hdp.2, hnn.2, hln.2]; exact h5) (by rw [hsp.2, hnn.2]) (by rw [hdp.2, hnn.2]; exact h5) N ga (g := mkF m pc L (.int nn :: .int dp :: .ref a :: .int sp :: .ref a :: rest)) rfl (by rw [hml]; exact hsz) rfl (hb hby d) hf (W := Wt) hW hl
  rw [hdp.2, hnn.2] at V'
  refine own_by st' (k T' h' ⟨_, Y', e', N', Nat.le_trans hn K'.1, hx, hby, hml, hown, hZ, hlk⟩ K' ?_)
  obtain ⟨c2, Ar2, -, S2, -, H2, -⟩ := V'
  have hlen : (vs.take d' ++ ((List.range n').map fun i => vs.getD (s' + i) (.int 0)) ++ vs.drop (d' + n')).length = vs.length := by simp; omega
  refine ⟨c2, Ar2, ?_, by rw [hlen]; exact r⟩
  apply Array.ext_getElem?
  intro j
  by_cases hj : j < c2.slots.size
  · rw [H2 j hj]
    have hj2 : j < (vs.take d' ++ ((List.range n').map fun i => vs.getD (s' + i) (.int 0)) ++ vs.drop (d' + n')).length := by rw [hlen]; rw [S2, hln.2] at hj; exact hj
    simp only [List.getElem?_toArray]
    rw [List.getD_eq_getElem?_getD, List.getElem?_eq_getElem hj2]; rfl
  · rw [Array.getElem?_eq_none (by omega)]
    have : (vs.take d' ++ ((List.range n').map fun i => vs.getD (s' + i) (.int 0)) ++ vs.drop (d' + n')).length ≤ j := by rw [hlen]; rw [S2, hln.2] at hj; omega
    simp only [List.getElem?_toArray]
    rw [List.getElem?_eq_none this]
/-- a constructor by its contract, where the entry has been resolved before -/
theorem own_callR (X : own_St p l e R s m args below meth c Z n0 bs maxL own T h cells slots) {y : MethodName} {bs' : ByteArray} {maxL' : Nat} {rm : Room} {P : Option Value → Heap → Prop} {i : Nat} (argsL rest : List Value) {ps : List FieldType} {r : Option FieldType} (Wt : Nat) {a : Addr} (hstk : st = argsL.reverse ++ .ref a :: rest) (hy1 : y.name = "<init>") (w1 : (Jvm.Cond.methodRef own i y).before a0 Z = true) (w2 : (Jvm.Cond.instanceMethod y).before a0 Z = true) (w3 : (Jvm.Cond.initialized y.cls).before a0 Z = true) (w4 : (Jvm.Cond.code y bs' maxL' none).before a0 Z = true) (hy : y.cls ≠ "java/lang/invoke/MethodHandle" ∧ y.cls ≠ "java/lang/invoke/VarHandle")
    (C : own_Con l Z n0 y bs' maxL' none rm [] (.ref a :: argsL).toArray h P) (d : own_ix bs pc (.invokespecial i) 3 pc') (hlen : parseMethodDescriptor y.desc = some ⟨ps, r⟩) (hl2 : argsL.length = ps.length) (hsz : L.size = maxL) (hW : 2 * 0 + (rest.map fun v => v.category).sum ≤ Wt) (hf : rm.frames + 1 ≤ R.frames) (hl : Wt + (maxL' + 11) + rm.locals ≤ R.locals) (hc : cells + rm.cells ≤ R.cells) (hs : slots + rm.slots ≤ R.slots)
    (kk : ∀ T' h' v, own_St p l e R s m args below meth c Z n0 bs maxL own T' h' (cells + rm.cells) (slots + rm.slots) → P v h' → own_Wins p e below A T' (mkF m pc' L (v.toList ++ rest))) : own_Wins p e below A T (mkF m pc L st) := by
  obtain ⟨locs, Y, eT, N, hn, hx, hby, hml, hown, hZ, hlk⟩ := X
  obtain ⟨d, rfl⟩ := d
  have hZT : Z.Warmed39 T.vm := wtrans hZ Y.warmed
  obtain ⟨mk0, meth0, hn0, -, -, -⟩ := Cond.instanceMethod_spec w2
  have w1T := Cond.methodRef_warmed39 hZT hn0 hy w1
  obtain ⟨mk, methM, hnamed, hmethM, hstM, habM⟩ := Cond.instanceMethod_spec (mvT (args := #[]) hZ w2)
  obtain ⟨methM', cM, hmethM', -, -, -, -, -, -, hsigM⟩ := Cond.code_spec hnamed (mvT (args := #[]) hZ w4)
  cases hmethM.symm.trans hmethM'
  have hal := Y.warmed.alike
  have hcur : (Z.setVm T.vm).vm.findClass own = some m.cls := by show T.vm.findClass own = _; rw [hal.findClass]; exact hown
  obtain ⟨mf, c', hfound, hready, hfc, hnr⟩ := Cond.methodRef_named e hcur w1T
  have hnT : T.methodNamed? y = some mk := Y.named hnamed
  have hnZ : (Z.setVm T.vm).methodNamed? y = some mk := hnT
  have hff := State.methodFound?_of_named hnZ hy
  have hmf : mf = mk := Option.some.inj (hfound.symm.trans hff)
  subst hmf
  have hc' : c' = mf.cls := Option.some.inj (hfc.symm.trans (findClass_of_methodNamed hnZ))
  subst hc'
  obtain ⟨kT, hkT, -⟩ := className_of_methodNamed hnT
  have hmT : T.vm.method? mf = some methM := by rw [hal.method?]; exact hmethM
  obtain ⟨hnm, hdm⟩ := name_of_methodNamed hnT hmT
  have hlook : lookupSpecial T.vm mf.cls "<init>" methM.desc = .method mf := by rw [hdm, ← hy1]; exact lookupSpecial_of_named hnT hmT hstM
  obtain ⟨v, B, X1, hpost, hsteps⟩ := backOf (W := Wt) (bytes := bs') (maxL := maxL') (rm := rm) (Q := fun v h' L => Fr n0 L ∧ n0 ≤ h'.size ∧ P v h') C hZ w4 w3 hf hl (p := p) (e := e) (below := below) (args := args) (len := 3) m meth c ⟨T, locs, cells, slots⟩ (mkF m pc L rest) (.invokespecial i) mf (.ref a :: argsL).toArray Y rfl (by rw [hml]; exact hsz) (hb hby d) hW hnT ⟨rfl, eT, hc, hs⟩
  obtain ⟨T1, L1, k1, n1⟩ := B
  obtain ⟨Lc, hQ, l1, y1, z1⟩ := hpost
  dsimp only [Pt.U, Pt.locs, Pt.cells, Pt.slots] at X1 l1 y1 z1 hsteps hQ
  subst l1 y1 z1
  obtain ⟨N1, n1, hP⟩ := hQ
  refine own_by (fun target q => ?_) (kk T1 _ v ⟨_, X1, rfl, Fr.app N N1, n1, hx, hby, hml, hown, hZ, hlk⟩ hP)
  show Steps p.tables e below (T.setTop (mkF m pc L st)) target
  jvm_step Y.here [hx, (hb hby d), invokespecial.wp_init (e := e) (s := T) (k := kT) (meth := methM) (m := mf) (a := a) (args := argsL) (rest := rest) (f := mkF m pc L st) Y.here.top hnr hready hkT hmT (by rw [hnm]; exact hy1) hstM habM hlook (lenOf hlen hl2 _ hsigM) hstk]
  intro acts
  rw [doInvoke_state]
  exact hsteps.trans q
end OwnExtra
def own_ns_Tb : List (String × String) := [("numbered", "Lcom/example/depth2/depth2/NetTokenTable$Numbered;")]
theorem own_laid_Tb {Z : State} {a0 : Array Value} (hw : ∀ d ∈ tables_1, d.before a0 Z = true) : own_Laid Z a0 "com/example/depth2/depth2/NetTokenTable" own_ns_Tb := by
  refine ⟨?_, by decide +kernel⟩
  intro q hq
  simp only [own_ns_Tb, List.mem_cons, List.not_mem_nil, or_false] at hq
  rcases hq with rfl
  · exact ⟨Or.inl (hw _ (List.mem_of_getElem? (i := 41) rfl)), (.object "com/example/depth2/depth2/NetTokenTable$Numbered"), by decide +kernel⟩
def own_ns_Nu : List (String × String) := [("tokens", "[Lcom/example/depth2/depth2/NetToken;"), ("places", "[I"), ("hashes", "[I"), ("slots", "[I")]
theorem own_laid_Nu {Z : State} {a0 : Array Value} (hw : ∀ d ∈ tables_1, d.before a0 Z = true) : own_Laid Z a0 "com/example/depth2/depth2/NetTokenTable$Numbered" own_ns_Nu := by
  refine ⟨?_, by decide +kernel⟩
  intro q hq
  simp only [own_ns_Nu, List.mem_cons, List.not_mem_nil, or_false] at hq
  rcases hq with rfl | rfl | rfl | rfl
  · exact ⟨Or.inr (hw _ (List.mem_of_getElem? (i := 33) rfl)), (.array (.object "com/example/depth2/depth2/NetToken")), by decide +kernel⟩
  · exact ⟨Or.inr (hw _ (List.mem_of_getElem? (i := 35) rfl)), (.array .int), by decide +kernel⟩
  · exact ⟨Or.inr (hw _ (List.mem_of_getElem? (i := 37) rfl)), (.array .int), by decide +kernel⟩
  · exact ⟨Or.inr (hw _ (List.mem_of_getElem? (i := 39) rfl)), (.array .int), by decide +kernel⟩
def own_ns_Pm : List (String × String) := [("tokens", "[I"), ("copies", "[I"), ("places", "[I"), ("table", "Lcom/example/depth2/depth2/NetTokenTable;"), ("size", "I")]
theorem own_laid_Pm {Z : State} {a0 : Array Value} (hw : ∀ d ∈ tables_1, d.before a0 Z = true) : own_Laid Z a0 "com/example/depth2/depth2/PackedMarking" own_ns_Pm := by
  refine ⟨?_, by decide +kernel⟩
  intro q hq
  simp only [own_ns_Pm, List.mem_cons, List.not_mem_nil, or_false] at hq
  rcases hq with rfl | rfl | rfl | rfl | rfl
  · exact ⟨Or.inl (hw _ (List.mem_of_getElem? (i := 47) rfl)), (.array .int), by decide +kernel⟩
  · exact ⟨Or.inl (hw _ (List.mem_of_getElem? (i := 49) rfl)), (.array .int), by decide +kernel⟩
  · exact ⟨Or.inl (hw _ (List.mem_of_getElem? (i := 51) rfl)), (.array .int), by decide +kernel⟩
  · exact ⟨Or.inr (hw _ (List.mem_of_getElem? (i := 53) rfl)), (.object "com/example/depth2/depth2/NetTokenTable"), by decide +kernel⟩
  · exact ⟨Or.inl (hw _ (List.mem_of_getElem? (i := 70) rfl)), .int, by decide +kernel⟩
theorem own_d_jdk_29_method_65_code_0 : own_il jdk_29_method_65_code 0 0 1 := Or.inl ⟨0, by decide +kernel, rfl, rfl⟩
theorem own_d_jdk_29_method_65_code_1 : own_il jdk_29_method_65_code 1 1 2 := Or.inl ⟨1, by decide +kernel, rfl, rfl⟩
theorem own_d_jdk_29_method_65_code_2 : own_icm jdk_29_method_65_code 2 .lt 5 9 := ⟨7, by decide +kernel, rfl, by decide, by decide⟩
theorem own_d_jdk_29_method_65_code_9 : own_il jdk_29_method_65_code 9 1 10 := Or.inl ⟨1, by decide +kernel, rfl, rfl⟩
theorem own_d_jdk_29_method_65_code_10 : own_ix jdk_29_method_65_code 10 .ireturn 1 11 := ⟨by decide +kernel, rfl⟩
theorem own_d_jdk_29_method_65_code_5 : own_il jdk_29_method_65_code 5 0 6 := Or.inl ⟨0, by decide +kernel, rfl, rfl⟩
theorem own_d_jdk_29_method_65_code_6 : own_gt jdk_29_method_65_code 6 10 := ⟨4, by decide +kernel, by decide, by decide⟩
theorem own_d_jdk_29_method_69_code_0 : own_il jdk_29_method_69_code 0 0 1 := Or.inl ⟨0, by decide +kernel, rfl, rfl⟩
theorem own_d_jdk_29_method_69_code_1 : own_il jdk_29_method_69_code 1 1 2 := Or.inl ⟨1, by decide +kernel, rfl, rfl⟩
theorem own_d_jdk_29_method_69_code_2 : own_icm jdk_29_method_69_code 2 .gt 5 9 := ⟨7, by decide +kernel, rfl, by decide, by decide⟩
theorem own_d_jdk_29_method_69_code_9 : own_il jdk_29_method_69_code 9 1 10 := Or.inl ⟨1, by decide +kernel, rfl, rfl⟩
theorem own_d_jdk_29_method_69_code_10 : own_ix jdk_29_method_69_code 10 .ireturn 1 11 := ⟨by decide +kernel, rfl⟩
theorem own_d_jdk_29_method_69_code_5 : own_il jdk_29_method_69_code 5 0 6 := Or.inl ⟨0, by decide +kernel, rfl, rfl⟩
theorem own_d_jdk_29_method_69_code_6 : own_gt jdk_29_method_69_code 6 10 := ⟨4, by decide +kernel, by decide, by decide⟩
theorem own_d_jdk_30_method_1_code_0 : own_al jdk_30_method_1_code 0 0 1 := Or.inl ⟨0, by decide +kernel, rfl, rfl⟩
theorem own_d_jdk_30_method_1_code_1 : own_ix jdk_30_method_1_code 1 (.invokespecial 1) 3 4 := ⟨by decide +kernel, rfl⟩
theorem own_d_jdk_30_method_1_code_4 : own_ix jdk_30_method_1_code 4 .return_ 1 5 := ⟨by decide +kernel, rfl⟩
theorem own_pn_java_lang_Record : plainName "java/lang/Record" = true := by first | (simp [plainName, overriddenIn]; done) | decide +kernel
theorem own_d_prog_35_method_1_code_0 : own_al prog_35_method_1_code 0 0 1 := Or.inl ⟨0, by decide +kernel, rfl, rfl⟩
theorem own_pd___V : parseMethodDescriptor "()V" = some ⟨[], none⟩ := by decide +kernel
theorem own_d_prog_35_method_1_code_1 : own_ix prog_35_method_1_code 1 (.invokespecial 1) 3 4 := ⟨by decide +kernel, rfl⟩
theorem own_d_prog_35_method_1_code_4 : own_al prog_35_method_1_code 4 0 5 := Or.inl ⟨0, by decide +kernel, rfl, rfl⟩
theorem own_d_prog_35_method_1_code_5 : own_al prog_35_method_1_code 5 1 6 := Or.inl ⟨1, by decide +kernel, rfl, rfl⟩
theorem own_d_prog_35_method_1_code_6 : own_ix prog_35_method_1_code 6 (.putfield 7) 3 9 := ⟨by decide +kernel, rfl⟩
theorem own_d_prog_35_method_1_code_9 : own_al prog_35_method_1_code 9 0 10 := Or.inl ⟨0, by decide +kernel, rfl, rfl⟩
theorem own_d_prog_35_method_1_code_10 : own_al prog_35_method_1_code 10 2 11 := Or.inl ⟨2, by decide +kernel, rfl, rfl⟩
theorem own_d_prog_35_method_1_code_11 : own_ix prog_35_method_1_code 11 (.putfield 13) 3 14 := ⟨by decide +kernel, rfl⟩
theorem own_d_prog_35_method_1_code_14 : own_al prog_35_method_1_code 14 0 15 := Or.inl ⟨0, by decide +kernel, rfl, rfl⟩
theorem own_d_prog_35_method_1_code_15 : own_al prog_35_method_1_code 15 3 16 := Or.inl ⟨3, by decide +kernel, rfl, rfl⟩
theorem own_d_prog_35_method_1_code_16 : own_ix prog_35_method_1_code 16 (.putfield 17) 3 19 := ⟨by decide +kernel, rfl⟩
theorem own_d_prog_35_method_1_code_19 : own_al prog_35_method_1_code 19 0 20 := Or.inl ⟨0, by decide +kernel, rfl, rfl⟩
theorem own_d_prog_35_method_1_code_20 : own_al prog_35_method_1_code 20 4 22 := Or.inr ⟨by decide +kernel, rfl⟩
theorem own_d_prog_35_method_1_code_22 : own_ix prog_35_method_1_code 22 (.putfield 20) 3 25 := ⟨by decide +kernel, rfl⟩
theorem own_d_prog_35_method_1_code_25 : own_ix prog_35_method_1_code 25 .return_ 1 26 := ⟨by decide +kernel, rfl⟩
theorem own_pn_com_example_depth2_depth2_NetTokenTable_Numbered : plainName "com/example/depth2/depth2/NetTokenTable$Numbered" = true := by first | (simp [plainName, overriddenIn]; done) | decide +kernel
theorem own_d_prog_34_method_1_code_0 : own_al prog_34_method_1_code 0 0 1 := Or.inl ⟨0, by decide +kernel, rfl, rfl⟩
theorem own_d_prog_34_method_1_code_1 : own_ix prog_34_method_1_code 1 (.invokespecial 1) 3 4 := ⟨by decide +kernel, rfl⟩
theorem own_d_prog_34_method_1_code_4 : own_al prog_34_method_1_code 4 0 5 := Or.inl ⟨0, by decide +kernel, rfl, rfl⟩
theorem own_d_prog_34_method_1_code_5 : own_ix prog_34_method_1_code 5 (.new 7) 3 8 := ⟨by decide +kernel, rfl⟩
theorem own_d_prog_34_method_1_code_8 : own_ix prog_34_method_1_code 8 .dup 1 9 := ⟨by decide +kernel, rfl⟩
theorem own_d_prog_34_method_1_code_9 : own_ik prog_34_method_1_code 9 16 11 := ⟨16, Or.inr (Or.inl ⟨by decide +kernel, by decide, rfl⟩)⟩
theorem own_d_prog_34_method_1_code_11 : own_ix prog_34_method_1_code 11 (.anewarray 9) 3 14 := ⟨by decide +kernel, rfl⟩
theorem own_d_prog_34_method_1_code_14 : own_ik prog_34_method_1_code 14 16 16 := ⟨16, Or.inr (Or.inl ⟨by decide +kernel, by decide, rfl⟩)⟩
theorem own_d_prog_34_method_1_code_16 : own_ix prog_34_method_1_code 16 (.newarray .int) 2 18 := ⟨by decide +kernel, rfl⟩
theorem own_d_prog_34_method_1_code_18 : own_ik prog_34_method_1_code 18 16 20 := ⟨16, Or.inr (Or.inl ⟨by decide +kernel, by decide, rfl⟩)⟩
theorem own_d_prog_34_method_1_code_20 : own_ix prog_34_method_1_code 20 (.newarray .int) 2 22 := ⟨by decide +kernel, rfl⟩
theorem own_d_prog_34_method_1_code_22 : own_ik prog_34_method_1_code 22 32 24 := ⟨32, Or.inr (Or.inl ⟨by decide +kernel, by decide, rfl⟩)⟩
theorem own_d_prog_34_method_1_code_24 : own_ix prog_34_method_1_code 24 (.newarray .int) 2 26 := ⟨by decide +kernel, rfl⟩
theorem own_d_prog_34_method_1_code_26 : own_ix prog_34_method_1_code 26 (.invokespecial 11) 3 29 := ⟨by decide +kernel, rfl⟩
theorem own_pd___Lcom_example_depth2_depth2_NetToken__I_I_I_V : parseMethodDescriptor "([Lcom/example/depth2/depth2/NetToken;[I[I[I)V" = some ⟨[(.array (.object "com/example/depth2/depth2/NetToken")), (.array .int), (.array .int), (.array .int)], none⟩ := by decide +kernel
theorem own_d_prog_34_method_1_code_29 : own_ix prog_34_method_1_code 29 (.putfield 14) 3 32 := ⟨by decide +kernel, rfl⟩
theorem own_d_prog_34_method_1_code_32 : own_ix prog_34_method_1_code 32 .return_ 1 33 := ⟨by decide +kernel, rfl⟩
theorem own_pn_com_example_depth2_depth2_NetTokenTable : plainName "com/example/depth2/depth2/NetTokenTable" = true := by first | (simp [plainName, overriddenIn]; done) | decide +kernel
theorem own_d_prog_38_method_1_code_0 : own_al prog_38_method_1_code 0 0 1 := Or.inl ⟨0, by decide +kernel, rfl, rfl⟩
theorem own_d_prog_38_method_1_code_1 : own_ix prog_38_method_1_code 1 (.invokespecial 1) 3 4 := ⟨by decide +kernel, rfl⟩
theorem own_d_prog_38_method_1_code_4 : own_al prog_38_method_1_code 4 0 5 := Or.inl ⟨0, by decide +kernel, rfl, rfl⟩
theorem own_d_prog_38_method_1_code_5 : own_ik prog_38_method_1_code 5 8 7 := ⟨8, Or.inr (Or.inl ⟨by decide +kernel, by decide, rfl⟩)⟩
theorem own_d_prog_38_method_1_code_7 : own_ix prog_38_method_1_code 7 (.newarray .int) 2 9 := ⟨by decide +kernel, rfl⟩
theorem own_d_prog_38_method_1_code_9 : own_ix prog_38_method_1_code 9 (.putfield 7) 3 12 := ⟨by decide +kernel, rfl⟩
theorem own_d_prog_38_method_1_code_12 : own_al prog_38_method_1_code 12 0 13 := Or.inl ⟨0, by decide +kernel, rfl, rfl⟩
theorem own_d_prog_38_method_1_code_13 : own_ik prog_38_method_1_code 13 8 15 := ⟨8, Or.inr (Or.inl ⟨by decide +kernel, by decide, rfl⟩)⟩
theorem own_d_prog_38_method_1_code_15 : own_ix prog_38_method_1_code 15 (.newarray .int) 2 17 := ⟨by decide +kernel, rfl⟩
theorem own_d_prog_38_method_1_code_17 : own_ix prog_38_method_1_code 17 (.putfield 13) 3 20 := ⟨by decide +kernel, rfl⟩
theorem own_d_prog_38_method_1_code_20 : own_al prog_38_method_1_code 20 0 21 := Or.inl ⟨0, by decide +kernel, rfl, rfl⟩
theorem own_d_prog_38_method_1_code_21 : own_ik prog_38_method_1_code 21 8 23 := ⟨8, Or.inr (Or.inl ⟨by decide +kernel, by decide, rfl⟩)⟩
theorem own_d_prog_38_method_1_code_23 : own_ix prog_38_method_1_code 23 (.newarray .int) 2 25 := ⟨by decide +kernel, rfl⟩
theorem own_d_prog_38_method_1_code_25 : own_ix prog_38_method_1_code 25 (.putfield 16) 3 28 := ⟨by decide +kernel, rfl⟩
theorem own_d_prog_38_method_1_code_28 : own_al prog_38_method_1_code 28 0 29 := Or.inl ⟨0, by decide +kernel, rfl, rfl⟩
theorem own_d_prog_38_method_1_code_29 : own_al prog_38_method_1_code 29 1 30 := Or.inl ⟨1, by decide +kernel, rfl, rfl⟩
theorem own_d_prog_38_method_1_code_30 : own_ix prog_38_method_1_code 30 (.putfield 19) 3 33 := ⟨by decide +kernel, rfl⟩
theorem own_d_prog_38_method_1_code_33 : own_ix prog_38_method_1_code 33 .return_ 1 34 := ⟨by decide +kernel, rfl⟩
theorem own_pn_com_example_depth2_depth2_PackedMarking : plainName "com/example/depth2/depth2/PackedMarking" = true := by first | (simp [plainName, overriddenIn]; done) | decide +kernel
theorem own_d_prog_35_method_6_code_0 : own_al prog_35_method_6_code 0 0 1 := Or.inl ⟨0, by decide +kernel, rfl, rfl⟩
theorem own_d_prog_35_method_6_code_1 : own_ix prog_35_method_6_code 1 (.getfield 13) 3 4 := ⟨by decide +kernel, rfl⟩
theorem own_d_prog_35_method_6_code_4 : own_ix prog_35_method_6_code 4 .areturn 1 5 := ⟨by decide +kernel, rfl⟩
theorem own_d_prog_34_method_3_code_0 : own_al prog_34_method_3_code 0 0 1 := Or.inl ⟨0, by decide +kernel, rfl, rfl⟩
theorem own_d_prog_34_method_3_code_1 : own_ix prog_34_method_3_code 1 (.getfield 14) 3 4 := ⟨by decide +kernel, rfl⟩
theorem own_pd____I : parseMethodDescriptor "()[I" = some ⟨[], some (.array .int)⟩ := by decide +kernel
theorem own_d_prog_34_method_3_code_4 : own_ix prog_34_method_3_code 4 (.invokevirtual 24) 3 7 := ⟨by decide +kernel, rfl⟩
theorem own_d_prog_34_method_3_code_7 : own_il prog_34_method_3_code 7 1 8 := Or.inl ⟨1, by decide +kernel, rfl, rfl⟩
theorem own_d_prog_34_method_3_code_8 : own_ix prog_34_method_3_code 8 .iaload 1 9 := ⟨by decide +kernel, rfl⟩
theorem own_d_prog_34_method_3_code_9 : own_ix prog_34_method_3_code 9 .ireturn 1 10 := ⟨by decide +kernel, rfl⟩
theorem own_d_prog_38_method_13_code_0 : own_al prog_38_method_13_code 0 0 1 := Or.inl ⟨0, by decide +kernel, rfl, rfl⟩
theorem own_d_prog_38_method_13_code_1 : own_ix prog_38_method_13_code 1 (.getfield 19) 3 4 := ⟨by decide +kernel, rfl⟩
theorem own_d_prog_38_method_13_code_4 : own_il prog_38_method_13_code 4 1 5 := Or.inl ⟨1, by decide +kernel, rfl, rfl⟩
theorem own_pd__I_I : parseMethodDescriptor "(I)I" = some ⟨[.int], some .int⟩ := by decide +kernel
theorem own_d_prog_38_method_13_code_5 : own_ix prog_38_method_13_code 5 (.invokevirtual 114) 3 8 := ⟨by decide +kernel, rfl⟩
theorem own_d_prog_38_method_13_code_8 : own_si prog_38_method_13_code 8 3 9 := Or.inl ⟨3, by decide +kernel, rfl, rfl⟩
theorem own_d_prog_38_method_13_code_9 : own_al prog_38_method_13_code 9 0 10 := Or.inl ⟨0, by decide +kernel, rfl, rfl⟩
theorem own_d_prog_38_method_13_code_10 : own_ix prog_38_method_13_code 10 (.getfield 23) 3 13 := ⟨by decide +kernel, rfl⟩
theorem own_d_prog_38_method_13_code_13 : own_si prog_38_method_13_code 13 4 15 := Or.inr ⟨by decide +kernel, rfl⟩
theorem own_d_prog_38_method_13_code_15 : own_il prog_38_method_13_code 15 4 17 := Or.inr ⟨by decide +kernel, rfl⟩
theorem own_d_prog_38_method_13_code_17 : own_ifc prog_38_method_13_code 17 .le 20 65 := ⟨48, by decide +kernel, rfl, by decide, by decide⟩
theorem own_d_prog_38_method_13_code_65 : own_il prog_38_method_13_code 65 4 67 := Or.inr ⟨by decide +kernel, rfl⟩
theorem own_d_prog_38_method_13_code_67 : own_ifc prog_38_method_13_code 67 .le 70 108 := ⟨41, by decide +kernel, rfl, by decide, by decide⟩
theorem own_d_prog_38_method_13_code_108 : own_al prog_38_method_13_code 108 0 109 := Or.inl ⟨0, by decide +kernel, rfl, rfl⟩
theorem own_d_prog_38_method_13_code_109 : own_ix prog_38_method_13_code 109 (.getfield 23) 3 112 := ⟨by decide +kernel, rfl⟩
theorem own_d_prog_38_method_13_code_112 : own_al prog_38_method_13_code 112 0 113 := Or.inl ⟨0, by decide +kernel, rfl, rfl⟩
theorem own_d_prog_38_method_13_code_113 : own_ix prog_38_method_13_code 113 (.getfield 7) 3 116 := ⟨by decide +kernel, rfl⟩
theorem own_d_prog_38_method_13_code_116 : own_ix prog_38_method_13_code 116 .arraylength 1 117 := ⟨by decide +kernel, rfl⟩
theorem own_d_prog_38_method_13_code_117 : own_icm prog_38_method_13_code 117 .ne 120 130 := ⟨13, by decide +kernel, rfl, by decide, by decide⟩
theorem own_d_prog_38_method_13_code_130 : own_al prog_38_method_13_code 130 0 131 := Or.inl ⟨0, by decide +kernel, rfl, rfl⟩
theorem own_d_prog_38_method_13_code_131 : own_ix prog_38_method_13_code 131 (.getfield 7) 3 134 := ⟨by decide +kernel, rfl⟩
theorem own_d_prog_38_method_13_code_134 : own_il prog_38_method_13_code 134 4 136 := Or.inr ⟨by decide +kernel, rfl⟩
theorem own_d_prog_38_method_13_code_136 : own_al prog_38_method_13_code 136 0 137 := Or.inl ⟨0, by decide +kernel, rfl, rfl⟩
theorem own_d_prog_38_method_13_code_137 : own_ix prog_38_method_13_code 137 (.getfield 7) 3 140 := ⟨by decide +kernel, rfl⟩
theorem own_d_prog_38_method_13_code_140 : own_il prog_38_method_13_code 140 4 142 := Or.inr ⟨by decide +kernel, rfl⟩
theorem own_d_prog_38_method_13_code_142 : own_ik prog_38_method_13_code 142 1 143 := ⟨1, Or.inl ⟨by decide +kernel, by decide, rfl⟩⟩
theorem own_d_prog_38_method_13_code_143 : own_ix prog_38_method_13_code 143 .iadd 1 144 := ⟨by decide +kernel, rfl⟩
theorem own_d_prog_38_method_13_code_144 : own_al prog_38_method_13_code 144 0 145 := Or.inl ⟨0, by decide +kernel, rfl, rfl⟩
theorem own_d_prog_38_method_13_code_145 : own_ix prog_38_method_13_code 145 (.getfield 23) 3 148 := ⟨by decide +kernel, rfl⟩
theorem own_d_prog_38_method_13_code_148 : own_il prog_38_method_13_code 148 4 150 := Or.inr ⟨by decide +kernel, rfl⟩
theorem own_d_prog_38_method_13_code_150 : own_ix prog_38_method_13_code 150 .isub 1 151 := ⟨by decide +kernel, rfl⟩
theorem own_d_prog_38_method_13_code_151 : own_ix prog_38_method_13_code 151 (.invokestatic 108) 3 154 := ⟨by decide +kernel, rfl⟩
theorem own_d_prog_38_method_13_code_154 : own_al prog_38_method_13_code 154 0 155 := Or.inl ⟨0, by decide +kernel, rfl, rfl⟩
theorem own_d_prog_38_method_13_code_155 : own_ix prog_38_method_13_code 155 (.getfield 13) 3 158 := ⟨by decide +kernel, rfl⟩
theorem own_d_prog_38_method_13_code_158 : own_il prog_38_method_13_code 158 4 160 := Or.inr ⟨by decide +kernel, rfl⟩
theorem own_d_prog_38_method_13_code_160 : own_al prog_38_method_13_code 160 0 161 := Or.inl ⟨0, by decide +kernel, rfl, rfl⟩
theorem own_d_prog_38_method_13_code_161 : own_ix prog_38_method_13_code 161 (.getfield 13) 3 164 := ⟨by decide +kernel, rfl⟩
theorem own_d_prog_38_method_13_code_164 : own_il prog_38_method_13_code 164 4 166 := Or.inr ⟨by decide +kernel, rfl⟩
theorem own_d_prog_38_method_13_code_166 : own_ik prog_38_method_13_code 166 1 167 := ⟨1, Or.inl ⟨by decide +kernel, by decide, rfl⟩⟩
theorem own_d_prog_38_method_13_code_167 : own_ix prog_38_method_13_code 167 .iadd 1 168 := ⟨by decide +kernel, rfl⟩
theorem own_d_prog_38_method_13_code_168 : own_al prog_38_method_13_code 168 0 169 := Or.inl ⟨0, by decide +kernel, rfl, rfl⟩
theorem own_d_prog_38_method_13_code_169 : own_ix prog_38_method_13_code 169 (.getfield 23) 3 172 := ⟨by decide +kernel, rfl⟩
theorem own_d_prog_38_method_13_code_172 : own_il prog_38_method_13_code 172 4 174 := Or.inr ⟨by decide +kernel, rfl⟩
theorem own_d_prog_38_method_13_code_174 : own_ix prog_38_method_13_code 174 .isub 1 175 := ⟨by decide +kernel, rfl⟩
theorem own_d_prog_38_method_13_code_175 : own_ix prog_38_method_13_code 175 (.invokestatic 108) 3 178 := ⟨by decide +kernel, rfl⟩
theorem own_d_prog_38_method_13_code_178 : own_al prog_38_method_13_code 178 0 179 := Or.inl ⟨0, by decide +kernel, rfl, rfl⟩
theorem own_d_prog_38_method_13_code_179 : own_ix prog_38_method_13_code 179 (.getfield 16) 3 182 := ⟨by decide +kernel, rfl⟩
theorem own_d_prog_38_method_13_code_182 : own_il prog_38_method_13_code 182 4 184 := Or.inr ⟨by decide +kernel, rfl⟩
theorem own_d_prog_38_method_13_code_184 : own_al prog_38_method_13_code 184 0 185 := Or.inl ⟨0, by decide +kernel, rfl, rfl⟩
theorem own_d_prog_38_method_13_code_185 : own_ix prog_38_method_13_code 185 (.getfield 16) 3 188 := ⟨by decide +kernel, rfl⟩
theorem own_d_prog_38_method_13_code_188 : own_il prog_38_method_13_code 188 4 190 := Or.inr ⟨by decide +kernel, rfl⟩
theorem own_d_prog_38_method_13_code_190 : own_ik prog_38_method_13_code 190 1 191 := ⟨1, Or.inl ⟨by decide +kernel, by decide, rfl⟩⟩
theorem own_d_prog_38_method_13_code_191 : own_ix prog_38_method_13_code 191 .iadd 1 192 := ⟨by decide +kernel, rfl⟩
theorem own_d_prog_38_method_13_code_192 : own_al prog_38_method_13_code 192 0 193 := Or.inl ⟨0, by decide +kernel, rfl, rfl⟩
theorem own_d_prog_38_method_13_code_193 : own_ix prog_38_method_13_code 193 (.getfield 23) 3 196 := ⟨by decide +kernel, rfl⟩
theorem own_d_prog_38_method_13_code_196 : own_il prog_38_method_13_code 196 4 198 := Or.inr ⟨by decide +kernel, rfl⟩
theorem own_d_prog_38_method_13_code_198 : own_ix prog_38_method_13_code 198 .isub 1 199 := ⟨by decide +kernel, rfl⟩
theorem own_d_prog_38_method_13_code_199 : own_ix prog_38_method_13_code 199 (.invokestatic 108) 3 202 := ⟨by decide +kernel, rfl⟩
theorem own_d_prog_38_method_13_code_202 : own_al prog_38_method_13_code 202 0 203 := Or.inl ⟨0, by decide +kernel, rfl, rfl⟩
theorem own_d_prog_38_method_13_code_203 : own_ix prog_38_method_13_code 203 (.getfield 7) 3 206 := ⟨by decide +kernel, rfl⟩
theorem own_d_prog_38_method_13_code_206 : own_il prog_38_method_13_code 206 4 208 := Or.inr ⟨by decide +kernel, rfl⟩
theorem own_d_prog_38_method_13_code_208 : own_il prog_38_method_13_code 208 1 209 := Or.inl ⟨1, by decide +kernel, rfl, rfl⟩
theorem own_d_prog_38_method_13_code_209 : own_ix prog_38_method_13_code 209 .iastore 1 210 := ⟨by decide +kernel, rfl⟩
theorem own_d_prog_38_method_13_code_210 : own_al prog_38_method_13_code 210 0 211 := Or.inl ⟨0, by decide +kernel, rfl, rfl⟩
theorem own_d_prog_38_method_13_code_211 : own_ix prog_38_method_13_code 211 (.getfield 13) 3 214 := ⟨by decide +kernel, rfl⟩
theorem own_d_prog_38_method_13_code_214 : own_il prog_38_method_13_code 214 4 216 := Or.inr ⟨by decide +kernel, rfl⟩
theorem own_d_prog_38_method_13_code_216 : own_il prog_38_method_13_code 216 2 217 := Or.inl ⟨2, by decide +kernel, rfl, rfl⟩
theorem own_d_prog_38_method_13_code_217 : own_ix prog_38_method_13_code 217 .iastore 1 218 := ⟨by decide +kernel, rfl⟩
theorem own_d_prog_38_method_13_code_218 : own_al prog_38_method_13_code 218 0 219 := Or.inl ⟨0, by decide +kernel, rfl, rfl⟩
theorem own_d_prog_38_method_13_code_219 : own_ix prog_38_method_13_code 219 (.getfield 16) 3 222 := ⟨by decide +kernel, rfl⟩
theorem own_d_prog_38_method_13_code_222 : own_il prog_38_method_13_code 222 4 224 := Or.inr ⟨by decide +kernel, rfl⟩
theorem own_d_prog_38_method_13_code_224 : own_il prog_38_method_13_code 224 3 225 := Or.inl ⟨3, by decide +kernel, rfl, rfl⟩
theorem own_d_prog_38_method_13_code_225 : own_ix prog_38_method_13_code 225 .iastore 1 226 := ⟨by decide +kernel, rfl⟩
theorem own_d_prog_38_method_13_code_226 : own_al prog_38_method_13_code 226 0 227 := Or.inl ⟨0, by decide +kernel, rfl, rfl⟩
theorem own_d_prog_38_method_13_code_227 : own_ix prog_38_method_13_code 227 .dup 1 228 := ⟨by decide +kernel, rfl⟩
theorem own_d_prog_38_method_13_code_228 : own_ix prog_38_method_13_code 228 (.getfield 23) 3 231 := ⟨by decide +kernel, rfl⟩
theorem own_d_prog_38_method_13_code_231 : own_ik prog_38_method_13_code 231 1 232 := ⟨1, Or.inl ⟨by decide +kernel, by decide, rfl⟩⟩
theorem own_d_prog_38_method_13_code_232 : own_ix prog_38_method_13_code 232 .iadd 1 233 := ⟨by decide +kernel, rfl⟩
theorem own_d_prog_38_method_13_code_233 : own_ix prog_38_method_13_code 233 (.putfield 23) 3 236 := ⟨by decide +kernel, rfl⟩
theorem own_d_prog_38_method_13_code_236 : own_ix prog_38_method_13_code 236 .return_ 1 237 := ⟨by decide +kernel, rfl⟩
theorem own_d_prog_38_method_13_code_20 : own_al prog_38_method_13_code 20 0 21 := Or.inl ⟨0, by decide +kernel, rfl, rfl⟩
theorem own_d_prog_38_method_13_code_21 : own_ix prog_38_method_13_code 21 (.getfield 16) 3 24 := ⟨by decide +kernel, rfl⟩
theorem own_d_prog_38_method_13_code_24 : own_il prog_38_method_13_code 24 4 26 := Or.inr ⟨by decide +kernel, rfl⟩
theorem own_d_prog_38_method_13_code_26 : own_ik prog_38_method_13_code 26 1 27 := ⟨1, Or.inl ⟨by decide +kernel, by decide, rfl⟩⟩
theorem own_d_prog_38_method_13_code_27 : own_ix prog_38_method_13_code 27 .isub 1 28 := ⟨by decide +kernel, rfl⟩
theorem own_d_prog_38_method_13_code_28 : own_ix prog_38_method_13_code 28 .iaload 1 29 := ⟨by decide +kernel, rfl⟩
theorem own_d_prog_38_method_13_code_29 : own_il prog_38_method_13_code 29 3 30 := Or.inl ⟨3, by decide +kernel, rfl, rfl⟩
theorem own_d_prog_38_method_13_code_30 : own_icm prog_38_method_13_code 30 .gt 33 59 := ⟨29, by decide +kernel, rfl, by decide, by decide⟩
theorem own_d_prog_38_method_13_code_33 : own_al prog_38_method_13_code 33 0 34 := Or.inl ⟨0, by decide +kernel, rfl, rfl⟩
theorem own_d_prog_38_method_13_code_34 : own_ix prog_38_method_13_code 34 (.getfield 16) 3 37 := ⟨by decide +kernel, rfl⟩
theorem own_d_prog_38_method_13_code_37 : own_il prog_38_method_13_code 37 4 39 := Or.inr ⟨by decide +kernel, rfl⟩
theorem own_d_prog_38_method_13_code_39 : own_ik prog_38_method_13_code 39 1 40 := ⟨1, Or.inl ⟨by decide +kernel, by decide, rfl⟩⟩
theorem own_d_prog_38_method_13_code_40 : own_ix prog_38_method_13_code 40 .isub 1 41 := ⟨by decide +kernel, rfl⟩
theorem own_d_prog_38_method_13_code_41 : own_ix prog_38_method_13_code 41 .iaload 1 42 := ⟨by decide +kernel, rfl⟩
theorem own_d_prog_38_method_13_code_42 : own_il prog_38_method_13_code 42 3 43 := Or.inl ⟨3, by decide +kernel, rfl, rfl⟩
theorem own_d_prog_38_method_13_code_43 : own_icm prog_38_method_13_code 43 .ne 46 65 := ⟨22, by decide +kernel, rfl, by decide, by decide⟩
theorem own_d_prog_38_method_13_code_46 : own_al prog_38_method_13_code 46 0 47 := Or.inl ⟨0, by decide +kernel, rfl, rfl⟩
theorem own_d_prog_38_method_13_code_47 : own_ix prog_38_method_13_code 47 (.getfield 7) 3 50 := ⟨by decide +kernel, rfl⟩
theorem own_d_prog_38_method_13_code_50 : own_il prog_38_method_13_code 50 4 52 := Or.inr ⟨by decide +kernel, rfl⟩
theorem own_d_prog_38_method_13_code_52 : own_ik prog_38_method_13_code 52 1 53 := ⟨1, Or.inl ⟨by decide +kernel, by decide, rfl⟩⟩
theorem own_d_prog_38_method_13_code_53 : own_ix prog_38_method_13_code 53 .isub 1 54 := ⟨by decide +kernel, rfl⟩
theorem own_d_prog_38_method_13_code_54 : own_ix prog_38_method_13_code 54 .iaload 1 55 := ⟨by decide +kernel, rfl⟩
theorem own_d_prog_38_method_13_code_55 : own_il prog_38_method_13_code 55 1 56 := Or.inl ⟨1, by decide +kernel, rfl, rfl⟩
theorem own_d_prog_38_method_13_code_56 : own_icm prog_38_method_13_code 56 .le 59 65 := ⟨9, by decide +kernel, rfl, by decide, by decide⟩
theorem own_d_prog_38_method_13_code_59 : own_ii prog_38_method_13_code 59 4 (-1) 62 := ⟨(-1), by decide +kernel, by decide, rfl⟩
theorem own_d_prog_38_method_13_code_62 : own_gt prog_38_method_13_code 62 15 := ⟨(-47), by decide +kernel, by decide, by decide⟩
theorem own_d_prog_38_method_13_code_70 : own_al prog_38_method_13_code 70 0 71 := Or.inl ⟨0, by decide +kernel, rfl, rfl⟩
theorem own_d_prog_38_method_13_code_71 : own_ix prog_38_method_13_code 71 (.getfield 7) 3 74 := ⟨by decide +kernel, rfl⟩
theorem own_d_prog_38_method_13_code_74 : own_il prog_38_method_13_code 74 4 76 := Or.inr ⟨by decide +kernel, rfl⟩
theorem own_d_prog_38_method_13_code_76 : own_ik prog_38_method_13_code 76 1 77 := ⟨1, Or.inl ⟨by decide +kernel, by decide, rfl⟩⟩
theorem own_d_prog_38_method_13_code_77 : own_ix prog_38_method_13_code 77 .isub 1 78 := ⟨by decide +kernel, rfl⟩
theorem own_d_prog_38_method_13_code_78 : own_ix prog_38_method_13_code 78 .iaload 1 79 := ⟨by decide +kernel, rfl⟩
theorem own_d_prog_38_method_13_code_79 : own_il prog_38_method_13_code 79 1 80 := Or.inl ⟨1, by decide +kernel, rfl, rfl⟩
theorem own_d_prog_38_method_13_code_80 : own_icm prog_38_method_13_code 80 .ne 83 108 := ⟨28, by decide +kernel, rfl, by decide, by decide⟩
theorem own_d_prog_38_method_8_code_0 : own_al prog_38_method_8_code 0 0 1 := Or.inl ⟨0, by decide +kernel, rfl, rfl⟩
theorem own_d_prog_38_method_8_code_1 : own_ik prog_38_method_8_code 1 0 2 := ⟨0, Or.inl ⟨by decide +kernel, by decide, rfl⟩⟩
theorem own_d_prog_38_method_8_code_2 : own_ix prog_38_method_8_code 2 (.putfield 23) 3 5 := ⟨by decide +kernel, rfl⟩
theorem own_d_prog_38_method_8_code_5 : own_ix prog_38_method_8_code 5 .return_ 1 6 := ⟨by decide +kernel, rfl⟩
theorem own_d_prog_38_method_15_code_0 : own_al prog_38_method_15_code 0 0 1 := Or.inl ⟨0, by decide +kernel, rfl, rfl⟩
theorem own_d_prog_38_method_15_code_1 : own_ix prog_38_method_15_code 1 (.getfield 23) 3 4 := ⟨by decide +kernel, rfl⟩
theorem own_d_prog_38_method_15_code_4 : own_ix prog_38_method_15_code 4 .i2l 1 5 := ⟨by decide +kernel, rfl⟩
theorem own_d_prog_38_method_15_code_5 : own_sl prog_38_method_15_code 5 1 6 := Or.inl ⟨1, by decide +kernel, rfl, rfl⟩
theorem own_d_prog_38_method_15_code_6 : own_ik prog_38_method_15_code 6 0 7 := ⟨0, Or.inl ⟨by decide +kernel, by decide, rfl⟩⟩
theorem own_d_prog_38_method_15_code_7 : own_si prog_38_method_15_code 7 3 8 := Or.inl ⟨3, by decide +kernel, rfl, rfl⟩
theorem own_d_prog_38_method_15_code_8 : own_il prog_38_method_15_code 8 3 9 := Or.inl ⟨3, by decide +kernel, rfl, rfl⟩
theorem own_d_prog_38_method_15_code_9 : own_al prog_38_method_15_code 9 0 10 := Or.inl ⟨0, by decide +kernel, rfl, rfl⟩
theorem own_d_prog_38_method_15_code_10 : own_ix prog_38_method_15_code 10 (.getfield 23) 3 13 := ⟨by decide +kernel, rfl⟩
theorem own_d_prog_38_method_15_code_13 : own_icm prog_38_method_15_code 13 .ge 16 54 := ⟨41, by decide +kernel, rfl, by decide, by decide⟩
theorem own_d_prog_38_method_15_code_54 : own_ll prog_38_method_15_code 54 1 55 := Or.inl ⟨1, by decide +kernel, rfl, rfl⟩
theorem own_d_prog_38_method_15_code_55 : own_ix prog_38_method_15_code 55 .lreturn 1 56 := ⟨by decide +kernel, rfl⟩
theorem own_d_prog_38_method_15_code_16 : own_ll prog_38_method_15_code 16 1 17 := Or.inl ⟨1, by decide +kernel, rfl, rfl⟩
theorem own_d_prog_38_method_15_code_17 : own_al prog_38_method_15_code 17 0 18 := Or.inl ⟨0, by decide +kernel, rfl, rfl⟩
theorem own_d_prog_38_method_15_code_18 : own_ix prog_38_method_15_code 18 (.getfield 7) 3 21 := ⟨by decide +kernel, rfl⟩
theorem own_d_prog_38_method_15_code_21 : own_il prog_38_method_15_code 21 3 22 := Or.inl ⟨3, by decide +kernel, rfl, rfl⟩
theorem own_d_prog_38_method_15_code_22 : own_ix prog_38_method_15_code 22 .iaload 1 23 := ⟨by decide +kernel, rfl⟩
theorem own_d_prog_38_method_15_code_23 : own_ix prog_38_method_15_code 23 .i2l 1 24 := ⟨by decide +kernel, rfl⟩
theorem own_d_prog_38_method_15_code_24 : own_ik prog_38_method_15_code 24 32 26 := ⟨32, Or.inr (Or.inl ⟨by decide +kernel, by decide, rfl⟩)⟩
theorem own_d_prog_38_method_15_code_26 : own_ix prog_38_method_15_code 26 .lshl 1 27 := ⟨by decide +kernel, rfl⟩
theorem own_d_prog_38_method_15_code_27 : own_al prog_38_method_15_code 27 0 28 := Or.inl ⟨0, by decide +kernel, rfl, rfl⟩
theorem own_d_prog_38_method_15_code_28 : own_ix prog_38_method_15_code 28 (.getfield 13) 3 31 := ⟨by decide +kernel, rfl⟩
theorem own_d_prog_38_method_15_code_31 : own_il prog_38_method_15_code 31 3 32 := Or.inl ⟨3, by decide +kernel, rfl, rfl⟩
theorem own_d_prog_38_method_15_code_32 : own_ix prog_38_method_15_code 32 .iaload 1 33 := ⟨by decide +kernel, rfl⟩
theorem own_d_prog_38_method_15_code_33 : own_ix prog_38_method_15_code 33 .i2l 1 34 := ⟨by decide +kernel, rfl⟩
theorem own_d_prog_38_method_15_code_34 : own_ix prog_38_method_15_code 34 .lor 1 35 := ⟨by decide +kernel, rfl⟩
theorem own_d_prog_38_method_15_code_35 : own_ix prog_38_method_15_code 35 .lxor 1 36 := ⟨by decide +kernel, rfl⟩
theorem own_d_prog_38_method_15_code_36 : own_ix prog_38_method_15_code 36 (.ldc2_w 127) 3 39 := ⟨by decide +kernel, rfl⟩
theorem own_d_prog_38_method_15_code_39 : own_ix prog_38_method_15_code 39 .lmul 1 40 := ⟨by decide +kernel, rfl⟩
theorem own_d_prog_38_method_15_code_40 : own_sl prog_38_method_15_code 40 1 41 := Or.inl ⟨1, by decide +kernel, rfl, rfl⟩
theorem own_d_prog_38_method_15_code_41 : own_ll prog_38_method_15_code 41 1 42 := Or.inl ⟨1, by decide +kernel, rfl, rfl⟩
theorem own_d_prog_38_method_15_code_42 : own_ll prog_38_method_15_code 42 1 43 := Or.inl ⟨1, by decide +kernel, rfl, rfl⟩
theorem own_d_prog_38_method_15_code_43 : own_ik prog_38_method_15_code 43 29 45 := ⟨29, Or.inr (Or.inl ⟨by decide +kernel, by decide, rfl⟩)⟩
theorem own_d_prog_38_method_15_code_45 : own_ix prog_38_method_15_code 45 .lushr 1 46 := ⟨by decide +kernel, rfl⟩
theorem own_d_prog_38_method_15_code_46 : own_ix prog_38_method_15_code 46 .lxor 1 47 := ⟨by decide +kernel, rfl⟩
theorem own_d_prog_38_method_15_code_47 : own_sl prog_38_method_15_code 47 1 48 := Or.inl ⟨1, by decide +kernel, rfl, rfl⟩
theorem own_d_prog_38_method_15_code_48 : own_ii prog_38_method_15_code 48 3 1 51 := ⟨1, by decide +kernel, by decide, rfl⟩
theorem own_d_prog_38_method_15_code_51 : own_gt prog_38_method_15_code 51 8 := ⟨(-43), by decide +kernel, by decide, by decide⟩
theorem own_d_method_2_code_0 : own_ll method_2_code 0 0 1 := Or.inl ⟨0, by decide +kernel, rfl, rfl⟩
theorem own_d_method_2_code_1 : own_il method_2_code 1 2 2 := Or.inl ⟨2, by decide +kernel, rfl, rfl⟩
theorem own_d_method_2_code_2 : own_ix method_2_code 2 .i2l 1 3 := ⟨by decide +kernel, rfl⟩
theorem own_d_method_2_code_3 : own_ix method_2_code 3 (.ldc2_w 7) 3 6 := ⟨by decide +kernel, rfl⟩
theorem own_d_method_2_code_6 : own_ix method_2_code 6 .lmul 1 7 := ⟨by decide +kernel, rfl⟩
theorem own_d_method_2_code_7 : own_il method_2_code 7 3 8 := Or.inl ⟨3, by decide +kernel, rfl, rfl⟩
theorem own_d_method_2_code_8 : own_ix method_2_code 8 .i2l 1 9 := ⟨by decide +kernel, rfl⟩
theorem own_d_method_2_code_9 : own_ix method_2_code 9 .ladd 1 10 := ⟨by decide +kernel, rfl⟩
theorem own_d_method_2_code_10 : own_ix method_2_code 10 .lxor 1 11 := ⟨by decide +kernel, rfl⟩
theorem own_d_method_2_code_11 : own_ix method_2_code 11 (.ldc2_w 11) 3 14 := ⟨by decide +kernel, rfl⟩
theorem own_d_method_2_code_14 : own_ix method_2_code 14 .lmul 1 15 := ⟨by decide +kernel, rfl⟩
theorem own_d_method_2_code_15 : own_sl method_2_code 15 4 17 := Or.inr ⟨by decide +kernel, rfl⟩
theorem own_d_method_2_code_17 : own_ll method_2_code 17 4 19 := Or.inr ⟨by decide +kernel, rfl⟩
theorem own_d_method_2_code_19 : own_ll method_2_code 19 4 21 := Or.inr ⟨by decide +kernel, rfl⟩
theorem own_d_method_2_code_21 : own_ik method_2_code 21 29 23 := ⟨29, Or.inr (Or.inl ⟨by decide +kernel, by decide, rfl⟩)⟩
theorem own_d_method_2_code_23 : own_ix method_2_code 23 .lushr 1 24 := ⟨by decide +kernel, rfl⟩
theorem own_d_method_2_code_24 : own_ix method_2_code 24 .lxor 1 25 := ⟨by decide +kernel, rfl⟩
theorem own_d_method_2_code_25 : own_ix method_2_code 25 .lreturn 1 26 := ⟨by decide +kernel, rfl⟩
theorem own_pn_com_example_depth2_depth2_PackedMarkingHashPinLaw : plainName "com/example/depth2/depth2/PackedMarkingHashPinLaw" = true := by first | (simp [plainName, overriddenIn]; done) | decide +kernel
theorem own_d_code_0 : own_il code 0 0 1 := Or.inl ⟨0, by decide +kernel, rfl, rfl⟩
theorem own_d_code_1 : own_ix code 1 (.ldc 13) 2 3 := ⟨by decide +kernel, rfl⟩
theorem own_d_code_3 : own_ix code 3 .iand 1 4 := ⟨by decide +kernel, rfl⟩
theorem own_d_code_4 : own_ik code 4 3 5 := ⟨3, Or.inl ⟨by decide +kernel, by decide, rfl⟩⟩
theorem own_d_code_5 : own_ix code 5 .irem 1 6 := ⟨by decide +kernel, rfl⟩
theorem own_d_code_6 : own_si code 6 6 8 := Or.inr ⟨by decide +kernel, rfl⟩
theorem own_d_code_8 : own_il code 8 1 9 := Or.inl ⟨1, by decide +kernel, rfl, rfl⟩
theorem own_d_code_9 : own_ik code 9 15 11 := ⟨15, Or.inr (Or.inl ⟨by decide +kernel, by decide, rfl⟩)⟩
theorem own_d_code_11 : own_ix code 11 .iand 1 12 := ⟨by decide +kernel, rfl⟩
theorem own_d_code_12 : own_si code 12 7 14 := Or.inr ⟨by decide +kernel, rfl⟩
theorem own_d_code_14 : own_il code 14 7 16 := Or.inr ⟨by decide +kernel, rfl⟩
theorem own_d_code_16 : own_ik code 16 1 17 := ⟨1, Or.inl ⟨by decide +kernel, by decide, rfl⟩⟩
theorem own_d_code_17 : own_ix code 17 .iadd 1 18 := ⟨by decide +kernel, rfl⟩
theorem own_d_code_18 : own_il code 18 3 19 := Or.inl ⟨3, by decide +kernel, rfl, rfl⟩
theorem own_d_code_19 : own_ik code 19 14 21 := ⟨14, Or.inr (Or.inl ⟨by decide +kernel, by decide, rfl⟩)⟩
theorem own_d_code_21 : own_ix code 21 .iand 1 22 := ⟨by decide +kernel, rfl⟩
theorem own_d_code_22 : own_ix code 22 .iadd 1 23 := ⟨by decide +kernel, rfl⟩
theorem own_d_code_23 : own_ik code 23 15 25 := ⟨15, Or.inr (Or.inl ⟨by decide +kernel, by decide, rfl⟩)⟩
theorem own_d_code_25 : own_ix code 25 .iand 1 26 := ⟨by decide +kernel, rfl⟩
theorem own_d_code_26 : own_si code 26 8 28 := Or.inr ⟨by decide +kernel, rfl⟩
theorem own_d_code_28 : own_il code 28 5 30 := Or.inr ⟨by decide +kernel, rfl⟩
theorem own_d_code_30 : own_ik code 30 15 32 := ⟨15, Or.inr (Or.inl ⟨by decide +kernel, by decide, rfl⟩)⟩
theorem own_d_code_32 : own_ix code 32 .iand 1 33 := ⟨by decide +kernel, rfl⟩
theorem own_d_code_33 : own_si code 33 9 35 := Or.inr ⟨by decide +kernel, rfl⟩
theorem own_d_code_35 : own_ik code 35 1 36 := ⟨1, Or.inl ⟨by decide +kernel, by decide, rfl⟩⟩
theorem own_d_code_36 : own_il code 36 2 37 := Or.inl ⟨2, by decide +kernel, rfl, rfl⟩
theorem own_d_code_37 : own_ix code 37 (.ldc 13) 2 39 := ⟨by decide +kernel, rfl⟩
theorem own_d_code_39 : own_ix code 39 .iand 1 40 := ⟨by decide +kernel, rfl⟩
theorem own_pd__II_I : parseMethodDescriptor "(II)I" = some ⟨[.int, .int], some .int⟩ := by decide +kernel
theorem own_d_code_40 : own_ix code 40 (.invokestatic 14) 3 43 := ⟨by decide +kernel, rfl⟩
theorem own_d_code_43 : own_si code 43 10 45 := Or.inr ⟨by decide +kernel, rfl⟩
theorem own_d_code_45 : own_ik code 45 1 46 := ⟨1, Or.inl ⟨by decide +kernel, by decide, rfl⟩⟩
theorem own_d_code_46 : own_il code 46 4 48 := Or.inr ⟨by decide +kernel, rfl⟩
theorem own_d_code_48 : own_ix code 48 (.ldc 13) 2 50 := ⟨by decide +kernel, rfl⟩
theorem own_d_code_50 : own_ix code 50 .iand 1 51 := ⟨by decide +kernel, rfl⟩
theorem own_d_code_51 : own_ix code 51 (.invokestatic 14) 3 54 := ⟨by decide +kernel, rfl⟩
theorem own_d_code_54 : own_si code 54 11 56 := Or.inr ⟨by decide +kernel, rfl⟩
theorem own_d_code_56 : own_ik code 56 1 57 := ⟨1, Or.inl ⟨by decide +kernel, by decide, rfl⟩⟩
theorem own_d_code_57 : own_il code 57 0 58 := Or.inl ⟨0, by decide +kernel, rfl, rfl⟩
theorem own_d_code_58 : own_ik code 58 2 59 := ⟨2, Or.inl ⟨by decide +kernel, by decide, rfl⟩⟩
theorem own_d_code_59 : own_ix code 59 .iushr 1 60 := ⟨by decide +kernel, rfl⟩
theorem own_d_code_60 : own_ix code 60 (.invokestatic 14) 3 63 := ⟨by decide +kernel, rfl⟩
theorem own_d_code_63 : own_si code 63 12 65 := Or.inr ⟨by decide +kernel, rfl⟩
theorem own_d_code_65 : own_ix code 65 (.new 20) 3 68 := ⟨by decide +kernel, rfl⟩
theorem own_d_code_68 : own_ix code 68 .dup 1 69 := ⟨by decide +kernel, rfl⟩
theorem own_d_code_69 : own_ix code 69 (.new 22) 3 72 := ⟨by decide +kernel, rfl⟩
theorem own_d_code_72 : own_ix code 72 .dup 1 73 := ⟨by decide +kernel, rfl⟩
theorem own_d_code_73 : own_ix code 73 (.invokespecial 24) 3 76 := ⟨by decide +kernel, rfl⟩
theorem own_pd__Lcom_example_depth2_depth2_NetTokenTable__V : parseMethodDescriptor "(Lcom/example/depth2/depth2/NetTokenTable;)V" = some ⟨[(.object "com/example/depth2/depth2/NetTokenTable")], none⟩ := by decide +kernel
theorem own_d_code_76 : own_ix code 76 (.invokespecial 25) 3 79 := ⟨by decide +kernel, rfl⟩
theorem own_d_code_79 : own_sa code 79 13 81 := Or.inr ⟨by decide +kernel, rfl⟩
theorem own_d_code_81 : own_al code 81 13 83 := Or.inr ⟨by decide +kernel, rfl⟩
theorem own_d_code_83 : own_il code 83 9 85 := Or.inr ⟨by decide +kernel, rfl⟩
theorem own_d_code_85 : own_il code 85 12 87 := Or.inr ⟨by decide +kernel, rfl⟩
theorem own_pd__II_V : parseMethodDescriptor "(II)V" = some ⟨[.int, .int], none⟩ := by decide +kernel
theorem own_d_code_87 : own_ix code 87 (.invokevirtual 28) 3 90 := ⟨by decide +kernel, rfl⟩
theorem own_d_code_90 : own_al code 90 13 92 := Or.inr ⟨by decide +kernel, rfl⟩
theorem own_d_code_92 : own_ix code 92 (.invokevirtual 32) 3 95 := ⟨by decide +kernel, rfl⟩
theorem own_d_code_95 : own_il code 95 6 97 := Or.inr ⟨by decide +kernel, rfl⟩
theorem own_d_code_97 : own_ik code 97 1 98 := ⟨1, Or.inl ⟨by decide +kernel, by decide, rfl⟩⟩
theorem own_d_code_98 : own_icm code 98 .lt 101 110 := ⟨12, by decide +kernel, rfl, by decide, by decide⟩
theorem own_d_code_110 : own_il code 110 6 112 := Or.inr ⟨by decide +kernel, rfl⟩
theorem own_d_code_112 : own_ik code 112 2 113 := ⟨2, Or.inl ⟨by decide +kernel, by decide, rfl⟩⟩
theorem own_d_code_113 : own_icm code 113 .lt 116 125 := ⟨12, by decide +kernel, rfl, by decide, by decide⟩
theorem own_d_code_125 : own_il code 125 6 127 := Or.inr ⟨by decide +kernel, rfl⟩
theorem own_d_code_127 : own_ifc code 127 .ne 130 136 := ⟨9, by decide +kernel, rfl, by decide, by decide⟩
theorem own_d_code_130 : own_lk code 130 0 131 := ⟨0, by decide +kernel, by decide, rfl⟩
theorem own_d_code_131 : own_sl code 131 14 133 := Or.inr ⟨by decide +kernel, rfl⟩
theorem own_d_code_133 : own_gt code 133 224 := ⟨91, by decide +kernel, by decide, by decide⟩
theorem own_d_code_224 : own_al code 224 13 226 := Or.inr ⟨by decide +kernel, rfl⟩
theorem own_pd___J : parseMethodDescriptor "()J" = some ⟨[], some .long⟩ := by decide +kernel
theorem own_d_code_226 : own_ix code 226 (.invokevirtual 44) 3 229 := ⟨by decide +kernel, rfl⟩
theorem own_d_code_229 : own_ll code 229 14 231 := Or.inr ⟨by decide +kernel, rfl⟩
theorem own_d_code_231 : own_ix code 231 .lcmp 1 232 := ⟨by decide +kernel, rfl⟩
theorem own_d_code_232 : own_ifc code 232 .ne 235 239 := ⟨7, by decide +kernel, rfl, by decide, by decide⟩
theorem own_d_code_235 : own_ik code 235 1 236 := ⟨1, Or.inl ⟨by decide +kernel, by decide, rfl⟩⟩
theorem own_d_code_236 : own_gt code 236 240 := ⟨4, by decide +kernel, by decide, by decide⟩
theorem own_d_code_240 : own_ix code 240 .ireturn 1 241 := ⟨by decide +kernel, rfl⟩
theorem own_d_code_101 : own_al code 101 13 103 := Or.inr ⟨by decide +kernel, rfl⟩
theorem own_d_code_103 : own_il code 103 7 105 := Or.inr ⟨by decide +kernel, rfl⟩
theorem own_d_code_105 : own_il code 105 10 107 := Or.inr ⟨by decide +kernel, rfl⟩
theorem own_d_code_107 : own_ix code 107 (.invokevirtual 28) 3 110 := ⟨by decide +kernel, rfl⟩
theorem own_d_code_136 : own_il code 136 6 138 := Or.inr ⟨by decide +kernel, rfl⟩
theorem own_d_code_138 : own_ik code 138 1 139 := ⟨1, Or.inl ⟨by decide +kernel, by decide, rfl⟩⟩
theorem own_d_code_139 : own_icm code 139 .ne 142 155 := ⟨16, by decide +kernel, rfl, by decide, by decide⟩
theorem own_d_code_142 : own_lk code 142 1 143 := ⟨1, by decide +kernel, by decide, rfl⟩
theorem own_d_code_143 : own_il code 143 7 145 := Or.inr ⟨by decide +kernel, rfl⟩
theorem own_d_code_145 : own_il code 145 10 147 := Or.inr ⟨by decide +kernel, rfl⟩
theorem own_pd__JII_J : parseMethodDescriptor "(JII)J" = some ⟨[.long, .int, .int], some .long⟩ := by decide +kernel
theorem own_d_code_147 : own_ix code 147 (.invokestatic 35) 3 150 := ⟨by decide +kernel, rfl⟩
theorem own_d_code_150 : own_sl code 150 14 152 := Or.inr ⟨by decide +kernel, rfl⟩
theorem own_d_code_152 : own_gt code 152 224 := ⟨72, by decide +kernel, by decide, by decide⟩
theorem own_d_code_116 : own_al code 116 13 118 := Or.inr ⟨by decide +kernel, rfl⟩
theorem own_d_code_118 : own_il code 118 8 120 := Or.inr ⟨by decide +kernel, rfl⟩
theorem own_d_code_120 : own_il code 120 11 122 := Or.inr ⟨by decide +kernel, rfl⟩
theorem own_d_code_122 : own_ix code 122 (.invokevirtual 28) 3 125 := ⟨by decide +kernel, rfl⟩
theorem own_d_code_155 : own_il code 155 7 157 := Or.inr ⟨by decide +kernel, rfl⟩
theorem own_d_code_157 : own_il code 157 8 159 := Or.inr ⟨by decide +kernel, rfl⟩
theorem own_d_code_159 : own_ix code 159 (.invokestatic 39) 3 162 := ⟨by decide +kernel, rfl⟩
theorem own_d_code_162 : own_si code 162 16 164 := Or.inr ⟨by decide +kernel, rfl⟩
theorem own_d_code_164 : own_il code 164 7 166 := Or.inr ⟨by decide +kernel, rfl⟩
theorem own_d_code_166 : own_il code 166 8 168 := Or.inr ⟨by decide +kernel, rfl⟩
theorem own_d_code_168 : own_ix code 168 (.invokestatic 14) 3 171 := ⟨by decide +kernel, rfl⟩
theorem own_d_code_171 : own_si code 171 17 173 := Or.inr ⟨by decide +kernel, rfl⟩
theorem own_d_code_173 : own_il code 173 16 175 := Or.inr ⟨by decide +kernel, rfl⟩
theorem own_d_code_175 : own_il code 175 7 177 := Or.inr ⟨by decide +kernel, rfl⟩
theorem own_d_code_177 : own_icm code 177 .ne 180 185 := ⟨8, by decide +kernel, rfl, by decide, by decide⟩
theorem own_d_code_185 : own_il code 185 11 187 := Or.inr ⟨by decide +kernel, rfl⟩
theorem own_d_code_187 : own_si code 187 18 189 := Or.inr ⟨by decide +kernel, rfl⟩
theorem own_d_code_189 : own_il code 189 17 191 := Or.inr ⟨by decide +kernel, rfl⟩
theorem own_d_code_191 : own_il code 191 7 193 := Or.inr ⟨by decide +kernel, rfl⟩
theorem own_d_code_193 : own_icm code 193 .ne 196 201 := ⟨8, by decide +kernel, rfl, by decide, by decide⟩
theorem own_d_code_196 : own_il code 196 10 198 := Or.inr ⟨by decide +kernel, rfl⟩
theorem own_d_code_198 : own_gt code 198 203 := ⟨5, by decide +kernel, by decide, by decide⟩
theorem own_d_code_203 : own_si code 203 19 205 := Or.inr ⟨by decide +kernel, rfl⟩
theorem own_d_code_205 : own_ix code 205 (.ldc2_w 42) 3 208 := ⟨by decide +kernel, rfl⟩
theorem own_d_code_208 : own_il code 208 16 210 := Or.inr ⟨by decide +kernel, rfl⟩
theorem own_d_code_210 : own_il code 210 18 212 := Or.inr ⟨by decide +kernel, rfl⟩
theorem own_d_code_212 : own_ix code 212 (.invokestatic 35) 3 215 := ⟨by decide +kernel, rfl⟩
theorem own_d_code_215 : own_il code 215 17 217 := Or.inr ⟨by decide +kernel, rfl⟩
theorem own_d_code_217 : own_il code 217 19 219 := Or.inr ⟨by decide +kernel, rfl⟩
theorem own_d_code_219 : own_ix code 219 (.invokestatic 35) 3 222 := ⟨by decide +kernel, rfl⟩
theorem own_d_code_222 : own_sl code 222 14 224 := Or.inr ⟨by decide +kernel, rfl⟩
theorem own_d_code_180 : own_il code 180 10 182 := Or.inr ⟨by decide +kernel, rfl⟩
theorem own_d_code_182 : own_gt code 182 187 := ⟨5, by decide +kernel, by decide, by decide⟩
theorem own_d_code_201 : own_il code 201 11 203 := Or.inr ⟨by decide +kernel, rfl⟩
set_option maxRecDepth 65536 in
set_option maxHeartbeats 40000000 in
theorem own_max (l : Launch) (Z : State) (a0 : Array Value) (hw : ∀ d ∈ tables_1, d.before a0 Z = true) (x_ y_ : Int32) (h0 : Heap) (n0 : Nat) (Z0 : n0 ≤ h0.size)  :
    own_Con l Z n0 (⟨"java/lang/Math", "max", "(II)I"⟩ : MethodName) jdk_29_method_65_code 2 (some .int) ({ frames := 0, cells := 0, slots := 0, locals := 0 } : Room) [] #[(.int x_), (.int y_)] h0 (fun v h' => v = some (.int (own_mx x_ y_)) ∧ h' = h0) := by
  refine own_enter (Jvm.Free.JP.mathPlain rfl (by decide +kernel)) Z0 #[.val (.int x_), .val (.int y_)] (fun m => by first | (simp [entryFrame, mkF, argsToLocals, Value.category]; done) | rfl) ?_
  intro p e s m below meth c T A X0 hret hnm fin
  refine own_iload X0 own_d_jdk_29_method_65_code_0 rfl ?_
  refine own_iload X0 own_d_jdk_29_method_65_code_1 rfl ?_
  by_cases c1 : x_ < y_
  · skip
    refine own_icYes X0 own_d_jdk_29_method_65_code_2 (tlt c1).1 ?_
    refine own_iload X0 own_d_jdk_29_method_65_code_9 rfl ?_
    exact own_retI X0 hret fin (by decide) (by decide) ⟨by rw [own_mx, if_pos c1], rfl⟩ own_d_jdk_29_method_65_code_10
  · skip
    refine own_icNo X0 own_d_jdk_29_method_65_code_2 (flt c1).1 ?_
    refine own_iload X0 own_d_jdk_29_method_65_code_5 rfl ?_
    refine own_goto X0 own_d_jdk_29_method_65_code_6 ?_
    exact own_retI X0 hret fin (by decide) (by decide) ⟨by rw [own_mx, if_neg c1], rfl⟩ own_d_jdk_29_method_65_code_10
set_option maxRecDepth 65536 in
set_option maxHeartbeats 40000000 in
theorem own_min (l : Launch) (Z : State) (a0 : Array Value) (hw : ∀ d ∈ tables_1, d.before a0 Z = true) (x_ y_ : Int32) (h0 : Heap) (n0 : Nat) (Z0 : n0 ≤ h0.size)  :
    own_Con l Z n0 (⟨"java/lang/Math", "min", "(II)I"⟩ : MethodName) jdk_29_method_69_code 2 (some .int) ({ frames := 0, cells := 0, slots := 0, locals := 0 } : Room) [] #[(.int x_), (.int y_)] h0 (fun v h' => v = some (.int (own_mn x_ y_)) ∧ h' = h0) := by
  refine own_enter (Jvm.Free.JP.mathPlain rfl (by decide +kernel)) Z0 #[.val (.int x_), .val (.int y_)] (fun m => by first | (simp [entryFrame, mkF, argsToLocals, Value.category]; done) | rfl) ?_
  intro p e s m below meth c T A X0 hret hnm fin
  refine own_iload X0 own_d_jdk_29_method_69_code_0 rfl ?_
  refine own_iload X0 own_d_jdk_29_method_69_code_1 rfl ?_
  by_cases c1 : y_ < x_
  · skip
    refine own_icYes X0 own_d_jdk_29_method_69_code_2 (tlt c1).2.2.1 ?_
    refine own_iload X0 own_d_jdk_29_method_69_code_9 rfl ?_
    exact own_retI X0 hret fin (by decide) (by decide) ⟨by rw [own_mn, if_pos c1], rfl⟩ own_d_jdk_29_method_69_code_10
  · skip
    refine own_icNo X0 own_d_jdk_29_method_69_code_2 (flt c1).2.2.1 ?_
    refine own_iload X0 own_d_jdk_29_method_69_code_5 rfl ?_
    refine own_goto X0 own_d_jdk_29_method_69_code_6 ?_
    exact own_retI X0 hret fin (by decide) (by decide) ⟨by rw [own_mn, if_neg c1], rfl⟩ own_d_jdk_29_method_69_code_10
set_option maxRecDepth 65536 in
set_option maxHeartbeats 40000000 in
theorem own_recInit (l : Launch) (Z : State) (a0 : Array Value) (hw : ∀ d ∈ tables_1, d.before a0 Z = true) (a : Addr) (h0 : Heap) (n0 : Nat) (Z0 : n0 ≤ h0.size)  :
    own_Con l Z n0 (⟨"java/lang/Record", "<init>", "()V"⟩ : MethodName) jdk_30_method_1_code 1 none ({ frames := 1, cells := 0, slots := 0, locals := 12 } : Room) [] #[(.ref a)] h0 (fun v h' => v = none ∧ h' = h0) := by
  refine own_enter (by decide +kernel) Z0 #[.val (.ref a)] (fun m => by first | (simp [entryFrame, mkF, argsToLocals, Value.category]; done) | rfl) ?_
  intro p e s m below meth c T A X0 hret hnm fin
  refine own_aload X0 own_d_jdk_30_method_1_code_0 rfl ?_
  refine own_initO X0 (hw _ (List.mem_of_getElem? (i := 31) rfl)) (hw _ (List.mem_of_getElem? (i := 15) rfl)) (hw _ (List.mem_of_getElem? (i := 16) rfl)) own_d_jdk_30_method_1_code_1 rfl (by decide) 0 (by show 2 * 0 + _ ≤ _; exact Nat.le_of_eq rfl) (by decide) ?_
  intro T1 X1
  exact own_ret0 X1 hret fin (by decide) (by decide) ⟨rfl, rfl⟩ own_d_jdk_30_method_1_code_4
set_option maxRecDepth 65536 in
set_option maxHeartbeats 40000000 in
theorem own_numInit (l : Launch) (Z : State) (a0 : Array Value) (hw : ∀ d ∈ tables_1, d.before a0 Z = true) (a q1 q2 q3 q4 : Addr) (h0 : Heap) (n0 : Nat) (Z0 : n0 ≤ h0.size) (O : own_Obj Z h0 a "com/example/depth2/depth2/NetTokenTable$Numbered" own_ns_Nu [.null, .null, .null, .null]) (ga : n0 ≤ a) :
    own_Con l Z n0 (⟨"com/example/depth2/depth2/NetTokenTable$Numbered", "<init>", "([Lcom/example/depth2/depth2/NetToken;[I[I[I)V"⟩ : MethodName) prog_35_method_1_code 5 none ({ frames := 2, cells := 0, slots := 0, locals := 24 } : Room) [] #[(.ref a), (.ref q1), (.ref q2), (.ref q3), (.ref q4)] h0 (fun v h' => v = none ∧ Keep h0 h' [a] ∧ own_Obj Z h' a "com/example/depth2/depth2/NetTokenTable$Numbered" own_ns_Nu [(.ref q1), (.ref q2), (.ref q3), (.ref q4)]) := by
  refine own_enter (plainFor_of_name own_pn_com_example_depth2_depth2_NetTokenTable_Numbered) Z0 #[.val (.ref a), .val (.ref q1), .val (.ref q2), .val (.ref q3), .val (.ref q4)] (fun m => by first | (simp [entryFrame, mkF, argsToLocals, Value.category]; done) | rfl) ?_
  intro p e s m below meth c T A X0 hret hnm fin
  refine own_aload X0 own_d_prog_35_method_1_code_0 rfl ?_
  refine own_callI X0 (y := (⟨"java/lang/Record", "<init>", "()V"⟩ : MethodName)) [] [] 0 (a := a) rfl rfl (hw _ (List.mem_of_getElem? (i := 26) rfl)) (hw _ (List.mem_of_getElem? (i := 27) rfl)) (hw _ (List.mem_of_getElem? (i := 29) rfl)) (hw _ (List.mem_of_getElem? (i := 30) rfl)) (by decide) (own_recInit l Z a0 hw a h0 n0 X0.sz) own_d_prog_35_method_1_code_1 own_pd___V rfl rfl (by show 2 * 0 + _ ≤ _; exact Nat.le_of_eq rfl) (by decide) (by decide) (by decide) (by decide) ?_
  intro T1 h1 v1 X1 P1
  obtain ⟨rfl, eh1⟩ := P1
  rw [eh1] at X1
  show own_Wins p e below A T1 (mkF m 4 #[.val (.ref a), .val (.ref q1), .val (.ref q2), .val (.ref q3), .val (.ref q4)] [])
  refine own_aload X1 own_d_prog_35_method_1_code_4 rfl ?_
  refine own_aload X1 own_d_prog_35_method_1_code_5 rfl ?_
  refine own_putF X1 (k := 0) (ty := (.array (.object "com/example/depth2/depth2/NetToken"))) (hw _ (List.mem_of_getElem? (i := 32) rfl)) O (own_laid_Nu hw) rfl (Or.inr ⟨(hw _ (List.mem_of_getElem? (i := 33) rfl)), rfl, hnm⟩) (hw _ (List.mem_of_getElem? (i := 18) rfl)) (by decide) rfl rfl ga own_d_prog_35_method_1_code_6 ?_
  intro T2 h2 X2 W2 V2
  have K2 : Keep h0 h2 [a] := (Keep.refl h0 [a]).wr W2 (Or.inl (by simp))
  replace V2 : own_Obj Z h2 a "com/example/depth2/depth2/NetTokenTable$Numbered" own_ns_Nu [(.ref q1), .null, .null, .null] := V2
  refine own_aload X2 own_d_prog_35_method_1_code_9 rfl ?_
  refine own_aload X2 own_d_prog_35_method_1_code_10 rfl ?_
  refine own_putF X2 (k := 1) (ty := (.array .int)) (hw _ (List.mem_of_getElem? (i := 34) rfl)) V2 (own_laid_Nu hw) rfl (Or.inr ⟨(hw _ (List.mem_of_getElem? (i := 35) rfl)), rfl, hnm⟩) (hw _ (List.mem_of_getElem? (i := 18) rfl)) (by decide) rfl rfl ga own_d_prog_35_method_1_code_11 ?_
  intro T3 h3 X3 W3 V3
  have K3 : Keep h0 h3 [a] := K2.wr W3 (Or.inl (by simp))
  replace V3 : own_Obj Z h3 a "com/example/depth2/depth2/NetTokenTable$Numbered" own_ns_Nu [(.ref q1), (.ref q2), .null, .null] := V3
  refine own_aload X3 own_d_prog_35_method_1_code_14 rfl ?_
  refine own_aload X3 own_d_prog_35_method_1_code_15 rfl ?_
  refine own_putF X3 (k := 2) (ty := (.array .int)) (hw _ (List.mem_of_getElem? (i := 36) rfl)) V3 (own_laid_Nu hw) rfl (Or.inr ⟨(hw _ (List.mem_of_getElem? (i := 37) rfl)), rfl, hnm⟩) (hw _ (List.mem_of_getElem? (i := 18) rfl)) (by decide) rfl rfl ga own_d_prog_35_method_1_code_16 ?_
  intro T4 h4 X4 W4 V4
  have K4 : Keep h0 h4 [a] := K3.wr W4 (Or.inl (by simp))
  replace V4 : own_Obj Z h4 a "com/example/depth2/depth2/NetTokenTable$Numbered" own_ns_Nu [(.ref q1), (.ref q2), (.ref q3), .null] := V4
  refine own_aload X4 own_d_prog_35_method_1_code_19 rfl ?_
  refine own_aload X4 own_d_prog_35_method_1_code_20 rfl ?_
  refine own_putF X4 (k := 3) (ty := (.array .int)) (hw _ (List.mem_of_getElem? (i := 38) rfl)) V4 (own_laid_Nu hw) rfl (Or.inr ⟨(hw _ (List.mem_of_getElem? (i := 39) rfl)), rfl, hnm⟩) (hw _ (List.mem_of_getElem? (i := 18) rfl)) (by decide) rfl rfl ga own_d_prog_35_method_1_code_22 ?_
  intro T5 h5 X5 W5 V5
  have K5 : Keep h0 h5 [a] := K4.wr W5 (Or.inl (by simp))
  replace V5 : own_Obj Z h5 a "com/example/depth2/depth2/NetTokenTable$Numbered" own_ns_Nu [(.ref q1), (.ref q2), (.ref q3), (.ref q4)] := V5
  exact own_ret0 X5 hret fin (by decide) (by decide) ⟨rfl, K5, V5⟩ own_d_prog_35_method_1_code_25
set_option maxRecDepth 65536 in
set_option maxHeartbeats 40000000 in
theorem own_tabInit (l : Launch) (Z : State) (a0 : Array Value) (hw : ∀ d ∈ tables_1, d.before a0 Z = true) (a : Addr) (h0 : Heap) (n0 : Nat) (Z0 : n0 ≤ h0.size) (O : own_Obj Z h0 a "com/example/depth2/depth2/NetTokenTable" own_ns_Tb [.null]) (ga : n0 ≤ a) :
    own_Con l Z n0 (⟨"com/example/depth2/depth2/NetTokenTable", "<init>", "()V"⟩ : MethodName) prog_34_method_1_code 1 none ({ frames := 3, cells := 5, slots := 84, locals := 49 } : Room) [] #[(.ref a)] h0 (fun v h' => ∃ nb ta pa ha sa : Addr, v = none ∧ Keep h0 h' [a] ∧ own_Obj Z h' a "com/example/depth2/depth2/NetTokenTable" own_ns_Tb [(.ref nb)] ∧ own_Obj Z h' nb "com/example/depth2/depth2/NetTokenTable$Numbered" own_ns_Nu [(.ref ta), (.ref pa), (.ref ha), (.ref sa)] ∧ own_AL Z h' pa .int [(.int (0 : Int32)), (.int (0 : Int32)), (.int (0 : Int32)), (.int (0 : Int32)), (.int (0 : Int32)), (.int (0 : Int32)), (.int (0 : Int32)), (.int (0 : Int32)), (.int (0 : Int32)), (.int (0 : Int32)), (.int (0 : Int32)), (.int (0 : Int32)), (.int (0 : Int32)), (.int (0 : Int32)), (.int (0 : Int32)), (.int (0 : Int32))] ∧ h0.size ≤ nb ∧ h0.size ≤ pa ∧ n0 ≤ nb) := by
  refine own_enter (plainFor_of_name own_pn_com_example_depth2_depth2_NetTokenTable) Z0 #[.val (.ref a)] (fun m => by first | (simp [entryFrame, mkF, argsToLocals, Value.category]; done) | rfl) ?_
  intro p e s m below meth c T A X0 hret hnm fin
  refine own_aload X0 own_d_prog_34_method_1_code_0 rfl ?_
  refine own_initO X0 (hw _ (List.mem_of_getElem? (i := 14) rfl)) (hw _ (List.mem_of_getElem? (i := 15) rfl)) (hw _ (List.mem_of_getElem? (i := 16) rfl)) own_d_prog_34_method_1_code_1 rfl (by decide) 0 (by show 2 * 0 + _ ≤ _; exact Nat.le_of_eq rfl) (by decide) ?_
  intro T1 X1
  refine own_aload X1 own_d_prog_34_method_1_code_4 rfl ?_
  refine own_new X1 (hw _ (List.mem_of_getElem? (i := 17) rfl)) (hw _ (List.mem_of_getElem? (i := 18) rfl)) (hw _ (List.mem_of_getElem? (i := 19) rfl)) (own_laid_Nu hw) [.null, .null, .null, .null] (by decide) own_d_prog_34_method_1_code_5 (by decide) (by decide) ?_
  intro T2 h2 b2 X2 E2 g2 ga_b2 V2
  have ne_a_b2 : a ≠ b2 := by rw [g2]; exact Nat.ne_of_lt O.lt
  have sz_b2 : h0.size ≤ b2 := by rw [g2]; exact (Keep.refl h0 [a]).1
  have K2 : Keep h0 h2 [a] := (Keep.refl h0 [a]).ext E2
  have F3_a : own_Obj Z h2 a "com/example/depth2/depth2/NetTokenTable" own_ns_Tb [.null] := O.ext E2
  refine own_dup X2 own_d_prog_34_method_1_code_8 rfl ?_
  refine own_ipush X2 own_d_prog_34_method_1_code_9 ?_
  refine own_anew X2 (hw _ (List.mem_of_getElem? (i := 20) rfl)) (hw _ (List.mem_of_getElem? (i := 21) rfl)) own_d_prog_34_method_1_code_11 (n := 16) ⟨by decide, by decide⟩ 16 (Nat.le_refl _) (by decide) (by decide) (by decide) ?_
  intro T4 h4 b4 X4 E4 g4 ga_b4 V4
  have ne_a_b4 : a ≠ b4 := by rw [g4]; exact Nat.ne_of_lt F3_a.lt
  have ne_b2_b4 : b2 ≠ b4 := by rw [g4]; exact Nat.ne_of_lt V2.lt
  have sz_b4 : h0.size ≤ b4 := by rw [g4]; exact K2.1
  have K4 : Keep h0 h4 [a] := K2.ext E4
  have F5_a : own_Obj Z h4 a "com/example/depth2/depth2/NetTokenTable" own_ns_Tb [.null] := F3_a.ext E4
  have F6_b2 : own_Obj Z h4 b2 "com/example/depth2/depth2/NetTokenTable$Numbered" own_ns_Nu [.null, .null, .null, .null] := V2.ext E4
  refine own_ipush X4 own_d_prog_34_method_1_code_14 ?_
  refine own_newarr X4 (hw _ (List.mem_of_getElem? (i := 22) rfl)) own_d_prog_34_method_1_code_16 (n := 16) ⟨by decide, by decide⟩ 16 (Nat.le_refl _) (by decide) (by decide) (by decide) ?_
  intro T7 h7 b7 X7 E7 g7 ga_b7 V7
  have ne_a_b7 : a ≠ b7 := by rw [g7]; exact Nat.ne_of_lt F5_a.lt
  have ne_b2_b7 : b2 ≠ b7 := by rw [g7]; exact Nat.ne_of_lt F6_b2.lt
  have sz_b7 : h0.size ≤ b7 := by rw [g7]; exact K4.1
  have K7 : Keep h0 h7 [a] := K4.ext E7
  have F8_a : own_Obj Z h7 a "com/example/depth2/depth2/NetTokenTable" own_ns_Tb [.null] := F5_a.ext E7
  have F9_b2 : own_Obj Z h7 b2 "com/example/depth2/depth2/NetTokenTable$Numbered" own_ns_Nu [.null, .null, .null, .null] := F6_b2.ext E7
  replace V7 : own_AL Z h7 b7 .int [(.int (0 : Int32)), (.int (0 : Int32)), (.int (0 : Int32)), (.int (0 : Int32)), (.int (0 : Int32)), (.int (0 : Int32)), (.int (0 : Int32)), (.int (0 : Int32)), (.int (0 : Int32)), (.int (0 : Int32)), (.int (0 : Int32)), (.int (0 : Int32)), (.int (0 : Int32)), (.int (0 : Int32)), (.int (0 : Int32)), (.int (0 : Int32))] := V7
  refine own_ipush X7 own_d_prog_34_method_1_code_18 ?_
  refine own_newarr X7 (hw _ (List.mem_of_getElem? (i := 22) rfl)) own_d_prog_34_method_1_code_20 (n := 16) ⟨by decide, by decide⟩ 16 (Nat.le_refl _) (by decide) (by decide) (by decide) ?_
  intro T10 h10 b10 X10 E10 g10 ga_b10 V10
  have ne_a_b10 : a ≠ b10 := by rw [g10]; exact Nat.ne_of_lt F8_a.lt
  have ne_b2_b10 : b2 ≠ b10 := by rw [g10]; exact Nat.ne_of_lt F9_b2.lt
  have ne_b7_b10 : b7 ≠ b10 := by rw [g10]; exact Nat.ne_of_lt V7.lt
  have sz_b10 : h0.size ≤ b10 := by rw [g10]; exact K7.1
  have K10 : Keep h0 h10 [a] := K7.ext E10
  have F11_a : own_Obj Z h10 a "com/example/depth2/depth2/NetTokenTable" own_ns_Tb [.null] := F8_a.ext E10
  have F12_b2 : own_Obj Z h10 b2 "com/example/depth2/depth2/NetTokenTable$Numbered" own_ns_Nu [.null, .null, .null, .null] := F9_b2.ext E10
  have F13_b7 : own_AL Z h10 b7 .int [(.int (0 : Int32)), (.int (0 : Int32)), (.int (0 : Int32)), (.int (0 : Int32)), (.int (0 : Int32)), (.int (0 : Int32)), (.int (0 : Int32)), (.int (0 : Int32)), (.int (0 : Int32)), (.int (0 : Int32)), (.int (0 : Int32)), (.int (0 : Int32)), (.int (0 : Int32)), (.int (0 : Int32)), (.int (0 : Int32)), (.int (0 : Int32))] := V7.ext E10
  replace V10 : own_AL Z h10 b10 .int [(.int (0 : Int32)), (.int (0 : Int32)), (.int (0 : Int32)), (.int (0 : Int32)), (.int (0 : Int32)), (.int (0 : Int32)), (.int (0 : Int32)), (.int (0 : Int32)), (.int (0 : Int32)), (.int (0 : Int32)), (.int (0 : Int32)), (.int (0 : Int32)), (.int (0 : Int32)), (.int (0 : Int32)), (.int (0 : Int32)), (.int (0 : Int32))] := V10
  refine own_ipush X10 own_d_prog_34_method_1_code_22 ?_
  refine own_newarr X10 (hw _ (List.mem_of_getElem? (i := 22) rfl)) own_d_prog_34_method_1_code_24 (n := 32) ⟨by decide, by decide⟩ 32 (Nat.le_refl _) (by decide) (by decide) (by decide) ?_
  intro T14 h14 b14 X14 E14 g14 ga_b14 V14
  have ne_a_b14 : a ≠ b14 := by rw [g14]; exact Nat.ne_of_lt F11_a.lt
  have ne_b2_b14 : b2 ≠ b14 := by rw [g14]; exact Nat.ne_of_lt F12_b2.lt
  have ne_b7_b14 : b7 ≠ b14 := by rw [g14]; exact Nat.ne_of_lt F13_b7.lt
  have ne_b10_b14 : b10 ≠ b14 := by rw [g14]; exact Nat.ne_of_lt V10.lt
  have sz_b14 : h0.size ≤ b14 := by rw [g14]; exact K10.1
  have K14 : Keep h0 h14 [a] := K10.ext E14
  have F15_a : own_Obj Z h14 a "com/example/depth2/depth2/NetTokenTable" own_ns_Tb [.null] := F11_a.ext E14
  have F16_b2 : own_Obj Z h14 b2 "com/example/depth2/depth2/NetTokenTable$Numbered" own_ns_Nu [.null, .null, .null, .null] := F12_b2.ext E14
  have F17_b7 : own_AL Z h14 b7 .int [(.int (0 : Int32)), (.int (0 : Int32)), (.int (0 : Int32)), (.int (0 : Int32)), (.int (0 : Int32)), (.int (0 : Int32)), (.int (0 : Int32)), (.int (0 : Int32)), (.int (0 : Int32)), (.int (0 : Int32)), (.int (0 : Int32)), (.int (0 : Int32)), (.int (0 : Int32)), (.int (0 : Int32)), (.int (0 : Int32)), (.int (0 : Int32))] := F13_b7.ext E14
  have F18_b10 : own_AL Z h14 b10 .int [(.int (0 : Int32)), (.int (0 : Int32)), (.int (0 : Int32)), (.int (0 : Int32)), (.int (0 : Int32)), (.int (0 : Int32)), (.int (0 : Int32)), (.int (0 : Int32)), (.int (0 : Int32)), (.int (0 : Int32)), (.int (0 : Int32)), (.int (0 : Int32)), (.int (0 : Int32)), (.int (0 : Int32)), (.int (0 : Int32)), (.int (0 : Int32))] := V10.ext E14
  replace V14 : own_AL Z h14 b14 .int [(.int (0 : Int32)), (.int (0 : Int32)), (.int (0 : Int32)), (.int (0 : Int32)), (.int (0 : Int32)), (.int (0 : Int32)), (.int (0 : Int32)), (.int (0 : Int32)), (.int (0 : Int32)), (.int (0 : Int32)), (.int (0 : Int32)), (.int (0 : Int32)), (.int (0 : Int32)), (.int (0 : Int32)), (.int (0 : Int32)), (.int (0 : Int32)), (.int (0 : Int32)), (.int (0 : Int32)), (.int (0 : Int32)), (.int (0 : Int32)), (.int (0 : Int32)), (.int (0 : Int32)), (.int (0 : Int32)), (.int (0 : Int32)), (.int (0 : Int32)), (.int (0 : Int32)), (.int (0 : Int32)), (.int (0 : Int32)), (.int (0 : Int32)), (.int (0 : Int32)), (.int (0 : Int32)), (.int (0 : Int32))] := V14
  refine own_callR X14 (y := (⟨"com/example/depth2/depth2/NetTokenTable$Numbered", "<init>", "([Lcom/example/depth2/depth2/NetToken;[I[I[I)V"⟩ : MethodName)) [(.ref b4), (.ref b7), (.ref b10), (.ref b14)] [(.ref b2), (.ref a)] 2 (a := b2) rfl rfl (hw _ (List.mem_of_getElem? (i := 23) rfl)) (hw _ (List.mem_of_getElem? (i := 24) rfl)) (hw _ (List.mem_of_getElem? (i := 19) rfl)) (hw _ (List.mem_of_getElem? (i := 25) rfl)) (by decide) (own_numInit l Z a0 hw b2 b4 b7 b10 b14 h14 n0 X14.sz F16_b2 ga_b2) own_d_prog_34_method_1_code_26 own_pd___Lcom_example_depth2_depth2_NetToken__I_I_I_V rfl rfl (by show 2 * 0 + _ ≤ _; exact Nat.le_of_eq rfl) (by decide) (by decide) (by decide) (by decide) ?_
  intro T19 h19 v19 X19 P19
  obtain ⟨rfl, Kc19, U19⟩ := P19
  have K19 : Keep h0 h19 [a] := K14.trans Kc19 (allS (P := fun z => z ∈ [a] ∨ h0.size ≤ z) (Or.inr sz_b2) all0)
  have F20_a : own_Obj Z h19 a "com/example/depth2/depth2/NetTokenTable" own_ns_Tb [.null] := F15_a.keep Kc19 (ninS (Ne.symm (Ne.symm ne_a_b2)) nin0)
  have F21_b7 : own_AL Z h19 b7 .int [(.int (0 : Int32)), (.int (0 : Int32)), (.int (0 : Int32)), (.int (0 : Int32)), (.int (0 : Int32)), (.int (0 : Int32)), (.int (0 : Int32)), (.int (0 : Int32)), (.int (0 : Int32)), (.int (0 : Int32)), (.int (0 : Int32)), (.int (0 : Int32)), (.int (0 : Int32)), (.int (0 : Int32)), (.int (0 : Int32)), (.int (0 : Int32))] := F17_b7.keep Kc19 (ninS (Ne.symm ne_b2_b7) nin0)
  have F22_b10 : own_AL Z h19 b10 .int [(.int (0 : Int32)), (.int (0 : Int32)), (.int (0 : Int32)), (.int (0 : Int32)), (.int (0 : Int32)), (.int (0 : Int32)), (.int (0 : Int32)), (.int (0 : Int32)), (.int (0 : Int32)), (.int (0 : Int32)), (.int (0 : Int32)), (.int (0 : Int32)), (.int (0 : Int32)), (.int (0 : Int32)), (.int (0 : Int32)), (.int (0 : Int32))] := F18_b10.keep Kc19 (ninS (Ne.symm ne_b2_b10) nin0)
  have F23_b14 : own_AL Z h19 b14 .int [(.int (0 : Int32)), (.int (0 : Int32)), (.int (0 : Int32)), (.int (0 : Int32)), (.int (0 : Int32)), (.int (0 : Int32)), (.int (0 : Int32)), (.int (0 : Int32)), (.int (0 : Int32)), (.int (0 : Int32)), (.int (0 : Int32)), (.int (0 : Int32)), (.int (0 : Int32)), (.int (0 : Int32)), (.int (0 : Int32)), (.int (0 : Int32)), (.int (0 : Int32)), (.int (0 : Int32)), (.int (0 : Int32)), (.int (0 : Int32)), (.int (0 : Int32)), (.int (0 : Int32)), (.int (0 : Int32)), (.int (0 : Int32)), (.int (0 : Int32)), (.int (0 : Int32)), (.int (0 : Int32)), (.int (0 : Int32)), (.int (0 : Int32)), (.int (0 : Int32)), (.int (0 : Int32)), (.int (0 : Int32))] := V14.keep Kc19 (ninS (Ne.symm ne_b2_b14) nin0)
  show own_Wins p e below A T19 (mkF m 29 #[.val (.ref a)] [(.ref b2), (.ref a)])
  refine own_putF X19 (k := 0) (ty := (.object "com/example/depth2/depth2/NetTokenTable$Numbered")) (hw _ (List.mem_of_getElem? (i := 40) rfl)) F20_a (own_laid_Tb hw) rfl (Or.inl (hw _ (List.mem_of_getElem? (i := 41) rfl))) (hw _ (List.mem_of_getElem? (i := 9) rfl)) (by decide) rfl rfl ga own_d_prog_34_method_1_code_29 ?_
  intro T24 h24 X24 W24 V24
  have K24 : Keep h0 h24 [a] := K19.wr W24 (Or.inl (by simp))
  replace V24 : own_Obj Z h24 a "com/example/depth2/depth2/NetTokenTable" own_ns_Tb [(.ref b2)] := V24
  have F25_b2 : own_Obj Z h24 b2 "com/example/depth2/depth2/NetTokenTable$Numbered" own_ns_Nu [(.ref b4), (.ref b7), (.ref b10), (.ref b14)] := U19.other W24 (Ne.symm ne_a_b2)
  have F26_b7 : own_AL Z h24 b7 .int [(.int (0 : Int32)), (.int (0 : Int32)), (.int (0 : Int32)), (.int (0 : Int32)), (.int (0 : Int32)), (.int (0 : Int32)), (.int (0 : Int32)), (.int (0 : Int32)), (.int (0 : Int32)), (.int (0 : Int32)), (.int (0 : Int32)), (.int (0 : Int32)), (.int (0 : Int32)), (.int (0 : Int32)), (.int (0 : Int32)), (.int (0 : Int32))] := F21_b7.other W24 (Ne.symm ne_a_b7)
  have F27_b10 : own_AL Z h24 b10 .int [(.int (0 : Int32)), (.int (0 : Int32)), (.int (0 : Int32)), (.int (0 : Int32)), (.int (0 : Int32)), (.int (0 : Int32)), (.int (0 : Int32)), (.int (0 : Int32)), (.int (0 : Int32)), (.int (0 : Int32)), (.int (0 : Int32)), (.int (0 : Int32)), (.int (0 : Int32)), (.int (0 : Int32)), (.int (0 : Int32)), (.int (0 : Int32))] := F22_b10.other W24 (Ne.symm ne_a_b10)
  have F28_b14 : own_AL Z h24 b14 .int [(.int (0 : Int32)), (.int (0 : Int32)), (.int (0 : Int32)), (.int (0 : Int32)), (.int (0 : Int32)), (.int (0 : Int32)), (.int (0 : Int32)), (.int (0 : Int32)), (.int (0 : Int32)), (.int (0 : Int32)), (.int (0 : Int32)), (.int (0 : Int32)), (.int (0 : Int32)), (.int (0 : Int32)), (.int (0 : Int32)), (.int (0 : Int32)), (.int (0 : Int32)), (.int (0 : Int32)), (.int (0 : Int32)), (.int (0 : Int32)), (.int (0 : Int32)), (.int (0 : Int32)), (.int (0 : Int32)), (.int (0 : Int32)), (.int (0 : Int32)), (.int (0 : Int32)), (.int (0 : Int32)), (.int (0 : Int32)), (.int (0 : Int32)), (.int (0 : Int32)), (.int (0 : Int32)), (.int (0 : Int32))] := F23_b14.other W24 (Ne.symm ne_a_b14)
  exact own_ret0 X24 hret fin (by decide) (by decide) ⟨b2, b4, b7, b10, b14, rfl, K24, V24, F25_b2, F26_b7, sz_b2, sz_b7, ga_b2⟩ own_d_prog_34_method_1_code_32
set_option maxRecDepth 65536 in
set_option maxHeartbeats 40000000 in
theorem own_pmInit (l : Launch) (Z : State) (a0 : Array Value) (hw : ∀ d ∈ tables_1, d.before a0 Z = true) (a tb : Addr) (h0 : Heap) (n0 : Nat) (Z0 : n0 ≤ h0.size) (O : own_Obj Z h0 a "com/example/depth2/depth2/PackedMarking" own_ns_Pm [.null, .null, .null, .null, (.int (0 : Int32))]) (ga : n0 ≤ a) :
    own_Con l Z n0 (⟨"com/example/depth2/depth2/PackedMarking", "<init>", "(Lcom/example/depth2/depth2/NetTokenTable;)V"⟩ : MethodName) prog_38_method_1_code 2 none ({ frames := 1, cells := 3, slots := 24, locals := 14 } : Room) [] #[(.ref a), (.ref tb)] h0 (fun v h' => ∃ b1 b2 b3 : Addr, v = none ∧ Keep h0 h' [a] ∧ own_Obj Z h' a "com/example/depth2/depth2/PackedMarking" own_ns_Pm [(.ref b1), (.ref b2), (.ref b3), (.ref tb), (.int (0 : Int32))] ∧ own_AL Z h' b1 .int [(.int (0 : Int32)), (.int (0 : Int32)), (.int (0 : Int32)), (.int (0 : Int32)), (.int (0 : Int32)), (.int (0 : Int32)), (.int (0 : Int32)), (.int (0 : Int32))] ∧ own_AL Z h' b2 .int [(.int (0 : Int32)), (.int (0 : Int32)), (.int (0 : Int32)), (.int (0 : Int32)), (.int (0 : Int32)), (.int (0 : Int32)), (.int (0 : Int32)), (.int (0 : Int32))] ∧ own_AL Z h' b3 .int [(.int (0 : Int32)), (.int (0 : Int32)), (.int (0 : Int32)), (.int (0 : Int32)), (.int (0 : Int32)), (.int (0 : Int32)), (.int (0 : Int32)), (.int (0 : Int32))] ∧ h0.size ≤ b1 ∧ h0.size ≤ b2 ∧ h0.size ≤ b3 ∧ n0 ≤ b1 ∧ n0 ≤ b2 ∧ n0 ≤ b3 ∧ b1 ≠ b2 ∧ b1 ≠ b3 ∧ b2 ≠ b3) := by
  refine own_enter (plainFor_of_name own_pn_com_example_depth2_depth2_PackedMarking) Z0 #[.val (.ref a), .val (.ref tb)] (fun m => by first | (simp [entryFrame, mkF, argsToLocals, Value.category]; done) | rfl) ?_
  intro p e s m below meth c T A X0 hret hnm fin
  refine own_aload X0 own_d_prog_38_method_1_code_0 rfl ?_
  refine own_initO X0 (hw _ (List.mem_of_getElem? (i := 45) rfl)) (hw _ (List.mem_of_getElem? (i := 15) rfl)) (hw _ (List.mem_of_getElem? (i := 16) rfl)) own_d_prog_38_method_1_code_1 rfl (by decide) 0 (by show 2 * 0 + _ ≤ _; exact Nat.le_of_eq rfl) (by decide) ?_
  intro T1 X1
  refine own_aload X1 own_d_prog_38_method_1_code_4 rfl ?_
  refine own_ipush X1 own_d_prog_38_method_1_code_5 ?_
  refine own_newarr X1 (hw _ (List.mem_of_getElem? (i := 22) rfl)) own_d_prog_38_method_1_code_7 (n := 8) ⟨by decide, by decide⟩ 8 (Nat.le_refl _) (by decide) (by decide) (by decide) ?_
  intro T2 h2 b2 X2 E2 g2 ga_b2 V2
  have ne_a_b2 : a ≠ b2 := by rw [g2]; exact Nat.ne_of_lt O.lt
  have sz_b2 : h0.size ≤ b2 := by rw [g2]; exact (Keep.refl h0 [a]).1
  have K2 : Keep h0 h2 [a] := (Keep.refl h0 [a]).ext E2
  have F3_a : own_Obj Z h2 a "com/example/depth2/depth2/PackedMarking" own_ns_Pm [.null, .null, .null, .null, (.int (0 : Int32))] := O.ext E2
  replace V2 : own_AL Z h2 b2 .int [(.int (0 : Int32)), (.int (0 : Int32)), (.int (0 : Int32)), (.int (0 : Int32)), (.int (0 : Int32)), (.int (0 : Int32)), (.int (0 : Int32)), (.int (0 : Int32))] := V2
  refine own_putF X2 (k := 0) (ty := (.array .int)) (hw _ (List.mem_of_getElem? (i := 46) rfl)) F3_a (own_laid_Pm hw) rfl (Or.inl (hw _ (List.mem_of_getElem? (i := 47) rfl))) (hw _ (List.mem_of_getElem? (i := 6) rfl)) (by decide) rfl rfl ga own_d_prog_38_method_1_code_9 ?_
  intro T4 h4 X4 W4 V4
  have K4 : Keep h0 h4 [a] := K2.wr W4 (Or.inl (by simp))
  replace V4 : own_Obj Z h4 a "com/example/depth2/depth2/PackedMarking" own_ns_Pm [(.ref b2), .null, .null, .null, (.int (0 : Int32))] := V4
  have F5_b2 : own_AL Z h4 b2 .int [(.int (0 : Int32)), (.int (0 : Int32)), (.int (0 : Int32)), (.int (0 : Int32)), (.int (0 : Int32)), (.int (0 : Int32)), (.int (0 : Int32)), (.int (0 : Int32))] := V2.other W4 (Ne.symm ne_a_b2)
  refine own_aload X4 own_d_prog_38_method_1_code_12 rfl ?_
  refine own_ipush X4 own_d_prog_38_method_1_code_13 ?_
  refine own_newarr X4 (hw _ (List.mem_of_getElem? (i := 22) rfl)) own_d_prog_38_method_1_code_15 (n := 8) ⟨by decide, by decide⟩ 8 (Nat.le_refl _) (by decide) (by decide) (by decide) ?_
  intro T6 h6 b6 X6 E6 g6 ga_b6 V6
  have ne_a_b6 : a ≠ b6 := by rw [g6]; exact Nat.ne_of_lt V4.lt
  have ne_b2_b6 : b2 ≠ b6 := by rw [g6]; exact Nat.ne_of_lt F5_b2.lt
  have sz_b6 : h0.size ≤ b6 := by rw [g6]; exact K4.1
  have K6 : Keep h0 h6 [a] := K4.ext E6
  have F7_a : own_Obj Z h6 a "com/example/depth2/depth2/PackedMarking" own_ns_Pm [(.ref b2), .null, .null, .null, (.int (0 : Int32))] := V4.ext E6
  have F8_b2 : own_AL Z h6 b2 .int [(.int (0 : Int32)), (.int (0 : Int32)), (.int (0 : Int32)), (.int (0 : Int32)), (.int (0 : Int32)), (.int (0 : Int32)), (.int (0 : Int32)), (.int (0 : Int32))] := F5_b2.ext E6
  replace V6 : own_AL Z h6 b6 .int [(.int (0 : Int32)), (.int (0 : Int32)), (.int (0 : Int32)), (.int (0 : Int32)), (.int (0 : Int32)), (.int (0 : Int32)), (.int (0 : Int32)), (.int (0 : Int32))] := V6
  refine own_putF X6 (k := 1) (ty := (.array .int)) (hw _ (List.mem_of_getElem? (i := 48) rfl)) F7_a (own_laid_Pm hw) rfl (Or.inl (hw _ (List.mem_of_getElem? (i := 49) rfl))) (hw _ (List.mem_of_getElem? (i := 6) rfl)) (by decide) rfl rfl ga own_d_prog_38_method_1_code_17 ?_
  intro T9 h9 X9 W9 V9
  have K9 : Keep h0 h9 [a] := K6.wr W9 (Or.inl (by simp))
  replace V9 : own_Obj Z h9 a "com/example/depth2/depth2/PackedMarking" own_ns_Pm [(.ref b2), (.ref b6), .null, .null, (.int (0 : Int32))] := V9
  have F10_b2 : own_AL Z h9 b2 .int [(.int (0 : Int32)), (.int (0 : Int32)), (.int (0 : Int32)), (.int (0 : Int32)), (.int (0 : Int32)), (.int (0 : Int32)), (.int (0 : Int32)), (.int (0 : Int32))] := F8_b2.other W9 (Ne.symm ne_a_b2)
  have F11_b6 : own_AL Z h9 b6 .int [(.int (0 : Int32)), (.int (0 : Int32)), (.int (0 : Int32)), (.int (0 : Int32)), (.int (0 : Int32)), (.int (0 : Int32)), (.int (0 : Int32)), (.int (0 : Int32))] := V6.other W9 (Ne.symm ne_a_b6)
  refine own_aload X9 own_d_prog_38_method_1_code_20 rfl ?_
  refine own_ipush X9 own_d_prog_38_method_1_code_21 ?_
  refine own_newarr X9 (hw _ (List.mem_of_getElem? (i := 22) rfl)) own_d_prog_38_method_1_code_23 (n := 8) ⟨by decide, by decide⟩ 8 (Nat.le_refl _) (by decide) (by decide) (by decide) ?_
  intro T12 h12 b12 X12 E12 g12 ga_b12 V12
  have ne_a_b12 : a ≠ b12 := by rw [g12]; exact Nat.ne_of_lt V9.lt
  have ne_b2_b12 : b2 ≠ b12 := by rw [g12]; exact Nat.ne_of_lt F10_b2.lt
  have ne_b6_b12 : b6 ≠ b12 := by rw [g12]; exact Nat.ne_of_lt F11_b6.lt
  have sz_b12 : h0.size ≤ b12 := by rw [g12]; exact K9.1
  have K12 : Keep h0 h12 [a] := K9.ext E12
  have F13_a : own_Obj Z h12 a "com/example/depth2/depth2/PackedMarking" own_ns_Pm [(.ref b2), (.ref b6), .null, .null, (.int (0 : Int32))] := V9.ext E12
  have F14_b2 : own_AL Z h12 b2 .int [(.int (0 : Int32)), (.int (0 : Int32)), (.int (0 : Int32)), (.int (0 : Int32)), (.int (0 : Int32)), (.int (0 : Int32)), (.int (0 : Int32)), (.int (0 : Int32))] := F10_b2.ext E12
  have F15_b6 : own_AL Z h12 b6 .int [(.int (0 : Int32)), (.int (0 : Int32)), (.int (0 : Int32)), (.int (0 : Int32)), (.int (0 : Int32)), (.int (0 : Int32)), (.int (0 : Int32)), (.int (0 : Int32))] := F11_b6.ext E12
  replace V12 : own_AL Z h12 b12 .int [(.int (0 : Int32)), (.int (0 : Int32)), (.int (0 : Int32)), (.int (0 : Int32)), (.int (0 : Int32)), (.int (0 : Int32)), (.int (0 : Int32)), (.int (0 : Int32))] := V12
  refine own_putF X12 (k := 2) (ty := (.array .int)) (hw _ (List.mem_of_getElem? (i := 50) rfl)) F13_a (own_laid_Pm hw) rfl (Or.inl (hw _ (List.mem_of_getElem? (i := 51) rfl))) (hw _ (List.mem_of_getElem? (i := 6) rfl)) (by decide) rfl rfl ga own_d_prog_38_method_1_code_25 ?_
  intro T16 h16 X16 W16 V16
  have K16 : Keep h0 h16 [a] := K12.wr W16 (Or.inl (by simp))
  replace V16 : own_Obj Z h16 a "com/example/depth2/depth2/PackedMarking" own_ns_Pm [(.ref b2), (.ref b6), (.ref b12), .null, (.int (0 : Int32))] := V16
  have F17_b2 : own_AL Z h16 b2 .int [(.int (0 : Int32)), (.int (0 : Int32)), (.int (0 : Int32)), (.int (0 : Int32)), (.int (0 : Int32)), (.int (0 : Int32)), (.int (0 : Int32)), (.int (0 : Int32))] := F14_b2.other W16 (Ne.symm ne_a_b2)
  have F18_b6 : own_AL Z h16 b6 .int [(.int (0 : Int32)), (.int (0 : Int32)), (.int (0 : Int32)), (.int (0 : Int32)), (.int (0 : Int32)), (.int (0 : Int32)), (.int (0 : Int32)), (.int (0 : Int32))] := F15_b6.other W16 (Ne.symm ne_a_b6)
  have F19_b12 : own_AL Z h16 b12 .int [(.int (0 : Int32)), (.int (0 : Int32)), (.int (0 : Int32)), (.int (0 : Int32)), (.int (0 : Int32)), (.int (0 : Int32)), (.int (0 : Int32)), (.int (0 : Int32))] := V12.other W16 (Ne.symm ne_a_b12)
  refine own_aload X16 own_d_prog_38_method_1_code_28 rfl ?_
  refine own_aload X16 own_d_prog_38_method_1_code_29 rfl ?_
  refine own_putF X16 (k := 3) (ty := (.object "com/example/depth2/depth2/NetTokenTable")) (hw _ (List.mem_of_getElem? (i := 52) rfl)) V16 (own_laid_Pm hw) rfl (Or.inr ⟨(hw _ (List.mem_of_getElem? (i := 53) rfl)), rfl, hnm⟩) (hw _ (List.mem_of_getElem? (i := 6) rfl)) (by decide) rfl rfl ga own_d_prog_38_method_1_code_30 ?_
  intro T20 h20 X20 W20 V20
  have K20 : Keep h0 h20 [a] := K16.wr W20 (Or.inl (by simp))
  replace V20 : own_Obj Z h20 a "com/example/depth2/depth2/PackedMarking" own_ns_Pm [(.ref b2), (.ref b6), (.ref b12), (.ref tb), (.int (0 : Int32))] := V20
  have F21_b2 : own_AL Z h20 b2 .int [(.int (0 : Int32)), (.int (0 : Int32)), (.int (0 : Int32)), (.int (0 : Int32)), (.int (0 : Int32)), (.int (0 : Int32)), (.int (0 : Int32)), (.int (0 : Int32))] := F17_b2.other W20 (Ne.symm ne_a_b2)
  have F22_b6 : own_AL Z h20 b6 .int [(.int (0 : Int32)), (.int (0 : Int32)), (.int (0 : Int32)), (.int (0 : Int32)), (.int (0 : Int32)), (.int (0 : Int32)), (.int (0 : Int32)), (.int (0 : Int32))] := F18_b6.other W20 (Ne.symm ne_a_b6)
  have F23_b12 : own_AL Z h20 b12 .int [(.int (0 : Int32)), (.int (0 : Int32)), (.int (0 : Int32)), (.int (0 : Int32)), (.int (0 : Int32)), (.int (0 : Int32)), (.int (0 : Int32)), (.int (0 : Int32))] := F19_b12.other W20 (Ne.symm ne_a_b12)
  exact own_ret0 X20 hret fin (by decide) (by decide) ⟨b2, b6, b12, rfl, K20, V20, F21_b2, F22_b6, F23_b12, sz_b2, sz_b6, sz_b12, ga_b2, ga_b6, ga_b12, (Ne.symm (Ne.symm ne_b2_b6)), (Ne.symm (Ne.symm ne_b2_b12)), (Ne.symm (Ne.symm ne_b6_b12))⟩ own_d_prog_38_method_1_code_33
set_option maxRecDepth 65536 in
set_option maxHeartbeats 40000000 in
theorem own_places (l : Launch) (Z : State) (a0 : Array Value) (hw : ∀ d ∈ tables_1, d.before a0 Z = true) (a ta pa ha sa : Addr) (h0 : Heap) (n0 : Nat) (Z0 : n0 ≤ h0.size) (O : own_Obj Z h0 a "com/example/depth2/depth2/NetTokenTable$Numbered" own_ns_Nu [(.ref ta), (.ref pa), (.ref ha), (.ref sa)]) :
    own_Con l Z n0 (⟨"com/example/depth2/depth2/NetTokenTable$Numbered", "places", "()[I"⟩ : MethodName) prog_35_method_6_code 1 (some (.array .int)) ({ frames := 0, cells := 0, slots := 0, locals := 0 } : Room) [] #[(.ref a)] h0 (fun v h' => v = some (.ref pa) ∧ h' = h0) := by
  refine own_enter (plainFor_of_name own_pn_com_example_depth2_depth2_NetTokenTable_Numbered) Z0 #[.val (.ref a)] (fun m => by first | (simp [entryFrame, mkF, argsToLocals, Value.category]; done) | rfl) ?_
  intro p e s m below meth c T A X0 hret hnm fin
  refine own_aload X0 own_d_prog_35_method_6_code_0 rfl ?_
  refine own_getF X0 (host := "") (k := 1) (hw _ (List.mem_of_getElem? (i := 34) rfl)) O rfl rfl own_d_prog_35_method_6_code_1 ?_
  intro T1 X1
  exact own_retA X1 hret rfl rfl fin (by decide) (by decide) ⟨rfl, rfl⟩ own_d_prog_35_method_6_code_4
set_option maxRecDepth 65536 in
set_option maxHeartbeats 40000000 in
theorem own_place (l : Launch) (Z : State) (a0 : Array Value) (hw : ∀ d ∈ tables_1, d.before a0 Z = true) (a nb ta pa ha sa : Addr) (tk : Int32) (k : Nat) (h0 : Heap) (n0 : Nat) (Z0 : n0 ≤ h0.size) (O : own_Obj Z h0 a "com/example/depth2/depth2/NetTokenTable" own_ns_Tb [(.ref nb)]) (On : own_Obj Z h0 nb "com/example/depth2/depth2/NetTokenTable$Numbered" own_ns_Nu [(.ref ta), (.ref pa), (.ref ha), (.ref sa)]) (Vp : own_AL Z h0 pa .int [(.int (0 : Int32)), (.int (0 : Int32)), (.int (0 : Int32)), (.int (0 : Int32)), (.int (0 : Int32)), (.int (0 : Int32)), (.int (0 : Int32)), (.int (0 : Int32)), (.int (0 : Int32)), (.int (0 : Int32)), (.int (0 : Int32)), (.int (0 : Int32)), (.int (0 : Int32)), (.int (0 : Int32)), (.int (0 : Int32)), (.int (0 : Int32))]) (htk : own_idx tk k) (hk : k < 16) :
    own_Con l Z n0 (⟨"com/example/depth2/depth2/NetTokenTable", "place", "(I)I"⟩ : MethodName) prog_34_method_3_code 2 (some .int) ({ frames := 1, cells := 0, slots := 0, locals := 12 } : Room) [] #[(.ref a), (.int tk)] h0 (fun v h' => v = some (.int 0) ∧ h' = h0) := by
  refine own_enter (plainFor_of_name own_pn_com_example_depth2_depth2_NetTokenTable) Z0 #[.val (.ref a), .val (.int tk)] (fun m => by first | (simp [entryFrame, mkF, argsToLocals, Value.category]; done) | rfl) ?_
  intro p e s m below meth c T A X0 hret hnm fin
  refine own_aload X0 own_d_prog_34_method_3_code_0 rfl ?_
  refine own_getF X0 (host := "") (k := 0) (hw _ (List.mem_of_getElem? (i := 40) rfl)) O rfl rfl own_d_prog_34_method_3_code_1 ?_
  intro T1 X1
  refine own_callV X1 (y := (⟨"com/example/depth2/depth2/NetTokenTable$Numbered", "places", "()[I"⟩ : MethodName)) [] [] 0 (a := nb) rfl (hw _ (List.mem_of_getElem? (i := 64) rfl)) (hw _ (List.mem_of_getElem? (i := 65) rfl)) (hw _ (List.mem_of_getElem? (i := 67) rfl)) (hw _ (List.mem_of_getElem? (i := 66) rfl)) (hw _ (List.mem_of_getElem? (i := 19) rfl)) (hw _ (List.mem_of_getElem? (i := 68) rfl)) (by decide) On.1 (own_places l Z a0 hw nb ta pa ha sa h0 n0 X1.sz On) own_d_prog_34_method_3_code_4 own_pd____I rfl rfl (by show 2 * 0 + _ ≤ _; exact Nat.le_of_eq rfl) (by decide) (by decide) (by decide) (by decide) ?_
  intro T2 h2 v2 X2 P2
  obtain ⟨rfl, eh2⟩ := P2
  rw [eh2] at X2
  show own_Wins p e below A T2 (mkF m 7 #[.val (.ref a), .val (.int tk)] [(.ref pa)])
  refine own_iload X2 own_d_prog_34_method_3_code_7 rfl ?_
  refine own_iaload X2 Vp (i := k) htk (own_z16 k hk) own_d_prog_34_method_3_code_8 ?_
  exact own_retI X2 hret fin (by decide) (by decide) ⟨rfl, rfl⟩ own_d_prog_34_method_3_code_9
set_option maxRecDepth 65536 in
set_option maxHeartbeats 40000000 in
theorem own_addA (l : Launch) (Z : State) (a0 : Array Value) (hw : ∀ d ∈ tables_1, d.before a0 Z = true) (a b1 b2 b3 tb nb ta pa ha sa : Addr) (tk cp : Int32) (k : Nat) (t0 t1 t2 t3 t4 t5 t6 t7 c0 c1 c2 c3 c4 c5 c6 c7 p0 p1 p2 p3 p4 p5 p6 p7 : Int32) (h0 : Heap) (n0 : Nat) (Z0 : n0 ≤ h0.size) (O : own_Obj Z h0 a "com/example/depth2/depth2/PackedMarking" own_ns_Pm [(.ref b1), (.ref b2), (.ref b3), (.ref tb), (.int (0 : Int32))]) (ga : n0 ≤ a) (V1 : own_AL Z h0 b1 .int [(.int t0), (.int t1), (.int t2), (.int t3), (.int t4), (.int t5), (.int t6), (.int t7)]) (V2 : own_AL Z h0 b2 .int [(.int c0), (.int c1), (.int c2), (.int c3), (.int c4), (.int c5), (.int c6), (.int c7)]) (V3 : own_AL Z h0 b3 .int [(.int p0), (.int p1), (.int p2), (.int p3), (.int p4), (.int p5), (.int p6), (.int p7)]) (g1 : n0 ≤ b1) (g2 : n0 ≤ b2) (g3 : n0 ≤ b3) (Ot : own_Obj Z h0 tb "com/example/depth2/depth2/NetTokenTable" own_ns_Tb [(.ref nb)]) (On : own_Obj Z h0 nb "com/example/depth2/depth2/NetTokenTable$Numbered" own_ns_Nu [(.ref ta), (.ref pa), (.ref ha), (.ref sa)]) (Vp : own_AL Z h0 pa .int [(.int (0 : Int32)), (.int (0 : Int32)), (.int (0 : Int32)), (.int (0 : Int32)), (.int (0 : Int32)), (.int (0 : Int32)), (.int (0 : Int32)), (.int (0 : Int32)), (.int (0 : Int32)), (.int (0 : Int32)), (.int (0 : Int32)), (.int (0 : Int32)), (.int (0 : Int32)), (.int (0 : Int32)), (.int (0 : Int32)), (.int (0 : Int32))]) (hn_a_b1 : a ≠ b1) (hn_a_b2 : a ≠ b2) (hn_a_b3 : a ≠ b3) (hn_a_tb : a ≠ tb) (hn_a_nb : a ≠ nb) (hn_a_pa : a ≠ pa) (hq12 : b1 ≠ b2) (hq13 : b1 ≠ b3) (hn_b1_tb : b1 ≠ tb) (hn_b1_nb : b1 ≠ nb) (hn_b1_pa : b1 ≠ pa) (hq23 : b2 ≠ b3) (hn_b2_tb : b2 ≠ tb) (hn_b2_nb : b2 ≠ nb) (hn_b2_pa : b2 ≠ pa) (hn_b3_tb : b3 ≠ tb) (hn_b3_nb : b3 ≠ nb) (hn_b3_pa : b3 ≠ pa) (htk : own_idx tk k) (hk : k < 16) :
    own_Con l Z n0 (⟨"com/example/depth2/depth2/PackedMarking", "add", "(II)V"⟩ : MethodName) prog_38_method_13_code 5 none ({ frames := 2, cells := 0, slots := 0, locals := 70 } : Room) [] #[(.ref a), (.int tk), (.int cp)] h0 (fun v h' => v = none ∧ Keep h0 h' [a, b1, b2, b3] ∧ own_Obj Z h' a "com/example/depth2/depth2/PackedMarking" own_ns_Pm [(.ref b1), (.ref b2), (.ref b3), (.ref tb), (.int (1 : Int32))] ∧ own_AL Z h' b1 .int [(.int tk), (.int t1), (.int t2), (.int t3), (.int t4), (.int t5), (.int t6), (.int t7)] ∧ own_AL Z h' b2 .int [(.int cp), (.int c1), (.int c2), (.int c3), (.int c4), (.int c5), (.int c6), (.int c7)] ∧ own_AL Z h' b3 .int [(.int (0 : Int32)), (.int p1), (.int p2), (.int p3), (.int p4), (.int p5), (.int p6), (.int p7)]) := by
  refine own_enter (plainFor_of_name own_pn_com_example_depth2_depth2_PackedMarking) Z0 #[.val (.ref a), .val (.int tk), .val (.int cp), .unset, .unset] (fun m => by first | (simp [entryFrame, mkF, argsToLocals, Value.category]; done) | rfl) ?_
  intro p e s m below meth c T A X0 hret hnm fin
  refine own_aload X0 own_d_prog_38_method_13_code_0 rfl ?_
  refine own_getF X0 (host := "") (k := 3) (hw _ (List.mem_of_getElem? (i := 52) rfl)) O rfl rfl own_d_prog_38_method_13_code_1 ?_
  intro T1 X1
  refine own_iload X1 own_d_prog_38_method_13_code_4 rfl ?_
  refine own_callV X1 (y := (⟨"com/example/depth2/depth2/NetTokenTable", "place", "(I)I"⟩ : MethodName)) [(.int tk)] [] 0 (a := tb) rfl (hw _ (List.mem_of_getElem? (i := 59) rfl)) (hw _ (List.mem_of_getElem? (i := 60) rfl)) (hw _ (List.mem_of_getElem? (i := 62) rfl)) (hw _ (List.mem_of_getElem? (i := 61) rfl)) (hw _ (List.mem_of_getElem? (i := 10) rfl)) (hw _ (List.mem_of_getElem? (i := 63) rfl)) (by decide) Ot.1 (own_place l Z a0 hw tb nb ta pa ha sa tk k h0 n0 X1.sz Ot On Vp htk hk) own_d_prog_38_method_13_code_5 own_pd__I_I rfl rfl (by show 2 * 0 + _ ≤ _; exact Nat.le_of_eq rfl) (by decide) (by decide) (by decide) (by decide) ?_
  intro T2 h2 v2 X2 P2
  obtain ⟨rfl, eh2⟩ := P2
  rw [eh2] at X2
  show own_Wins p e below A T2 (mkF m 8 #[.val (.ref a), .val (.int tk), .val (.int cp), .unset, .unset] [(.int (0 : Int32))])
  refine own_istore X2 #[.val (.ref a), .val (.int tk), .val (.int cp), .val (.int (0 : Int32)), .unset] own_d_prog_38_method_13_code_8 rfl ?_
  refine own_aload X2 own_d_prog_38_method_13_code_9 rfl ?_
  refine own_getF X2 (host := "") (k := 4) (hw _ (List.mem_of_getElem? (i := 69) rfl)) O rfl rfl own_d_prog_38_method_13_code_10 ?_
  intro T3 X3
  refine own_istore X3 #[.val (.ref a), .val (.int tk), .val (.int cp), .val (.int (0 : Int32)), .val (.int (0 : Int32))] own_d_prog_38_method_13_code_13 rfl ?_
  refine own_iload X3 own_d_prog_38_method_13_code_15 rfl ?_
  refine own_ifYes X3 own_d_prog_38_method_13_code_17 ((if0 _ _).trans (flt (by decide)).2.2.2) ?_
  refine own_iload X3 own_d_prog_38_method_13_code_65 rfl ?_
  refine own_ifYes X3 own_d_prog_38_method_13_code_67 ((if0 _ _).trans (flt (by decide)).2.2.2) ?_
  refine own_aload X3 own_d_prog_38_method_13_code_108 rfl ?_
  refine own_getF X3 (host := "") (k := 4) (hw _ (List.mem_of_getElem? (i := 69) rfl)) O rfl rfl own_d_prog_38_method_13_code_109 ?_
  intro T4 X4
  refine own_aload X4 own_d_prog_38_method_13_code_112 rfl ?_
  refine own_getF X4 (host := "") (k := 0) (hw _ (List.mem_of_getElem? (i := 46) rfl)) O rfl rfl own_d_prog_38_method_13_code_113 ?_
  intro T5 X5
  refine own_alen X5 V1 own_d_prog_38_method_13_code_116 ?_
  show own_Wins p e below A T5 (mkF m 117 #[.val (.ref a), .val (.int tk), .val (.int cp), .val (.int (0 : Int32)), .val (.int (0 : Int32))] [(.int (8 : Int32)), (.int (0 : Int32))])
  refine own_icYes X5 own_d_prog_38_method_13_code_117 (feq (by decide)).2 ?_
  refine own_aload X5 own_d_prog_38_method_13_code_130 rfl ?_
  refine own_getF X5 (host := "") (k := 0) (hw _ (List.mem_of_getElem? (i := 46) rfl)) O rfl rfl own_d_prog_38_method_13_code_131 ?_
  intro T6 X6
  refine own_iload X6 own_d_prog_38_method_13_code_134 rfl ?_
  refine own_aload X6 own_d_prog_38_method_13_code_136 rfl ?_
  refine own_getF X6 (host := "") (k := 0) (hw _ (List.mem_of_getElem? (i := 46) rfl)) O rfl rfl own_d_prog_38_method_13_code_137 ?_
  intro T7 X7
  refine own_iload X7 own_d_prog_38_method_13_code_140 rfl ?_
  refine own_ipush X7 own_d_prog_38_method_13_code_142 ?_
  refine own_iadd X7 own_d_prog_38_method_13_code_143 ?_
  refine own_aload X7 own_d_prog_38_method_13_code_144 rfl ?_
  refine own_getF X7 (host := "") (k := 4) (hw _ (List.mem_of_getElem? (i := 69) rfl)) O rfl rfl own_d_prog_38_method_13_code_145 ?_
  intro T8 X8
  refine own_iload X8 own_d_prog_38_method_13_code_148 rfl ?_
  refine own_isub X8 own_d_prog_38_method_13_code_150 ?_
  refine own_acopy X8 [] 0 (hw _ (List.mem_of_getElem? (i := 71) rfl)) (hw _ (List.mem_of_getElem? (i := 74) rfl)) (hw _ (List.mem_of_getElem? (i := 72) rfl)) (hw _ (List.mem_of_getElem? (i := 73) rfl)) V1 (by intro v hv; simp only [List.mem_cons, List.not_mem_nil, or_false] at hv; rcases hv with rfl | rfl | rfl | rfl | rfl | rfl | rfl | rfl <;> rfl) g1 (s' := 0) (d' := 1) (n' := 0) ⟨by decide, by decide⟩ ⟨by decide, by decide⟩ ⟨by decide, by decide⟩ (Nat.le_of_ble_eq_true rfl) (Nat.le_of_ble_eq_true rfl) own_d_prog_38_method_13_code_151 rfl (by decide) (by show 2 * 0 + _ ≤ _; exact Nat.le_of_eq rfl) (by decide) ?_
  intro T9 h9 X9 Kc9 V9
  replace V9 : own_AL Z h9 b1 .int [(.int t0), (.int t1), (.int t2), (.int t3), (.int t4), (.int t5), (.int t6), (.int t7)] := V9
  have K9 : Keep h0 h9 [a, b1, b2, b3] := (Keep.refl h0 [a, b1, b2, b3]).trans Kc9 (allS (P := fun z => z ∈ [a, b1, b2, b3] ∨ h0.size ≤ z) (Or.inl (by simp)) all0)
  have F10_a : own_Obj Z h9 a "com/example/depth2/depth2/PackedMarking" own_ns_Pm [(.ref b1), (.ref b2), (.ref b3), (.ref tb), (.int (0 : Int32))] := O.keep Kc9 (ninS hn_a_b1 nin0)
  have F11_b2 : own_AL Z h9 b2 .int [(.int c0), (.int c1), (.int c2), (.int c3), (.int c4), (.int c5), (.int c6), (.int c7)] := V2.keep Kc9 (ninS (Ne.symm hq12) nin0)
  have F12_b3 : own_AL Z h9 b3 .int [(.int p0), (.int p1), (.int p2), (.int p3), (.int p4), (.int p5), (.int p6), (.int p7)] := V3.keep Kc9 (ninS (Ne.symm hq13) nin0)
  refine own_aload X9 own_d_prog_38_method_13_code_154 rfl ?_
  refine own_getF X9 (host := "") (k := 1) (hw _ (List.mem_of_getElem? (i := 48) rfl)) F10_a rfl rfl own_d_prog_38_method_13_code_155 ?_
  intro T13 X13
  refine own_iload X13 own_d_prog_38_method_13_code_158 rfl ?_
  refine own_aload X13 own_d_prog_38_method_13_code_160 rfl ?_
  refine own_getF X13 (host := "") (k := 1) (hw _ (List.mem_of_getElem? (i := 48) rfl)) F10_a rfl rfl own_d_prog_38_method_13_code_161 ?_
  intro T14 X14
  refine own_iload X14 own_d_prog_38_method_13_code_164 rfl ?_
  refine own_ipush X14 own_d_prog_38_method_13_code_166 ?_
  refine own_iadd X14 own_d_prog_38_method_13_code_167 ?_
  refine own_aload X14 own_d_prog_38_method_13_code_168 rfl ?_
  refine own_getF X14 (host := "") (k := 4) (hw _ (List.mem_of_getElem? (i := 69) rfl)) F10_a rfl rfl own_d_prog_38_method_13_code_169 ?_
  intro T15 X15
  refine own_iload X15 own_d_prog_38_method_13_code_172 rfl ?_
  refine own_isub X15 own_d_prog_38_method_13_code_174 ?_
  refine own_acopy X15 [] 0 (hw _ (List.mem_of_getElem? (i := 71) rfl)) (hw _ (List.mem_of_getElem? (i := 74) rfl)) (hw _ (List.mem_of_getElem? (i := 72) rfl)) (hw _ (List.mem_of_getElem? (i := 73) rfl)) F11_b2 (by intro v hv; simp only [List.mem_cons, List.not_mem_nil, or_false] at hv; rcases hv with rfl | rfl | rfl | rfl | rfl | rfl | rfl | rfl <;> rfl) g2 (s' := 0) (d' := 1) (n' := 0) ⟨by decide, by decide⟩ ⟨by decide, by decide⟩ ⟨by decide, by decide⟩ (Nat.le_of_ble_eq_true rfl) (Nat.le_of_ble_eq_true rfl) own_d_prog_38_method_13_code_175 rfl (by decide) (by show 2 * 0 + _ ≤ _; exact Nat.le_of_eq rfl) (by decide) ?_
  intro T16 h16 X16 Kc16 V16
  replace V16 : own_AL Z h16 b2 .int [(.int c0), (.int c1), (.int c2), (.int c3), (.int c4), (.int c5), (.int c6), (.int c7)] := V16
  have K16 : Keep h0 h16 [a, b1, b2, b3] := K9.trans Kc16 (allS (P := fun z => z ∈ [a, b1, b2, b3] ∨ h0.size ≤ z) (Or.inl (by simp)) all0)
  have F17_a : own_Obj Z h16 a "com/example/depth2/depth2/PackedMarking" own_ns_Pm [(.ref b1), (.ref b2), (.ref b3), (.ref tb), (.int (0 : Int32))] := F10_a.keep Kc16 (ninS hn_a_b2 nin0)
  have F18_b1 : own_AL Z h16 b1 .int [(.int t0), (.int t1), (.int t2), (.int t3), (.int t4), (.int t5), (.int t6), (.int t7)] := V9.keep Kc16 (ninS hq12 nin0)
  have F19_b3 : own_AL Z h16 b3 .int [(.int p0), (.int p1), (.int p2), (.int p3), (.int p4), (.int p5), (.int p6), (.int p7)] := F12_b3.keep Kc16 (ninS (Ne.symm hq23) nin0)
  refine own_aload X16 own_d_prog_38_method_13_code_178 rfl ?_
  refine own_getF X16 (host := "") (k := 2) (hw _ (List.mem_of_getElem? (i := 50) rfl)) F17_a rfl rfl own_d_prog_38_method_13_code_179 ?_
  intro T20 X20
  refine own_iload X20 own_d_prog_38_method_13_code_182 rfl ?_
  refine own_aload X20 own_d_prog_38_method_13_code_184 rfl ?_
  refine own_getF X20 (host := "") (k := 2) (hw _ (List.mem_of_getElem? (i := 50) rfl)) F17_a rfl rfl own_d_prog_38_method_13_code_185 ?_
  intro T21 X21
  refine own_iload X21 own_d_prog_38_method_13_code_188 rfl ?_
  refine own_ipush X21 own_d_prog_38_method_13_code_190 ?_
  refine own_iadd X21 own_d_prog_38_method_13_code_191 ?_
  refine own_aload X21 own_d_prog_38_method_13_code_192 rfl ?_
  refine own_getF X21 (host := "") (k := 4) (hw _ (List.mem_of_getElem? (i := 69) rfl)) F17_a rfl rfl own_d_prog_38_method_13_code_193 ?_
  intro T22 X22
  refine own_iload X22 own_d_prog_38_method_13_code_196 rfl ?_
  refine own_isub X22 own_d_prog_38_method_13_code_198 ?_
  refine own_acopy X22 [] 0 (hw _ (List.mem_of_getElem? (i := 71) rfl)) (hw _ (List.mem_of_getElem? (i := 74) rfl)) (hw _ (List.mem_of_getElem? (i := 72) rfl)) (hw _ (List.mem_of_getElem? (i := 73) rfl)) F19_b3 (by intro v hv; simp only [List.mem_cons, List.not_mem_nil, or_false] at hv; rcases hv with rfl | rfl | rfl | rfl | rfl | rfl | rfl | rfl <;> rfl) g3 (s' := 0) (d' := 1) (n' := 0) ⟨by decide, by decide⟩ ⟨by decide, by decide⟩ ⟨by decide, by decide⟩ (Nat.le_of_ble_eq_true rfl) (Nat.le_of_ble_eq_true rfl) own_d_prog_38_method_13_code_199 rfl (by decide) (by show 2 * 0 + _ ≤ _; exact Nat.le_of_eq rfl) (by decide) ?_
  intro T23 h23 X23 Kc23 V23
  replace V23 : own_AL Z h23 b3 .int [(.int p0), (.int p1), (.int p2), (.int p3), (.int p4), (.int p5), (.int p6), (.int p7)] := V23
  have K23 : Keep h0 h23 [a, b1, b2, b3] := K16.trans Kc23 (allS (P := fun z => z ∈ [a, b1, b2, b3] ∨ h0.size ≤ z) (Or.inl (by simp)) all0)
  have F24_a : own_Obj Z h23 a "com/example/depth2/depth2/PackedMarking" own_ns_Pm [(.ref b1), (.ref b2), (.ref b3), (.ref tb), (.int (0 : Int32))] := F17_a.keep Kc23 (ninS hn_a_b3 nin0)
  have F25_b1 : own_AL Z h23 b1 .int [(.int t0), (.int t1), (.int t2), (.int t3), (.int t4), (.int t5), (.int t6), (.int t7)] := F18_b1.keep Kc23 (ninS hq13 nin0)
  have F26_b2 : own_AL Z h23 b2 .int [(.int c0), (.int c1), (.int c2), (.int c3), (.int c4), (.int c5), (.int c6), (.int c7)] := V16.keep Kc23 (ninS hq23 nin0)
  refine own_aload X23 own_d_prog_38_method_13_code_202 rfl ?_
  refine own_getF X23 (host := "") (k := 0) (hw _ (List.mem_of_getElem? (i := 46) rfl)) F24_a rfl rfl own_d_prog_38_method_13_code_203 ?_
  intro T27 X27
  refine own_iload X27 own_d_prog_38_method_13_code_206 rfl ?_
  refine own_iload X27 own_d_prog_38_method_13_code_208 rfl ?_
  refine own_iastore X27 F25_b1 g1 (i := 0) ⟨by decide, by decide⟩ (Nat.le_of_ble_eq_true rfl) own_d_prog_38_method_13_code_209 ?_
  intro T28 h28 X28 W28 V28
  have K28 : Keep h0 h28 [a, b1, b2, b3] := K23.wr W28 (Or.inl (by simp))
  replace V28 : own_AL Z h28 b1 .int [(.int tk), (.int t1), (.int t2), (.int t3), (.int t4), (.int t5), (.int t6), (.int t7)] := V28
  have F29_a : own_Obj Z h28 a "com/example/depth2/depth2/PackedMarking" own_ns_Pm [(.ref b1), (.ref b2), (.ref b3), (.ref tb), (.int (0 : Int32))] := F24_a.other W28 hn_a_b1
  have F30_b2 : own_AL Z h28 b2 .int [(.int c0), (.int c1), (.int c2), (.int c3), (.int c4), (.int c5), (.int c6), (.int c7)] := F26_b2.other W28 (Ne.symm hq12)
  have F31_b3 : own_AL Z h28 b3 .int [(.int p0), (.int p1), (.int p2), (.int p3), (.int p4), (.int p5), (.int p6), (.int p7)] := V23.other W28 (Ne.symm hq13)
  refine own_aload X28 own_d_prog_38_method_13_code_210 rfl ?_
  refine own_getF X28 (host := "") (k := 1) (hw _ (List.mem_of_getElem? (i := 48) rfl)) F29_a rfl rfl own_d_prog_38_method_13_code_211 ?_
  intro T32 X32
  refine own_iload X32 own_d_prog_38_method_13_code_214 rfl ?_
  refine own_iload X32 own_d_prog_38_method_13_code_216 rfl ?_
  refine own_iastore X32 F30_b2 g2 (i := 0) ⟨by decide, by decide⟩ (Nat.le_of_ble_eq_true rfl) own_d_prog_38_method_13_code_217 ?_
  intro T33 h33 X33 W33 V33
  have K33 : Keep h0 h33 [a, b1, b2, b3] := K28.wr W33 (Or.inl (by simp))
  replace V33 : own_AL Z h33 b2 .int [(.int cp), (.int c1), (.int c2), (.int c3), (.int c4), (.int c5), (.int c6), (.int c7)] := V33
  have F34_a : own_Obj Z h33 a "com/example/depth2/depth2/PackedMarking" own_ns_Pm [(.ref b1), (.ref b2), (.ref b3), (.ref tb), (.int (0 : Int32))] := F29_a.other W33 hn_a_b2
  have F35_b1 : own_AL Z h33 b1 .int [(.int tk), (.int t1), (.int t2), (.int t3), (.int t4), (.int t5), (.int t6), (.int t7)] := V28.other W33 hq12
  have F36_b3 : own_AL Z h33 b3 .int [(.int p0), (.int p1), (.int p2), (.int p3), (.int p4), (.int p5), (.int p6), (.int p7)] := F31_b3.other W33 (Ne.symm hq23)
  refine own_aload X33 own_d_prog_38_method_13_code_218 rfl ?_
  refine own_getF X33 (host := "") (k := 2) (hw _ (List.mem_of_getElem? (i := 50) rfl)) F34_a rfl rfl own_d_prog_38_method_13_code_219 ?_
  intro T37 X37
  refine own_iload X37 own_d_prog_38_method_13_code_222 rfl ?_
  refine own_iload X37 own_d_prog_38_method_13_code_224 rfl ?_
  refine own_iastore X37 F36_b3 g3 (i := 0) ⟨by decide, by decide⟩ (Nat.le_of_ble_eq_true rfl) own_d_prog_38_method_13_code_225 ?_
  intro T38 h38 X38 W38 V38
  have K38 : Keep h0 h38 [a, b1, b2, b3] := K33.wr W38 (Or.inl (by simp))
  replace V38 : own_AL Z h38 b3 .int [(.int (0 : Int32)), (.int p1), (.int p2), (.int p3), (.int p4), (.int p5), (.int p6), (.int p7)] := V38
  have F39_a : own_Obj Z h38 a "com/example/depth2/depth2/PackedMarking" own_ns_Pm [(.ref b1), (.ref b2), (.ref b3), (.ref tb), (.int (0 : Int32))] := F34_a.other W38 hn_a_b3
  have F40_b1 : own_AL Z h38 b1 .int [(.int tk), (.int t1), (.int t2), (.int t3), (.int t4), (.int t5), (.int t6), (.int t7)] := F35_b1.other W38 hq13
  have F41_b2 : own_AL Z h38 b2 .int [(.int cp), (.int c1), (.int c2), (.int c3), (.int c4), (.int c5), (.int c6), (.int c7)] := V33.other W38 hq23
  refine own_aload X38 own_d_prog_38_method_13_code_226 rfl ?_
  refine own_dup X38 own_d_prog_38_method_13_code_227 rfl ?_
  refine own_getF X38 (host := "") (k := 4) (hw _ (List.mem_of_getElem? (i := 69) rfl)) F39_a rfl rfl own_d_prog_38_method_13_code_228 ?_
  intro T42 X42
  refine own_ipush X42 own_d_prog_38_method_13_code_231 ?_
  refine own_iadd X42 own_d_prog_38_method_13_code_232 ?_
  refine own_putF X42 (k := 4) (ty := .int) (hw _ (List.mem_of_getElem? (i := 69) rfl)) F39_a (own_laid_Pm hw) rfl (Or.inl (hw _ (List.mem_of_getElem? (i := 70) rfl))) (hw _ (List.mem_of_getElem? (i := 6) rfl)) (by decide) rfl rfl ga own_d_prog_38_method_13_code_233 ?_
  intro T43 h43 X43 W43 V43
  have K43 : Keep h0 h43 [a, b1, b2, b3] := K38.wr W43 (Or.inl (by simp))
  replace V43 : own_Obj Z h43 a "com/example/depth2/depth2/PackedMarking" own_ns_Pm [(.ref b1), (.ref b2), (.ref b3), (.ref tb), (.int ((0 : Int32) + (1 : Int32)))] := V43
  have F44_b1 : own_AL Z h43 b1 .int [(.int tk), (.int t1), (.int t2), (.int t3), (.int t4), (.int t5), (.int t6), (.int t7)] := F40_b1.other W43 (Ne.symm hn_a_b1)
  have F45_b2 : own_AL Z h43 b2 .int [(.int cp), (.int c1), (.int c2), (.int c3), (.int c4), (.int c5), (.int c6), (.int c7)] := F41_b2.other W43 (Ne.symm hn_a_b2)
  have F46_b3 : own_AL Z h43 b3 .int [(.int (0 : Int32)), (.int p1), (.int p2), (.int p3), (.int p4), (.int p5), (.int p6), (.int p7)] := V38.other W43 (Ne.symm hn_a_b3)
  have Ofin : own_Obj Z h43 a "com/example/depth2/depth2/PackedMarking" own_ns_Pm [(.ref b1), (.ref b2), (.ref b3), (.ref tb), (.int (1 : Int32))] := V43
  exact own_ret0 X43 hret fin (by decide) (by decide) ⟨rfl, K43, Ofin, F44_b1, F45_b2, F46_b3⟩ own_d_prog_38_method_13_code_236
set_option maxRecDepth 65536 in
set_option maxHeartbeats 40000000 in
theorem own_addB (l : Launch) (Z : State) (a0 : Array Value) (hw : ∀ d ∈ tables_1, d.before a0 Z = true) (a b1 b2 b3 tb nb ta pa ha sa : Addr) (tk cp : Int32) (k : Nat) (t0 t1 t2 t3 t4 t5 t6 t7 c0 c1 c2 c3 c4 c5 c6 c7 t3 p1 p2 p3 p4 p5 p6 p7 : Int32) (h0 : Heap) (n0 : Nat) (Z0 : n0 ≤ h0.size) (O : own_Obj Z h0 a "com/example/depth2/depth2/PackedMarking" own_ns_Pm [(.ref b1), (.ref b2), (.ref b3), (.ref tb), (.int (1 : Int32))]) (ga : n0 ≤ a) (V1 : own_AL Z h0 b1 .int [(.int t0), (.int t1), (.int t2), (.int t3), (.int t4), (.int t5), (.int t6), (.int t7)]) (V2 : own_AL Z h0 b2 .int [(.int c0), (.int c1), (.int c2), (.int c3), (.int c4), (.int c5), (.int c6), (.int c7)]) (V3 : own_AL Z h0 b3 .int [(.int (0 : Int32)), (.int p1), (.int p2), (.int p3), (.int p4), (.int p5), (.int p6), (.int p7)]) (g1 : n0 ≤ b1) (g2 : n0 ≤ b2) (g3 : n0 ≤ b3) (Ot : own_Obj Z h0 tb "com/example/depth2/depth2/NetTokenTable" own_ns_Tb [(.ref nb)]) (On : own_Obj Z h0 nb "com/example/depth2/depth2/NetTokenTable$Numbered" own_ns_Nu [(.ref ta), (.ref pa), (.ref ha), (.ref sa)]) (Vp : own_AL Z h0 pa .int [(.int (0 : Int32)), (.int (0 : Int32)), (.int (0 : Int32)), (.int (0 : Int32)), (.int (0 : Int32)), (.int (0 : Int32)), (.int (0 : Int32)), (.int (0 : Int32)), (.int (0 : Int32)), (.int (0 : Int32)), (.int (0 : Int32)), (.int (0 : Int32)), (.int (0 : Int32)), (.int (0 : Int32)), (.int (0 : Int32)), (.int (0 : Int32))]) (hn_a_b1 : a ≠ b1) (hn_a_b2 : a ≠ b2) (hn_a_b3 : a ≠ b3) (hn_a_tb : a ≠ tb) (hn_a_nb : a ≠ nb) (hn_a_pa : a ≠ pa) (hq12 : b1 ≠ b2) (hq13 : b1 ≠ b3) (hn_b1_tb : b1 ≠ tb) (hn_b1_nb : b1 ≠ nb) (hn_b1_pa : b1 ≠ pa) (hq23 : b2 ≠ b3) (hn_b2_tb : b2 ≠ tb) (hn_b2_nb : b2 ≠ nb) (hn_b2_pa : b2 ≠ pa) (hn_b3_tb : b3 ≠ tb) (hn_b3_nb : b3 ≠ nb) (hn_b3_pa : b3 ≠ pa) (htk : own_idx tk k) (hk : k < 16) (hgt : tk < t0) :
    own_Con l Z n0 (⟨"com/example/depth2/depth2/PackedMarking", "add", "(II)V"⟩ : MethodName) prog_38_method_13_code 5 none ({ frames := 2, cells := 0, slots := 0, locals := 70 } : Room) [] #[(.ref a), (.int tk), (.int cp)] h0 (fun v h' => v = none ∧ Keep h0 h' [a, b1, b2, b3] ∧ own_Obj Z h' a "com/example/depth2/depth2/PackedMarking" own_ns_Pm [(.ref b1), (.ref b2), (.ref b3), (.ref tb), (.int (2 : Int32))] ∧ own_AL Z h' b1 .int [(.int tk), (.int t0), (.int t2), (.int t3), (.int t4), (.int t5), (.int t6), (.int t7)] ∧ own_AL Z h' b2 .int [(.int cp), (.int c0), (.int c2), (.int c3), (.int c4), (.int c5), (.int c6), (.int c7)] ∧ own_AL Z h' b3 .int [(.int (0 : Int32)), (.int (0 : Int32)), (.int p2), (.int p3), (.int p4), (.int p5), (.int p6), (.int p7)]) := by
  refine own_enter (plainFor_of_name own_pn_com_example_depth2_depth2_PackedMarking) Z0 #[.val (.ref a), .val (.int tk), .val (.int cp), .unset, .unset] (fun m => by first | (simp [entryFrame, mkF, argsToLocals, Value.category]; done) | rfl) ?_
  intro p e s m below meth c T A X0 hret hnm fin
  refine own_aload X0 own_d_prog_38_method_13_code_0 rfl ?_
  refine own_getF X0 (host := "") (k := 3) (hw _ (List.mem_of_getElem? (i := 52) rfl)) O rfl rfl own_d_prog_38_method_13_code_1 ?_
  intro T1 X1
  refine own_iload X1 own_d_prog_38_method_13_code_4 rfl ?_
  refine own_callV X1 (y := (⟨"com/example/depth2/depth2/NetTokenTable", "place", "(I)I"⟩ : MethodName)) [(.int tk)] [] 0 (a := tb) rfl (hw _ (List.mem_of_getElem? (i := 59) rfl)) (hw _ (List.mem_of_getElem? (i := 60) rfl)) (hw _ (List.mem_of_getElem? (i := 62) rfl)) (hw _ (List.mem_of_getElem? (i := 61) rfl)) (hw _ (List.mem_of_getElem? (i := 10) rfl)) (hw _ (List.mem_of_getElem? (i := 63) rfl)) (by decide) Ot.1 (own_place l Z a0 hw tb nb ta pa ha sa tk k h0 n0 X1.sz Ot On Vp htk hk) own_d_prog_38_method_13_code_5 own_pd__I_I rfl rfl (by show 2 * 0 + _ ≤ _; exact Nat.le_of_eq rfl) (by decide) (by decide) (by decide) (by decide) ?_
  intro T2 h2 v2 X2 P2
  obtain ⟨rfl, eh2⟩ := P2
  rw [eh2] at X2
  show own_Wins p e below A T2 (mkF m 8 #[.val (.ref a), .val (.int tk), .val (.int cp), .unset, .unset] [(.int (0 : Int32))])
  refine own_istore X2 #[.val (.ref a), .val (.int tk), .val (.int cp), .val (.int (0 : Int32)), .unset] own_d_prog_38_method_13_code_8 rfl ?_
  refine own_aload X2 own_d_prog_38_method_13_code_9 rfl ?_
  refine own_getF X2 (host := "") (k := 4) (hw _ (List.mem_of_getElem? (i := 69) rfl)) O rfl rfl own_d_prog_38_method_13_code_10 ?_
  intro T3 X3
  refine own_istore X3 #[.val (.ref a), .val (.int tk), .val (.int cp), .val (.int (0 : Int32)), .val (.int (1 : Int32))] own_d_prog_38_method_13_code_13 rfl ?_
  refine own_iload X3 own_d_prog_38_method_13_code_15 rfl ?_
  refine own_ifNo X3 own_d_prog_38_method_13_code_17 ((if0 _ _).trans (tlt (by decide)).2.2.2) ?_
  refine own_aload X3 own_d_prog_38_method_13_code_20 rfl ?_
  refine own_getF X3 (host := "") (k := 2) (hw _ (List.mem_of_getElem? (i := 50) rfl)) O rfl rfl own_d_prog_38_method_13_code_21 ?_
  intro T4 X4
  refine own_iload X4 own_d_prog_38_method_13_code_24 rfl ?_
  refine own_ipush X4 own_d_prog_38_method_13_code_26 ?_
  refine own_isub X4 own_d_prog_38_method_13_code_27 ?_
  refine own_iaload X4 V3 (i := 0) ⟨by decide, by decide⟩ rfl own_d_prog_38_method_13_code_28 ?_
  refine own_iload X4 own_d_prog_38_method_13_code_29 rfl ?_
  refine own_icNo X4 own_d_prog_38_method_13_code_30 (flt (by decide)).2.2.1 ?_
  refine own_aload X4 own_d_prog_38_method_13_code_33 rfl ?_
  refine own_getF X4 (host := "") (k := 2) (hw _ (List.mem_of_getElem? (i := 50) rfl)) O rfl rfl own_d_prog_38_method_13_code_34 ?_
  intro T5 X5
  refine own_iload X5 own_d_prog_38_method_13_code_37 rfl ?_
  refine own_ipush X5 own_d_prog_38_method_13_code_39 ?_
  refine own_isub X5 own_d_prog_38_method_13_code_40 ?_
  refine own_iaload X5 V3 (i := 0) ⟨by decide, by decide⟩ rfl own_d_prog_38_method_13_code_41 ?_
  refine own_iload X5 own_d_prog_38_method_13_code_42 rfl ?_
  refine own_icNo X5 own_d_prog_38_method_13_code_43 (teq rfl).2 ?_
  refine own_aload X5 own_d_prog_38_method_13_code_46 rfl ?_
  refine own_getF X5 (host := "") (k := 0) (hw _ (List.mem_of_getElem? (i := 46) rfl)) O rfl rfl own_d_prog_38_method_13_code_47 ?_
  intro T6 X6
  refine own_iload X6 own_d_prog_38_method_13_code_50 rfl ?_
  refine own_ipush X6 own_d_prog_38_method_13_code_52 ?_
  refine own_isub X6 own_d_prog_38_method_13_code_53 ?_
  refine own_iaload X6 V1 (i := 0) ⟨by decide, by decide⟩ rfl own_d_prog_38_method_13_code_54 ?_
  refine own_iload X6 own_d_prog_38_method_13_code_55 rfl ?_
  refine own_icNo X6 own_d_prog_38_method_13_code_56 (tlt hgt).2.2.2 ?_
  refine own_iinc X6 #[.val (.ref a), .val (.int tk), .val (.int cp), .val (.int (0 : Int32)), .val (.int (0 : Int32))] own_d_prog_38_method_13_code_59 rfl rfl ?_
  refine own_goto X6 own_d_prog_38_method_13_code_62 ?_
  refine own_iload X6 own_d_prog_38_method_13_code_15 rfl ?_
  refine own_ifYes X6 own_d_prog_38_method_13_code_17 ((if0 _ _).trans (flt (by decide)).2.2.2) ?_
  refine own_iload X6 own_d_prog_38_method_13_code_65 rfl ?_
  refine own_ifYes X6 own_d_prog_38_method_13_code_67 ((if0 _ _).trans (flt (by decide)).2.2.2) ?_
  refine own_aload X6 own_d_prog_38_method_13_code_108 rfl ?_
  refine own_getF X6 (host := "") (k := 4) (hw _ (List.mem_of_getElem? (i := 69) rfl)) O rfl rfl own_d_prog_38_method_13_code_109 ?_
  intro T7 X7
  refine own_aload X7 own_d_prog_38_method_13_code_112 rfl ?_
  refine own_getF X7 (host := "") (k := 0) (hw _ (List.mem_of_getElem? (i := 46) rfl)) O rfl rfl own_d_prog_38_method_13_code_113 ?_
  intro T8 X8
  refine own_alen X8 V1 own_d_prog_38_method_13_code_116 ?_
  show own_Wins p e below A T8 (mkF m 117 #[.val (.ref a), .val (.int tk), .val (.int cp), .val (.int (0 : Int32)), .val (.int (0 : Int32))] [(.int (8 : Int32)), (.int (1 : Int32))])
  refine own_icYes X8 own_d_prog_38_method_13_code_117 (feq (by decide)).2 ?_
  refine own_aload X8 own_d_prog_38_method_13_code_130 rfl ?_
  refine own_getF X8 (host := "") (k := 0) (hw _ (List.mem_of_getElem? (i := 46) rfl)) O rfl rfl own_d_prog_38_method_13_code_131 ?_
  intro T9 X9
  refine own_iload X9 own_d_prog_38_method_13_code_134 rfl ?_
  refine own_aload X9 own_d_prog_38_method_13_code_136 rfl ?_
  refine own_getF X9 (host := "") (k := 0) (hw _ (List.mem_of_getElem? (i := 46) rfl)) O rfl rfl own_d_prog_38_method_13_code_137 ?_
  intro T10 X10
  refine own_iload X10 own_d_prog_38_method_13_code_140 rfl ?_
  refine own_ipush X10 own_d_prog_38_method_13_code_142 ?_
  refine own_iadd X10 own_d_prog_38_method_13_code_143 ?_
  refine own_aload X10 own_d_prog_38_method_13_code_144 rfl ?_
  refine own_getF X10 (host := "") (k := 4) (hw _ (List.mem_of_getElem? (i := 69) rfl)) O rfl rfl own_d_prog_38_method_13_code_145 ?_
  intro T11 X11
  refine own_iload X11 own_d_prog_38_method_13_code_148 rfl ?_
  refine own_isub X11 own_d_prog_38_method_13_code_150 ?_
  refine own_acopy X11 [] 0 (hw _ (List.mem_of_getElem? (i := 71) rfl)) (hw _ (List.mem_of_getElem? (i := 74) rfl)) (hw _ (List.mem_of_getElem? (i := 72) rfl)) (hw _ (List.mem_of_getElem? (i := 73) rfl)) V1 (by intro v hv; simp only [List.mem_cons, List.not_mem_nil, or_false] at hv; rcases hv with rfl | rfl | rfl | rfl | rfl | rfl | rfl | rfl <;> rfl) g1 (s' := 0) (d' := 1) (n' := 1) ⟨by decide, by decide⟩ ⟨by decide, by decide⟩ ⟨by decide, by decide⟩ (Nat.le_of_ble_eq_true rfl) (Nat.le_of_ble_eq_true rfl) own_d_prog_38_method_13_code_151 rfl (by decide) (by show 2 * 0 + _ ≤ _; exact Nat.le_of_eq rfl) (by decide) ?_
  intro T12 h12 X12 Kc12 V12
  replace V12 : own_AL Z h12 b1 .int [(.int t0), (.int t0), (.int t2), (.int t3), (.int t4), (.int t5), (.int t6), (.int t7)] := V12
  have K12 : Keep h0 h12 [a, b1, b2, b3] := (Keep.refl h0 [a, b1, b2, b3]).trans Kc12 (allS (P := fun z => z ∈ [a, b1, b2, b3] ∨ h0.size ≤ z) (Or.inl (by simp)) all0)
  have F13_a : own_Obj Z h12 a "com/example/depth2/depth2/PackedMarking" own_ns_Pm [(.ref b1), (.ref b2), (.ref b3), (.ref tb), (.int (1 : Int32))] := O.keep Kc12 (ninS hn_a_b1 nin0)
  have F14_b2 : own_AL Z h12 b2 .int [(.int c0), (.int c1), (.int c2), (.int c3), (.int c4), (.int c5), (.int c6), (.int c7)] := V2.keep Kc12 (ninS (Ne.symm hq12) nin0)
  have F15_b3 : own_AL Z h12 b3 .int [(.int (0 : Int32)), (.int p1), (.int p2), (.int p3), (.int p4), (.int p5), (.int p6), (.int p7)] := V3.keep Kc12 (ninS (Ne.symm hq13) nin0)
  refine own_aload X12 own_d_prog_38_method_13_code_154 rfl ?_
  refine own_getF X12 (host := "") (k := 1) (hw _ (List.mem_of_getElem? (i := 48) rfl)) F13_a rfl rfl own_d_prog_38_method_13_code_155 ?_
  intro T16 X16
  refine own_iload X16 own_d_prog_38_method_13_code_158 rfl ?_
  refine own_aload X16 own_d_prog_38_method_13_code_160 rfl ?_
  refine own_getF X16 (host := "") (k := 1) (hw _ (List.mem_of_getElem? (i := 48) rfl)) F13_a rfl rfl own_d_prog_38_method_13_code_161 ?_
  intro T17 X17
  refine own_iload X17 own_d_prog_38_method_13_code_164 rfl ?_
  refine own_ipush X17 own_d_prog_38_method_13_code_166 ?_
  refine own_iadd X17 own_d_prog_38_method_13_code_167 ?_
  refine own_aload X17 own_d_prog_38_method_13_code_168 rfl ?_
  refine own_getF X17 (host := "") (k := 4) (hw _ (List.mem_of_getElem? (i := 69) rfl)) F13_a rfl rfl own_d_prog_38_method_13_code_169 ?_
  intro T18 X18
  refine own_iload X18 own_d_prog_38_method_13_code_172 rfl ?_
  refine own_isub X18 own_d_prog_38_method_13_code_174 ?_
  refine own_acopy X18 [] 0 (hw _ (List.mem_of_getElem? (i := 71) rfl)) (hw _ (List.mem_of_getElem? (i := 74) rfl)) (hw _ (List.mem_of_getElem? (i := 72) rfl)) (hw _ (List.mem_of_getElem? (i := 73) rfl)) F14_b2 (by intro v hv; simp only [List.mem_cons, List.not_mem_nil, or_false] at hv; rcases hv with rfl | rfl | rfl | rfl | rfl | rfl | rfl | rfl <;> rfl) g2 (s' := 0) (d' := 1) (n' := 1) ⟨by decide, by decide⟩ ⟨by decide, by decide⟩ ⟨by decide, by decide⟩ (Nat.le_of_ble_eq_true rfl) (Nat.le_of_ble_eq_true rfl) own_d_prog_38_method_13_code_175 rfl (by decide) (by show 2 * 0 + _ ≤ _; exact Nat.le_of_eq rfl) (by decide) ?_
  intro T19 h19 X19 Kc19 V19
  replace V19 : own_AL Z h19 b2 .int [(.int c0), (.int c0), (.int c2), (.int c3), (.int c4), (.int c5), (.int c6), (.int c7)] := V19
  have K19 : Keep h0 h19 [a, b1, b2, b3] := K12.trans Kc19 (allS (P := fun z => z ∈ [a, b1, b2, b3] ∨ h0.size ≤ z) (Or.inl (by simp)) all0)
  have F20_a : own_Obj Z h19 a "com/example/depth2/depth2/PackedMarking" own_ns_Pm [(.ref b1), (.ref b2), (.ref b3), (.ref tb), (.int (1 : Int32))] := F13_a.keep Kc19 (ninS hn_a_b2 nin0)
  have F21_b1 : own_AL Z h19 b1 .int [(.int t0), (.int t0), (.int t2), (.int t3), (.int t4), (.int t5), (.int t6), (.int t7)] := V12.keep Kc19 (ninS hq12 nin0)
  have F22_b3 : own_AL Z h19 b3 .int [(.int (0 : Int32)), (.int p1), (.int p2), (.int p3), (.int p4), (.int p5), (.int p6), (.int p7)] := F15_b3.keep Kc19 (ninS (Ne.symm hq23) nin0)
  refine own_aload X19 own_d_prog_38_method_13_code_178 rfl ?_
  refine own_getF X19 (host := "") (k := 2) (hw _ (List.mem_of_getElem? (i := 50) rfl)) F20_a rfl rfl own_d_prog_38_method_13_code_179 ?_
  intro T23 X23
  refine own_iload X23 own_d_prog_38_method_13_code_182 rfl ?_
  refine own_aload X23 own_d_prog_38_method_13_code_184 rfl ?_
  refine own_getF X23 (host := "") (k := 2) (hw _ (List.mem_of_getElem? (i := 50) rfl)) F20_a rfl rfl own_d_prog_38_method_13_code_185 ?_
  intro T24 X24
  refine own_iload X24 own_d_prog_38_method_13_code_188 rfl ?_
  refine own_ipush X24 own_d_prog_38_method_13_code_190 ?_
  refine own_iadd X24 own_d_prog_38_method_13_code_191 ?_
  refine own_aload X24 own_d_prog_38_method_13_code_192 rfl ?_
  refine own_getF X24 (host := "") (k := 4) (hw _ (List.mem_of_getElem? (i := 69) rfl)) F20_a rfl rfl own_d_prog_38_method_13_code_193 ?_
  intro T25 X25
  refine own_iload X25 own_d_prog_38_method_13_code_196 rfl ?_
  refine own_isub X25 own_d_prog_38_method_13_code_198 ?_
  refine own_acopy X25 [] 0 (hw _ (List.mem_of_getElem? (i := 71) rfl)) (hw _ (List.mem_of_getElem? (i := 74) rfl)) (hw _ (List.mem_of_getElem? (i := 72) rfl)) (hw _ (List.mem_of_getElem? (i := 73) rfl)) F22_b3 (by intro v hv; simp only [List.mem_cons, List.not_mem_nil, or_false] at hv; rcases hv with rfl | rfl | rfl | rfl | rfl | rfl | rfl | rfl <;> rfl) g3 (s' := 0) (d' := 1) (n' := 1) ⟨by decide, by decide⟩ ⟨by decide, by decide⟩ ⟨by decide, by decide⟩ (Nat.le_of_ble_eq_true rfl) (Nat.le_of_ble_eq_true rfl) own_d_prog_38_method_13_code_199 rfl (by decide) (by show 2 * 0 + _ ≤ _; exact Nat.le_of_eq rfl) (by decide) ?_
  intro T26 h26 X26 Kc26 V26
  replace V26 : own_AL Z h26 b3 .int [(.int (0 : Int32)), (.int (0 : Int32)), (.int p2), (.int p3), (.int p4), (.int p5), (.int p6), (.int p7)] := V26
  have K26 : Keep h0 h26 [a, b1, b2, b3] := K19.trans Kc26 (allS (P := fun z => z ∈ [a, b1, b2, b3] ∨ h0.size ≤ z) (Or.inl (by simp)) all0)
  have F27_a : own_Obj Z h26 a "com/example/depth2/depth2/PackedMarking" own_ns_Pm [(.ref b1), (.ref b2), (.ref b3), (.ref tb), (.int (1 : Int32))] := F20_a.keep Kc26 (ninS hn_a_b3 nin0)
  have F28_b1 : own_AL Z h26 b1 .int [(.int t0), (.int t0), (.int t2), (.int t3), (.int t4), (.int t5), (.int t6), (.int t7)] := F21_b1.keep Kc26 (ninS hq13 nin0)
  have F29_b2 : own_AL Z h26 b2 .int [(.int c0), (.int c0), (.int c2), (.int c3), (.int c4), (.int c5), (.int c6), (.int c7)] := V19.keep Kc26 (ninS hq23 nin0)
  refine own_aload X26 own_d_prog_38_method_13_code_202 rfl ?_
  refine own_getF X26 (host := "") (k := 0) (hw _ (List.mem_of_getElem? (i := 46) rfl)) F27_a rfl rfl own_d_prog_38_method_13_code_203 ?_
  intro T30 X30
  refine own_iload X30 own_d_prog_38_method_13_code_206 rfl ?_
  refine own_iload X30 own_d_prog_38_method_13_code_208 rfl ?_
  refine own_iastore X30 F28_b1 g1 (i := 0) ⟨by decide, by decide⟩ (Nat.le_of_ble_eq_true rfl) own_d_prog_38_method_13_code_209 ?_
  intro T31 h31 X31 W31 V31
  have K31 : Keep h0 h31 [a, b1, b2, b3] := K26.wr W31 (Or.inl (by simp))
  replace V31 : own_AL Z h31 b1 .int [(.int tk), (.int t0), (.int t2), (.int t3), (.int t4), (.int t5), (.int t6), (.int t7)] := V31
  have F32_a : own_Obj Z h31 a "com/example/depth2/depth2/PackedMarking" own_ns_Pm [(.ref b1), (.ref b2), (.ref b3), (.ref tb), (.int (1 : Int32))] := F27_a.other W31 hn_a_b1
  have F33_b2 : own_AL Z h31 b2 .int [(.int c0), (.int c0), (.int c2), (.int c3), (.int c4), (.int c5), (.int c6), (.int c7)] := F29_b2.other W31 (Ne.symm hq12)
  have F34_b3 : own_AL Z h31 b3 .int [(.int (0 : Int32)), (.int (0 : Int32)), (.int p2), (.int p3), (.int p4), (.int p5), (.int p6), (.int p7)] := V26.other W31 (Ne.symm hq13)
  refine own_aload X31 own_d_prog_38_method_13_code_210 rfl ?_
  refine own_getF X31 (host := "") (k := 1) (hw _ (List.mem_of_getElem? (i := 48) rfl)) F32_a rfl rfl own_d_prog_38_method_13_code_211 ?_
  intro T35 X35
  refine own_iload X35 own_d_prog_38_method_13_code_214 rfl ?_
  refine own_iload X35 own_d_prog_38_method_13_code_216 rfl ?_
  refine own_iastore X35 F33_b2 g2 (i := 0) ⟨by decide, by decide⟩ (Nat.le_of_ble_eq_true rfl) own_d_prog_38_method_13_code_217 ?_
  intro T36 h36 X36 W36 V36
  have K36 : Keep h0 h36 [a, b1, b2, b3] := K31.wr W36 (Or.inl (by simp))
  replace V36 : own_AL Z h36 b2 .int [(.int cp), (.int c0), (.int c2), (.int c3), (.int c4), (.int c5), (.int c6), (.int c7)] := V36
  have F37_a : own_Obj Z h36 a "com/example/depth2/depth2/PackedMarking" own_ns_Pm [(.ref b1), (.ref b2), (.ref b3), (.ref tb), (.int (1 : Int32))] := F32_a.other W36 hn_a_b2
  have F38_b1 : own_AL Z h36 b1 .int [(.int tk), (.int t0), (.int t2), (.int t3), (.int t4), (.int t5), (.int t6), (.int t7)] := V31.other W36 hq12
  have F39_b3 : own_AL Z h36 b3 .int [(.int (0 : Int32)), (.int (0 : Int32)), (.int p2), (.int p3), (.int p4), (.int p5), (.int p6), (.int p7)] := F34_b3.other W36 (Ne.symm hq23)
  refine own_aload X36 own_d_prog_38_method_13_code_218 rfl ?_
  refine own_getF X36 (host := "") (k := 2) (hw _ (List.mem_of_getElem? (i := 50) rfl)) F37_a rfl rfl own_d_prog_38_method_13_code_219 ?_
  intro T40 X40
  refine own_iload X40 own_d_prog_38_method_13_code_222 rfl ?_
  refine own_iload X40 own_d_prog_38_method_13_code_224 rfl ?_
  refine own_iastore X40 F39_b3 g3 (i := 0) ⟨by decide, by decide⟩ (Nat.le_of_ble_eq_true rfl) own_d_prog_38_method_13_code_225 ?_
  intro T41 h41 X41 W41 V41
  have K41 : Keep h0 h41 [a, b1, b2, b3] := K36.wr W41 (Or.inl (by simp))
  replace V41 : own_AL Z h41 b3 .int [(.int (0 : Int32)), (.int (0 : Int32)), (.int p2), (.int p3), (.int p4), (.int p5), (.int p6), (.int p7)] := V41
  have F42_a : own_Obj Z h41 a "com/example/depth2/depth2/PackedMarking" own_ns_Pm [(.ref b1), (.ref b2), (.ref b3), (.ref tb), (.int (1 : Int32))] := F37_a.other W41 hn_a_b3
  have F43_b1 : own_AL Z h41 b1 .int [(.int tk), (.int t0), (.int t2), (.int t3), (.int t4), (.int t5), (.int t6), (.int t7)] := F38_b1.other W41 hq13
  have F44_b2 : own_AL Z h41 b2 .int [(.int cp), (.int c0), (.int c2), (.int c3), (.int c4), (.int c5), (.int c6), (.int c7)] := V36.other W41 hq23
  refine own_aload X41 own_d_prog_38_method_13_code_226 rfl ?_
  refine own_dup X41 own_d_prog_38_method_13_code_227 rfl ?_
  refine own_getF X41 (host := "") (k := 4) (hw _ (List.mem_of_getElem? (i := 69) rfl)) F42_a rfl rfl own_d_prog_38_method_13_code_228 ?_
  intro T45 X45
  refine own_ipush X45 own_d_prog_38_method_13_code_231 ?_
  refine own_iadd X45 own_d_prog_38_method_13_code_232 ?_
  refine own_putF X45 (k := 4) (ty := .int) (hw _ (List.mem_of_getElem? (i := 69) rfl)) F42_a (own_laid_Pm hw) rfl (Or.inl (hw _ (List.mem_of_getElem? (i := 70) rfl))) (hw _ (List.mem_of_getElem? (i := 6) rfl)) (by decide) rfl rfl ga own_d_prog_38_method_13_code_233 ?_
  intro T46 h46 X46 W46 V46
  have K46 : Keep h0 h46 [a, b1, b2, b3] := K41.wr W46 (Or.inl (by simp))
  replace V46 : own_Obj Z h46 a "com/example/depth2/depth2/PackedMarking" own_ns_Pm [(.ref b1), (.ref b2), (.ref b3), (.ref tb), (.int ((1 : Int32) + (1 : Int32)))] := V46
  have F47_b1 : own_AL Z h46 b1 .int [(.int tk), (.int t0), (.int t2), (.int t3), (.int t4), (.int t5), (.int t6), (.int t7)] := F43_b1.other W46 (Ne.symm hn_a_b1)
  have F48_b2 : own_AL Z h46 b2 .int [(.int cp), (.int c0), (.int c2), (.int c3), (.int c4), (.int c5), (.int c6), (.int c7)] := F44_b2.other W46 (Ne.symm hn_a_b2)
  have F49_b3 : own_AL Z h46 b3 .int [(.int (0 : Int32)), (.int (0 : Int32)), (.int p2), (.int p3), (.int p4), (.int p5), (.int p6), (.int p7)] := V41.other W46 (Ne.symm hn_a_b3)
  have Ofin : own_Obj Z h46 a "com/example/depth2/depth2/PackedMarking" own_ns_Pm [(.ref b1), (.ref b2), (.ref b3), (.ref tb), (.int (2 : Int32))] := V46
  exact own_ret0 X46 hret fin (by decide) (by decide) ⟨rfl, K46, Ofin, F47_b1, F48_b2, F49_b3⟩ own_d_prog_38_method_13_code_236
set_option maxRecDepth 65536 in
set_option maxHeartbeats 40000000 in
theorem own_addC (l : Launch) (Z : State) (a0 : Array Value) (hw : ∀ d ∈ tables_1, d.before a0 Z = true) (a b1 b2 b3 tb nb ta pa ha sa : Addr) (tk cp : Int32) (k : Nat) (t0 t1 t2 t3 t4 t5 t6 t7 c0 c1 c2 c3 c4 c5 c6 c7 t3 p1 p2 p3 p4 p5 p6 p7 : Int32) (h0 : Heap) (n0 : Nat) (Z0 : n0 ≤ h0.size) (O : own_Obj Z h0 a "com/example/depth2/depth2/PackedMarking" own_ns_Pm [(.ref b1), (.ref b2), (.ref b3), (.ref tb), (.int (1 : Int32))]) (ga : n0 ≤ a) (V1 : own_AL Z h0 b1 .int [(.int t0), (.int t1), (.int t2), (.int t3), (.int t4), (.int t5), (.int t6), (.int t7)]) (V2 : own_AL Z h0 b2 .int [(.int c0), (.int c1), (.int c2), (.int c3), (.int c4), (.int c5), (.int c6), (.int c7)]) (V3 : own_AL Z h0 b3 .int [(.int (0 : Int32)), (.int p1), (.int p2), (.int p3), (.int p4), (.int p5), (.int p6), (.int p7)]) (g1 : n0 ≤ b1) (g2 : n0 ≤ b2) (g3 : n0 ≤ b3) (Ot : own_Obj Z h0 tb "com/example/depth2/depth2/NetTokenTable" own_ns_Tb [(.ref nb)]) (On : own_Obj Z h0 nb "com/example/depth2/depth2/NetTokenTable$Numbered" own_ns_Nu [(.ref ta), (.ref pa), (.ref ha), (.ref sa)]) (Vp : own_AL Z h0 pa .int [(.int (0 : Int32)), (.int (0 : Int32)), (.int (0 : Int32)), (.int (0 : Int32)), (.int (0 : Int32)), (.int (0 : Int32)), (.int (0 : Int32)), (.int (0 : Int32)), (.int (0 : Int32)), (.int (0 : Int32)), (.int (0 : Int32)), (.int (0 : Int32)), (.int (0 : Int32)), (.int (0 : Int32)), (.int (0 : Int32)), (.int (0 : Int32))]) (hn_a_b1 : a ≠ b1) (hn_a_b2 : a ≠ b2) (hn_a_b3 : a ≠ b3) (hn_a_tb : a ≠ tb) (hn_a_nb : a ≠ nb) (hn_a_pa : a ≠ pa) (hq12 : b1 ≠ b2) (hq13 : b1 ≠ b3) (hn_b1_tb : b1 ≠ tb) (hn_b1_nb : b1 ≠ nb) (hn_b1_pa : b1 ≠ pa) (hq23 : b2 ≠ b3) (hn_b2_tb : b2 ≠ tb) (hn_b2_nb : b2 ≠ nb) (hn_b2_pa : b2 ≠ pa) (hn_b3_tb : b3 ≠ tb) (hn_b3_nb : b3 ≠ nb) (hn_b3_pa : b3 ≠ pa) (htk : own_idx tk k) (hk : k < 16) (hgt : ¬ tk < t0) (hne : ¬ t0 = tk) :
    own_Con l Z n0 (⟨"com/example/depth2/depth2/PackedMarking", "add", "(II)V"⟩ : MethodName) prog_38_method_13_code 5 none ({ frames := 2, cells := 0, slots := 0, locals := 70 } : Room) [] #[(.ref a), (.int tk), (.int cp)] h0 (fun v h' => v = none ∧ Keep h0 h' [a, b1, b2, b3] ∧ own_Obj Z h' a "com/example/depth2/depth2/PackedMarking" own_ns_Pm [(.ref b1), (.ref b2), (.ref b3), (.ref tb), (.int (2 : Int32))] ∧ own_AL Z h' b1 .int [(.int t0), (.int tk), (.int t2), (.int t3), (.int t4), (.int t5), (.int t6), (.int t7)] ∧ own_AL Z h' b2 .int [(.int c0), (.int cp), (.int c2), (.int c3), (.int c4), (.int c5), (.int c6), (.int c7)] ∧ own_AL Z h' b3 .int [(.int (0 : Int32)), (.int (0 : Int32)), (.int p2), (.int p3), (.int p4), (.int p5), (.int p6), (.int p7)]) := by
  refine own_enter (plainFor_of_name own_pn_com_example_depth2_depth2_PackedMarking) Z0 #[.val (.ref a), .val (.int tk), .val (.int cp), .unset, .unset] (fun m => by first | (simp [entryFrame, mkF, argsToLocals, Value.category]; done) | rfl) ?_
  intro p e s m below meth c T A X0 hret hnm fin
  refine own_aload X0 own_d_prog_38_method_13_code_0 rfl ?_
  refine own_getF X0 (host := "") (k := 3) (hw _ (List.mem_of_getElem? (i := 52) rfl)) O rfl rfl own_d_prog_38_method_13_code_1 ?_
  intro T1 X1
  refine own_iload X1 own_d_prog_38_method_13_code_4 rfl ?_
  refine own_callV X1 (y := (⟨"com/example/depth2/depth2/NetTokenTable", "place", "(I)I"⟩ : MethodName)) [(.int tk)] [] 0 (a := tb) rfl (hw _ (List.mem_of_getElem? (i := 59) rfl)) (hw _ (List.mem_of_getElem? (i := 60) rfl)) (hw _ (List.mem_of_getElem? (i := 62) rfl)) (hw _ (List.mem_of_getElem? (i := 61) rfl)) (hw _ (List.mem_of_getElem? (i := 10) rfl)) (hw _ (List.mem_of_getElem? (i := 63) rfl)) (by decide) Ot.1 (own_place l Z a0 hw tb nb ta pa ha sa tk k h0 n0 X1.sz Ot On Vp htk hk) own_d_prog_38_method_13_code_5 own_pd__I_I rfl rfl (by show 2 * 0 + _ ≤ _; exact Nat.le_of_eq rfl) (by decide) (by decide) (by decide) (by decide) ?_
  intro T2 h2 v2 X2 P2
  obtain ⟨rfl, eh2⟩ := P2
  rw [eh2] at X2
  show own_Wins p e below A T2 (mkF m 8 #[.val (.ref a), .val (.int tk), .val (.int cp), .unset, .unset] [(.int (0 : Int32))])
  refine own_istore X2 #[.val (.ref a), .val (.int tk), .val (.int cp), .val (.int (0 : Int32)), .unset] own_d_prog_38_method_13_code_8 rfl ?_
  refine own_aload X2 own_d_prog_38_method_13_code_9 rfl ?_
  refine own_getF X2 (host := "") (k := 4) (hw _ (List.mem_of_getElem? (i := 69) rfl)) O rfl rfl own_d_prog_38_method_13_code_10 ?_
  intro T3 X3
  refine own_istore X3 #[.val (.ref a), .val (.int tk), .val (.int cp), .val (.int (0 : Int32)), .val (.int (1 : Int32))] own_d_prog_38_method_13_code_13 rfl ?_
  refine own_iload X3 own_d_prog_38_method_13_code_15 rfl ?_
  refine own_ifNo X3 own_d_prog_38_method_13_code_17 ((if0 _ _).trans (tlt (by decide)).2.2.2) ?_
  refine own_aload X3 own_d_prog_38_method_13_code_20 rfl ?_
  refine own_getF X3 (host := "") (k := 2) (hw _ (List.mem_of_getElem? (i := 50) rfl)) O rfl rfl own_d_prog_38_method_13_code_21 ?_
  intro T4 X4
  refine own_iload X4 own_d_prog_38_method_13_code_24 rfl ?_
  refine own_ipush X4 own_d_prog_38_method_13_code_26 ?_
  refine own_isub X4 own_d_prog_38_method_13_code_27 ?_
  refine own_iaload X4 V3 (i := 0) ⟨by decide, by decide⟩ rfl own_d_prog_38_method_13_code_28 ?_
  refine own_iload X4 own_d_prog_38_method_13_code_29 rfl ?_
  refine own_icNo X4 own_d_prog_38_method_13_code_30 (flt (by decide)).2.2.1 ?_
  refine own_aload X4 own_d_prog_38_method_13_code_33 rfl ?_
  refine own_getF X4 (host := "") (k := 2) (hw _ (List.mem_of_getElem? (i := 50) rfl)) O rfl rfl own_d_prog_38_method_13_code_34 ?_
  intro T5 X5
  refine own_iload X5 own_d_prog_38_method_13_code_37 rfl ?_
  refine own_ipush X5 own_d_prog_38_method_13_code_39 ?_
  refine own_isub X5 own_d_prog_38_method_13_code_40 ?_
  refine own_iaload X5 V3 (i := 0) ⟨by decide, by decide⟩ rfl own_d_prog_38_method_13_code_41 ?_
  refine own_iload X5 own_d_prog_38_method_13_code_42 rfl ?_
  refine own_icNo X5 own_d_prog_38_method_13_code_43 (teq rfl).2 ?_
  refine own_aload X5 own_d_prog_38_method_13_code_46 rfl ?_
  refine own_getF X5 (host := "") (k := 0) (hw _ (List.mem_of_getElem? (i := 46) rfl)) O rfl rfl own_d_prog_38_method_13_code_47 ?_
  intro T6 X6
  refine own_iload X6 own_d_prog_38_method_13_code_50 rfl ?_
  refine own_ipush X6 own_d_prog_38_method_13_code_52 ?_
  refine own_isub X6 own_d_prog_38_method_13_code_53 ?_
  refine own_iaload X6 V1 (i := 0) ⟨by decide, by decide⟩ rfl own_d_prog_38_method_13_code_54 ?_
  refine own_iload X6 own_d_prog_38_method_13_code_55 rfl ?_
  refine own_icYes X6 own_d_prog_38_method_13_code_56 (flt hgt).2.2.2 ?_
  refine own_iload X6 own_d_prog_38_method_13_code_65 rfl ?_
  refine own_ifNo X6 own_d_prog_38_method_13_code_67 ((if0 _ _).trans (tlt (by decide)).2.2.2) ?_
  refine own_aload X6 own_d_prog_38_method_13_code_70 rfl ?_
  refine own_getF X6 (host := "") (k := 0) (hw _ (List.mem_of_getElem? (i := 46) rfl)) O rfl rfl own_d_prog_38_method_13_code_71 ?_
  intro T7 X7
  refine own_iload X7 own_d_prog_38_method_13_code_74 rfl ?_
  refine own_ipush X7 own_d_prog_38_method_13_code_76 ?_
  refine own_isub X7 own_d_prog_38_method_13_code_77 ?_
  refine own_iaload X7 V1 (i := 0) ⟨by decide, by decide⟩ rfl own_d_prog_38_method_13_code_78 ?_
  refine own_iload X7 own_d_prog_38_method_13_code_79 rfl ?_
  refine own_icYes X7 own_d_prog_38_method_13_code_80 (feq hne).2 ?_
  refine own_aload X7 own_d_prog_38_method_13_code_108 rfl ?_
  refine own_getF X7 (host := "") (k := 4) (hw _ (List.mem_of_getElem? (i := 69) rfl)) O rfl rfl own_d_prog_38_method_13_code_109 ?_
  intro T8 X8
  refine own_aload X8 own_d_prog_38_method_13_code_112 rfl ?_
  refine own_getF X8 (host := "") (k := 0) (hw _ (List.mem_of_getElem? (i := 46) rfl)) O rfl rfl own_d_prog_38_method_13_code_113 ?_
  intro T9 X9
  refine own_alen X9 V1 own_d_prog_38_method_13_code_116 ?_
  show own_Wins p e below A T9 (mkF m 117 #[.val (.ref a), .val (.int tk), .val (.int cp), .val (.int (0 : Int32)), .val (.int (1 : Int32))] [(.int (8 : Int32)), (.int (1 : Int32))])
  refine own_icYes X9 own_d_prog_38_method_13_code_117 (feq (by decide)).2 ?_
  refine own_aload X9 own_d_prog_38_method_13_code_130 rfl ?_
  refine own_getF X9 (host := "") (k := 0) (hw _ (List.mem_of_getElem? (i := 46) rfl)) O rfl rfl own_d_prog_38_method_13_code_131 ?_
  intro T10 X10
  refine own_iload X10 own_d_prog_38_method_13_code_134 rfl ?_
  refine own_aload X10 own_d_prog_38_method_13_code_136 rfl ?_
  refine own_getF X10 (host := "") (k := 0) (hw _ (List.mem_of_getElem? (i := 46) rfl)) O rfl rfl own_d_prog_38_method_13_code_137 ?_
  intro T11 X11
  refine own_iload X11 own_d_prog_38_method_13_code_140 rfl ?_
  refine own_ipush X11 own_d_prog_38_method_13_code_142 ?_
  refine own_iadd X11 own_d_prog_38_method_13_code_143 ?_
  refine own_aload X11 own_d_prog_38_method_13_code_144 rfl ?_
  refine own_getF X11 (host := "") (k := 4) (hw _ (List.mem_of_getElem? (i := 69) rfl)) O rfl rfl own_d_prog_38_method_13_code_145 ?_
  intro T12 X12
  refine own_iload X12 own_d_prog_38_method_13_code_148 rfl ?_
  refine own_isub X12 own_d_prog_38_method_13_code_150 ?_
  refine own_acopy X12 [] 0 (hw _ (List.mem_of_getElem? (i := 71) rfl)) (hw _ (List.mem_of_getElem? (i := 74) rfl)) (hw _ (List.mem_of_getElem? (i := 72) rfl)) (hw _ (List.mem_of_getElem? (i := 73) rfl)) V1 (by intro v hv; simp only [List.mem_cons, List.not_mem_nil, or_false] at hv; rcases hv with rfl | rfl | rfl | rfl | rfl | rfl | rfl | rfl <;> rfl) g1 (s' := 1) (d' := 2) (n' := 0) ⟨by decide, by decide⟩ ⟨by decide, by decide⟩ ⟨by decide, by decide⟩ (Nat.le_of_ble_eq_true rfl) (Nat.le_of_ble_eq_true rfl) own_d_prog_38_method_13_code_151 rfl (by decide) (by show 2 * 0 + _ ≤ _; exact Nat.le_of_eq rfl) (by decide) ?_
  intro T13 h13 X13 Kc13 V13
  replace V13 : own_AL Z h13 b1 .int [(.int t0), (.int t1), (.int t2), (.int t3), (.int t4), (.int t5), (.int t6), (.int t7)] := V13
  have K13 : Keep h0 h13 [a, b1, b2, b3] := (Keep.refl h0 [a, b1, b2, b3]).trans Kc13 (allS (P := fun z => z ∈ [a, b1, b2, b3] ∨ h0.size ≤ z) (Or.inl (by simp)) all0)
  have F14_a : own_Obj Z h13 a "com/example/depth2/depth2/PackedMarking" own_ns_Pm [(.ref b1), (.ref b2), (.ref b3), (.ref tb), (.int (1 : Int32))] := O.keep Kc13 (ninS hn_a_b1 nin0)
  have F15_b2 : own_AL Z h13 b2 .int [(.int c0), (.int c1), (.int c2), (.int c3), (.int c4), (.int c5), (.int c6), (.int c7)] := V2.keep Kc13 (ninS (Ne.symm hq12) nin0)
  have F16_b3 : own_AL Z h13 b3 .int [(.int (0 : Int32)), (.int p1), (.int p2), (.int p3), (.int p4), (.int p5), (.int p6), (.int p7)] := V3.keep Kc13 (ninS (Ne.symm hq13) nin0)
  refine own_aload X13 own_d_prog_38_method_13_code_154 rfl ?_
  refine own_getF X13 (host := "") (k := 1) (hw _ (List.mem_of_getElem? (i := 48) rfl)) F14_a rfl rfl own_d_prog_38_method_13_code_155 ?_
  intro T17 X17
  refine own_iload X17 own_d_prog_38_method_13_code_158 rfl ?_
  refine own_aload X17 own_d_prog_38_method_13_code_160 rfl ?_
  refine own_getF X17 (host := "") (k := 1) (hw _ (List.mem_of_getElem? (i := 48) rfl)) F14_a rfl rfl own_d_prog_38_method_13_code_161 ?_
  intro T18 X18
  refine own_iload X18 own_d_prog_38_method_13_code_164 rfl ?_
  refine own_ipush X18 own_d_prog_38_method_13_code_166 ?_
  refine own_iadd X18 own_d_prog_38_method_13_code_167 ?_
  refine own_aload X18 own_d_prog_38_method_13_code_168 rfl ?_
  refine own_getF X18 (host := "") (k := 4) (hw _ (List.mem_of_getElem? (i := 69) rfl)) F14_a rfl rfl own_d_prog_38_method_13_code_169 ?_
  intro T19 X19
  refine own_iload X19 own_d_prog_38_method_13_code_172 rfl ?_
  refine own_isub X19 own_d_prog_38_method_13_code_174 ?_
  refine own_acopy X19 [] 0 (hw _ (List.mem_of_getElem? (i := 71) rfl)) (hw _ (List.mem_of_getElem? (i := 74) rfl)) (hw _ (List.mem_of_getElem? (i := 72) rfl)) (hw _ (List.mem_of_getElem? (i := 73) rfl)) F15_b2 (by intro v hv; simp only [List.mem_cons, List.not_mem_nil, or_false] at hv; rcases hv with rfl | rfl | rfl | rfl | rfl | rfl | rfl | rfl <;> rfl) g2 (s' := 1) (d' := 2) (n' := 0) ⟨by decide, by decide⟩ ⟨by decide, by decide⟩ ⟨by decide, by decide⟩ (Nat.le_of_ble_eq_true rfl) (Nat.le_of_ble_eq_true rfl) own_d_prog_38_method_13_code_175 rfl (by decide) (by show 2 * 0 + _ ≤ _; exact Nat.le_of_eq rfl) (by decide) ?_
  intro T20 h20 X20 Kc20 V20
  replace V20 : own_AL Z h20 b2 .int [(.int c0), (.int c1), (.int c2), (.int c3), (.int c4), (.int c5), (.int c6), (.int c7)] := V20
  have K20 : Keep h0 h20 [a, b1, b2, b3] := K13.trans Kc20 (allS (P := fun z => z ∈ [a, b1, b2, b3] ∨ h0.size ≤ z) (Or.inl (by simp)) all0)
  have F21_a : own_Obj Z h20 a "com/example/depth2/depth2/PackedMarking" own_ns_Pm [(.ref b1), (.ref b2), (.ref b3), (.ref tb), (.int (1 : Int32))] := F14_a.keep Kc20 (ninS hn_a_b2 nin0)
  have F22_b1 : own_AL Z h20 b1 .int [(.int t0), (.int t1), (.int t2), (.int t3), (.int t4), (.int t5), (.int t6), (.int t7)] := V13.keep Kc20 (ninS hq12 nin0)
  have F23_b3 : own_AL Z h20 b3 .int [(.int (0 : Int32)), (.int p1), (.int p2), (.int p3), (.int p4), (.int p5), (.int p6), (.int p7)] := F16_b3.keep Kc20 (ninS (Ne.symm hq23) nin0)
  refine own_aload X20 own_d_prog_38_method_13_code_178 rfl ?_
  refine own_getF X20 (host := "") (k := 2) (hw _ (List.mem_of_getElem? (i := 50) rfl)) F21_a rfl rfl own_d_prog_38_method_13_code_179 ?_
  intro T24 X24
  refine own_iload X24 own_d_prog_38_method_13_code_182 rfl ?_
  refine own_aload X24 own_d_prog_38_method_13_code_184 rfl ?_
  refine own_getF X24 (host := "") (k := 2) (hw _ (List.mem_of_getElem? (i := 50) rfl)) F21_a rfl rfl own_d_prog_38_method_13_code_185 ?_
  intro T25 X25
  refine own_iload X25 own_d_prog_38_method_13_code_188 rfl ?_
  refine own_ipush X25 own_d_prog_38_method_13_code_190 ?_
  refine own_iadd X25 own_d_prog_38_method_13_code_191 ?_
  refine own_aload X25 own_d_prog_38_method_13_code_192 rfl ?_
  refine own_getF X25 (host := "") (k := 4) (hw _ (List.mem_of_getElem? (i := 69) rfl)) F21_a rfl rfl own_d_prog_38_method_13_code_193 ?_
  intro T26 X26
  refine own_iload X26 own_d_prog_38_method_13_code_196 rfl ?_
  refine own_isub X26 own_d_prog_38_method_13_code_198 ?_
  refine own_acopy X26 [] 0 (hw _ (List.mem_of_getElem? (i := 71) rfl)) (hw _ (List.mem_of_getElem? (i := 74) rfl)) (hw _ (List.mem_of_getElem? (i := 72) rfl)) (hw _ (List.mem_of_getElem? (i := 73) rfl)) F23_b3 (by intro v hv; simp only [List.mem_cons, List.not_mem_nil, or_false] at hv; rcases hv with rfl | rfl | rfl | rfl | rfl | rfl | rfl | rfl <;> rfl) g3 (s' := 1) (d' := 2) (n' := 0) ⟨by decide, by decide⟩ ⟨by decide, by decide⟩ ⟨by decide, by decide⟩ (Nat.le_of_ble_eq_true rfl) (Nat.le_of_ble_eq_true rfl) own_d_prog_38_method_13_code_199 rfl (by decide) (by show 2 * 0 + _ ≤ _; exact Nat.le_of_eq rfl) (by decide) ?_
  intro T27 h27 X27 Kc27 V27
  replace V27 : own_AL Z h27 b3 .int [(.int (0 : Int32)), (.int p1), (.int p2), (.int p3), (.int p4), (.int p5), (.int p6), (.int p7)] := V27
  have K27 : Keep h0 h27 [a, b1, b2, b3] := K20.trans Kc27 (allS (P := fun z => z ∈ [a, b1, b2, b3] ∨ h0.size ≤ z) (Or.inl (by simp)) all0)
  have F28_a : own_Obj Z h27 a "com/example/depth2/depth2/PackedMarking" own_ns_Pm [(.ref b1), (.ref b2), (.ref b3), (.ref tb), (.int (1 : Int32))] := F21_a.keep Kc27 (ninS hn_a_b3 nin0)
  have F29_b1 : own_AL Z h27 b1 .int [(.int t0), (.int t1), (.int t2), (.int t3), (.int t4), (.int t5), (.int t6), (.int t7)] := F22_b1.keep Kc27 (ninS hq13 nin0)
  have F30_b2 : own_AL Z h27 b2 .int [(.int c0), (.int c1), (.int c2), (.int c3), (.int c4), (.int c5), (.int c6), (.int c7)] := V20.keep Kc27 (ninS hq23 nin0)
  refine own_aload X27 own_d_prog_38_method_13_code_202 rfl ?_
  refine own_getF X27 (host := "") (k := 0) (hw _ (List.mem_of_getElem? (i := 46) rfl)) F28_a rfl rfl own_d_prog_38_method_13_code_203 ?_
  intro T31 X31
  refine own_iload X31 own_d_prog_38_method_13_code_206 rfl ?_
  refine own_iload X31 own_d_prog_38_method_13_code_208 rfl ?_
  refine own_iastore X31 F29_b1 g1 (i := 1) ⟨by decide, by decide⟩ (Nat.le_of_ble_eq_true rfl) own_d_prog_38_method_13_code_209 ?_
  intro T32 h32 X32 W32 V32
  have K32 : Keep h0 h32 [a, b1, b2, b3] := K27.wr W32 (Or.inl (by simp))
  replace V32 : own_AL Z h32 b1 .int [(.int t0), (.int tk), (.int t2), (.int t3), (.int t4), (.int t5), (.int t6), (.int t7)] := V32
  have F33_a : own_Obj Z h32 a "com/example/depth2/depth2/PackedMarking" own_ns_Pm [(.ref b1), (.ref b2), (.ref b3), (.ref tb), (.int (1 : Int32))] := F28_a.other W32 hn_a_b1
  have F34_b2 : own_AL Z h32 b2 .int [(.int c0), (.int c1), (.int c2), (.int c3), (.int c4), (.int c5), (.int c6), (.int c7)] := F30_b2.other W32 (Ne.symm hq12)
  have F35_b3 : own_AL Z h32 b3 .int [(.int (0 : Int32)), (.int p1), (.int p2), (.int p3), (.int p4), (.int p5), (.int p6), (.int p7)] := V27.other W32 (Ne.symm hq13)
  refine own_aload X32 own_d_prog_38_method_13_code_210 rfl ?_
  refine own_getF X32 (host := "") (k := 1) (hw _ (List.mem_of_getElem? (i := 48) rfl)) F33_a rfl rfl own_d_prog_38_method_13_code_211 ?_
  intro T36 X36
  refine own_iload X36 own_d_prog_38_method_13_code_214 rfl ?_
  refine own_iload X36 own_d_prog_38_method_13_code_216 rfl ?_
  refine own_iastore X36 F34_b2 g2 (i := 1) ⟨by decide, by decide⟩ (Nat.le_of_ble_eq_true rfl) own_d_prog_38_method_13_code_217 ?_
  intro T37 h37 X37 W37 V37
  have K37 : Keep h0 h37 [a, b1, b2, b3] := K32.wr W37 (Or.inl (by simp))
  replace V37 : own_AL Z h37 b2 .int [(.int c0), (.int cp), (.int c2), (.int c3), (.int c4), (.int c5), (.int c6), (.int c7)] := V37
  have F38_a : own_Obj Z h37 a "com/example/depth2/depth2/PackedMarking" own_ns_Pm [(.ref b1), (.ref b2), (.ref b3), (.ref tb), (.int (1 : Int32))] := F33_a.other W37 hn_a_b2
  have F39_b1 : own_AL Z h37 b1 .int [(.int t0), (.int tk), (.int t2), (.int t3), (.int t4), (.int t5), (.int t6), (.int t7)] := V32.other W37 hq12
  have F40_b3 : own_AL Z h37 b3 .int [(.int (0 : Int32)), (.int p1), (.int p2), (.int p3), (.int p4), (.int p5), (.int p6), (.int p7)] := F35_b3.other W37 (Ne.symm hq23)
  refine own_aload X37 own_d_prog_38_method_13_code_218 rfl ?_
  refine own_getF X37 (host := "") (k := 2) (hw _ (List.mem_of_getElem? (i := 50) rfl)) F38_a rfl rfl own_d_prog_38_method_13_code_219 ?_
  intro T41 X41
  refine own_iload X41 own_d_prog_38_method_13_code_222 rfl ?_
  refine own_iload X41 own_d_prog_38_method_13_code_224 rfl ?_
  refine own_iastore X41 F40_b3 g3 (i := 1) ⟨by decide, by decide⟩ (Nat.le_of_ble_eq_true rfl) own_d_prog_38_method_13_code_225 ?_
  intro T42 h42 X42 W42 V42
  have K42 : Keep h0 h42 [a, b1, b2, b3] := K37.wr W42 (Or.inl (by simp))
  replace V42 : own_AL Z h42 b3 .int [(.int (0 : Int32)), (.int (0 : Int32)), (.int p2), (.int p3), (.int p4), (.int p5), (.int p6), (.int p7)] := V42
  have F43_a : own_Obj Z h42 a "com/example/depth2/depth2/PackedMarking" own_ns_Pm [(.ref b1), (.ref b2), (.ref b3), (.ref tb), (.int (1 : Int32))] := F38_a.other W42 hn_a_b3
  have F44_b1 : own_AL Z h42 b1 .int [(.int t0), (.int tk), (.int t2), (.int t3), (.int t4), (.int t5), (.int t6), (.int t7)] := F39_b1.other W42 hq13
  have F45_b2 : own_AL Z h42 b2 .int [(.int c0), (.int cp), (.int c2), (.int c3), (.int c4), (.int c5), (.int c6), (.int c7)] := V37.other W42 hq23
  refine own_aload X42 own_d_prog_38_method_13_code_226 rfl ?_
  refine own_dup X42 own_d_prog_38_method_13_code_227 rfl ?_
  refine own_getF X42 (host := "") (k := 4) (hw _ (List.mem_of_getElem? (i := 69) rfl)) F43_a rfl rfl own_d_prog_38_method_13_code_228 ?_
  intro T46 X46
  refine own_ipush X46 own_d_prog_38_method_13_code_231 ?_
  refine own_iadd X46 own_d_prog_38_method_13_code_232 ?_
  refine own_putF X46 (k := 4) (ty := .int) (hw _ (List.mem_of_getElem? (i := 69) rfl)) F43_a (own_laid_Pm hw) rfl (Or.inl (hw _ (List.mem_of_getElem? (i := 70) rfl))) (hw _ (List.mem_of_getElem? (i := 6) rfl)) (by decide) rfl rfl ga own_d_prog_38_method_13_code_233 ?_
  intro T47 h47 X47 W47 V47
  have K47 : Keep h0 h47 [a, b1, b2, b3] := K42.wr W47 (Or.inl (by simp))
  replace V47 : own_Obj Z h47 a "com/example/depth2/depth2/PackedMarking" own_ns_Pm [(.ref b1), (.ref b2), (.ref b3), (.ref tb), (.int ((1 : Int32) + (1 : Int32)))] := V47
  have F48_b1 : own_AL Z h47 b1 .int [(.int t0), (.int tk), (.int t2), (.int t3), (.int t4), (.int t5), (.int t6), (.int t7)] := F44_b1.other W47 (Ne.symm hn_a_b1)
  have F49_b2 : own_AL Z h47 b2 .int [(.int c0), (.int cp), (.int c2), (.int c3), (.int c4), (.int c5), (.int c6), (.int c7)] := F45_b2.other W47 (Ne.symm hn_a_b2)
  have F50_b3 : own_AL Z h47 b3 .int [(.int (0 : Int32)), (.int (0 : Int32)), (.int p2), (.int p3), (.int p4), (.int p5), (.int p6), (.int p7)] := V42.other W47 (Ne.symm hn_a_b3)
  have Ofin : own_Obj Z h47 a "com/example/depth2/depth2/PackedMarking" own_ns_Pm [(.ref b1), (.ref b2), (.ref b3), (.ref tb), (.int (2 : Int32))] := V47
  exact own_ret0 X47 hret fin (by decide) (by decide) ⟨rfl, K47, Ofin, F48_b1, F49_b2, F50_b3⟩ own_d_prog_38_method_13_code_236
set_option maxRecDepth 65536 in
set_option maxHeartbeats 40000000 in
theorem own_clear (l : Launch) (Z : State) (a0 : Array Value) (hw : ∀ d ∈ tables_1, d.before a0 Z = true) (a b1 b2 b3 tb : Addr) (u : Value) (h0 : Heap) (n0 : Nat) (Z0 : n0 ≤ h0.size) (O : own_Obj Z h0 a "com/example/depth2/depth2/PackedMarking" own_ns_Pm [(.ref b1), (.ref b2), (.ref b3), (.ref tb), u]) (ga : n0 ≤ a) :
    own_Con l Z n0 (⟨"com/example/depth2/depth2/PackedMarking", "clear", "()V"⟩ : MethodName) prog_38_method_8_code 1 none ({ frames := 0, cells := 0, slots := 0, locals := 0 } : Room) [] #[(.ref a)] h0 (fun v h' => v = none ∧ Keep h0 h' [a] ∧ own_Obj Z h' a "com/example/depth2/depth2/PackedMarking" own_ns_Pm [(.ref b1), (.ref b2), (.ref b3), (.ref tb), (.int (0 : Int32))]) := by
  refine own_enter (plainFor_of_name own_pn_com_example_depth2_depth2_PackedMarking) Z0 #[.val (.ref a)] (fun m => by first | (simp [entryFrame, mkF, argsToLocals, Value.category]; done) | rfl) ?_
  intro p e s m below meth c T A X0 hret hnm fin
  refine own_aload X0 own_d_prog_38_method_8_code_0 rfl ?_
  refine own_ipush X0 own_d_prog_38_method_8_code_1 ?_
  refine own_putF X0 (k := 4) (ty := .int) (hw _ (List.mem_of_getElem? (i := 69) rfl)) O (own_laid_Pm hw) rfl (Or.inl (hw _ (List.mem_of_getElem? (i := 70) rfl))) (hw _ (List.mem_of_getElem? (i := 6) rfl)) (by decide) rfl rfl ga own_d_prog_38_method_8_code_2 ?_
  intro T1 h1 X1 W1 V1
  have K1 : Keep h0 h1 [a] := (Keep.refl h0 [a]).wr W1 (Or.inl (by simp))
  replace V1 : own_Obj Z h1 a "com/example/depth2/depth2/PackedMarking" own_ns_Pm [(.ref b1), (.ref b2), (.ref b3), (.ref tb), (.int (0 : Int32))] := V1
  exact own_ret0 X1 hret fin (by decide) (by decide) ⟨rfl, K1, V1⟩ own_d_prog_38_method_8_code_5
set_option maxRecDepth 65536 in
set_option maxHeartbeats 40000000 in
theorem own_hash0 (l : Launch) (Z : State) (a0 : Array Value) (hw : ∀ d ∈ tables_1, d.before a0 Z = true) (a b1 b2 b3 tb : Addr) (t0 c0 t1 c1 t2 c2 t3 c3 t4 c4 t5 c5 t6 c6 t7 c7 : Int32) (h0 : Heap) (n0 : Nat) (Z0 : n0 ≤ h0.size) (O : own_Obj Z h0 a "com/example/depth2/depth2/PackedMarking" own_ns_Pm [(.ref b1), (.ref b2), (.ref b3), (.ref tb), (.int (0 : Int32))]) (V1 : own_AL Z h0 b1 .int [(.int t0), (.int t1), (.int t2), (.int t3), (.int t4), (.int t5), (.int t6), (.int t7)]) (V2 : own_AL Z h0 b2 .int [(.int c0), (.int c1), (.int c2), (.int c3), (.int c4), (.int c5), (.int c6), (.int c7)]) :
    own_Con l Z n0 (⟨"com/example/depth2/depth2/PackedMarking", "hash", "()J"⟩ : MethodName) prog_38_method_15_code 4 (some .long) ({ frames := 0, cells := 0, slots := 0, locals := 0 } : Room) [] #[(.ref a)] h0 (fun v h' => v = some (.long ((0 : Int32).toInt64)) ∧ h' = h0) := by
  refine own_enter (plainFor_of_name own_pn_com_example_depth2_depth2_PackedMarking) Z0 #[.val (.ref a), .unset, .unset, .unset] (fun m => by first | (simp [entryFrame, mkF, argsToLocals, Value.category]; done) | rfl) ?_
  intro p e s m below meth c T A X0 hret hnm fin
  refine own_aload X0 own_d_prog_38_method_15_code_0 rfl ?_
  refine own_getF X0 (host := "") (k := 4) (hw _ (List.mem_of_getElem? (i := 69) rfl)) O rfl rfl own_d_prog_38_method_15_code_1 ?_
  intro T1 X1
  refine own_i2l X1 own_d_prog_38_method_15_code_4 ?_
  refine own_lstore X1 #[.val (.ref a), .val (.long (((0 : Int32)).toInt64)), .second, .unset] own_d_prog_38_method_15_code_5 rfl ?_
  refine own_ipush X1 own_d_prog_38_method_15_code_6 ?_
  refine own_istore X1 #[.val (.ref a), .val (.long (((0 : Int32)).toInt64)), .second, .val (.int (0 : Int32))] own_d_prog_38_method_15_code_7 rfl ?_
  refine own_iload X1 own_d_prog_38_method_15_code_8 rfl ?_
  refine own_aload X1 own_d_prog_38_method_15_code_9 rfl ?_
  refine own_getF X1 (host := "") (k := 4) (hw _ (List.mem_of_getElem? (i := 69) rfl)) O rfl rfl own_d_prog_38_method_15_code_10 ?_
  intro T2 X2
  refine own_icYes X2 own_d_prog_38_method_15_code_13 (flt (by decide)).2.1 ?_
  refine own_lload X2 own_d_prog_38_method_15_code_54 rfl ?_
  exact own_retJ X2 hret fin (by decide) (by decide) ⟨rfl, rfl⟩ own_d_prog_38_method_15_code_55
set_option maxRecDepth 65536 in
set_option maxHeartbeats 40000000 in
theorem own_hash1 (l : Launch) (Z : State) (a0 : Array Value) (hw : ∀ d ∈ tables_1, d.before a0 Z = true) (a b1 b2 b3 tb : Addr) (t0 c0 t1 c1 t2 c2 t3 c3 t4 c4 t5 c5 t6 c6 t7 c7 : Int32) (h0 : Heap) (n0 : Nat) (Z0 : n0 ≤ h0.size) (O : own_Obj Z h0 a "com/example/depth2/depth2/PackedMarking" own_ns_Pm [(.ref b1), (.ref b2), (.ref b3), (.ref tb), (.int (1 : Int32))]) (V1 : own_AL Z h0 b1 .int [(.int t0), (.int t1), (.int t2), (.int t3), (.int t4), (.int t5), (.int t6), (.int t7)]) (V2 : own_AL Z h0 b2 .int [(.int c0), (.int c1), (.int c2), (.int c3), (.int c4), (.int c5), (.int c6), (.int c7)]) :
    own_Con l Z n0 (⟨"com/example/depth2/depth2/PackedMarking", "hash", "()J"⟩ : MethodName) prog_38_method_15_code 4 (some .long) ({ frames := 0, cells := 0, slots := 0, locals := 0 } : Room) [] #[(.ref a)] h0 (fun v h' => v = some (.long (own_hs ((1 : Int32).toInt64) t0 c0)) ∧ h' = h0) := by
  refine own_enter (plainFor_of_name own_pn_com_example_depth2_depth2_PackedMarking) Z0 #[.val (.ref a), .unset, .unset, .unset] (fun m => by first | (simp [entryFrame, mkF, argsToLocals, Value.category]; done) | rfl) ?_
  intro p e s m below meth c T A X0 hret hnm fin
  refine own_aload X0 own_d_prog_38_method_15_code_0 rfl ?_
  refine own_getF X0 (host := "") (k := 4) (hw _ (List.mem_of_getElem? (i := 69) rfl)) O rfl rfl own_d_prog_38_method_15_code_1 ?_
  intro T1 X1
  refine own_i2l X1 own_d_prog_38_method_15_code_4 ?_
  refine own_lstore X1 #[.val (.ref a), .val (.long (((1 : Int32)).toInt64)), .second, .unset] own_d_prog_38_method_15_code_5 rfl ?_
  refine own_ipush X1 own_d_prog_38_method_15_code_6 ?_
  refine own_istore X1 #[.val (.ref a), .val (.long (((1 : Int32)).toInt64)), .second, .val (.int (0 : Int32))] own_d_prog_38_method_15_code_7 rfl ?_
  refine own_iload X1 own_d_prog_38_method_15_code_8 rfl ?_
  refine own_aload X1 own_d_prog_38_method_15_code_9 rfl ?_
  refine own_getF X1 (host := "") (k := 4) (hw _ (List.mem_of_getElem? (i := 69) rfl)) O rfl rfl own_d_prog_38_method_15_code_10 ?_
  intro T2 X2
  refine own_icNo X2 own_d_prog_38_method_15_code_13 (tlt (by decide)).2.1 ?_
  refine own_lload X2 own_d_prog_38_method_15_code_16 rfl ?_
  refine own_aload X2 own_d_prog_38_method_15_code_17 rfl ?_
  refine own_getF X2 (host := "") (k := 0) (hw _ (List.mem_of_getElem? (i := 46) rfl)) O rfl rfl own_d_prog_38_method_15_code_18 ?_
  intro T3 X3
  refine own_iload X3 own_d_prog_38_method_15_code_21 rfl ?_
  refine own_iaload X3 V1 (i := 0) ⟨by decide, by decide⟩ rfl own_d_prog_38_method_15_code_22 ?_
  refine own_i2l X3 own_d_prog_38_method_15_code_23 ?_
  refine own_ipush X3 own_d_prog_38_method_15_code_24 ?_
  refine own_lshl X3 own_d_prog_38_method_15_code_26 ?_
  refine own_aload X3 own_d_prog_38_method_15_code_27 rfl ?_
  refine own_getF X3 (host := "") (k := 1) (hw _ (List.mem_of_getElem? (i := 48) rfl)) O rfl rfl own_d_prog_38_method_15_code_28 ?_
  intro T4 X4
  refine own_iload X4 own_d_prog_38_method_15_code_31 rfl ?_
  refine own_iaload X4 V2 (i := 0) ⟨by decide, by decide⟩ rfl own_d_prog_38_method_15_code_32 ?_
  refine own_i2l X4 own_d_prog_38_method_15_code_33 ?_
  refine own_lor X4 own_d_prog_38_method_15_code_34 ?_
  refine own_lxor X4 own_d_prog_38_method_15_code_35 ?_
  refine own_ldc2 X4 (hw _ (List.mem_of_getElem? (i := 91) rfl)) own_d_prog_38_method_15_code_36 ?_
  refine own_lmul X4 own_d_prog_38_method_15_code_39 ?_
  refine own_lstore X4 #[.val (.ref a), .val (.long (((((1 : Int32)).toInt64) ^^^ ((own_Lshl ((t0).toInt64) (32 : Int32)) ||| ((c0).toInt64))) * (-7046029254386353131 : Int64))), .second, .val (.int (0 : Int32))] own_d_prog_38_method_15_code_40 rfl ?_
  refine own_lload X4 own_d_prog_38_method_15_code_41 rfl ?_
  refine own_lload X4 own_d_prog_38_method_15_code_42 rfl ?_
  refine own_ipush X4 own_d_prog_38_method_15_code_43 ?_
  refine own_lushr X4 own_d_prog_38_method_15_code_45 ?_
  refine own_lxor X4 own_d_prog_38_method_15_code_46 ?_
  refine own_lstore X4 #[.val (.ref a), .val (.long ((((((1 : Int32)).toInt64) ^^^ ((own_Lshl ((t0).toInt64) (32 : Int32)) ||| ((c0).toInt64))) * (-7046029254386353131 : Int64)) ^^^ (own_Lushr (((((1 : Int32)).toInt64) ^^^ ((own_Lshl ((t0).toInt64) (32 : Int32)) ||| ((c0).toInt64))) * (-7046029254386353131 : Int64)) (29 : Int32)))), .second, .val (.int (0 : Int32))] own_d_prog_38_method_15_code_47 rfl ?_
  refine own_iinc X4 #[.val (.ref a), .val (.long ((((((1 : Int32)).toInt64) ^^^ ((own_Lshl ((t0).toInt64) (32 : Int32)) ||| ((c0).toInt64))) * (-7046029254386353131 : Int64)) ^^^ (own_Lushr (((((1 : Int32)).toInt64) ^^^ ((own_Lshl ((t0).toInt64) (32 : Int32)) ||| ((c0).toInt64))) * (-7046029254386353131 : Int64)) (29 : Int32)))), .second, .val (.int (1 : Int32))] own_d_prog_38_method_15_code_48 rfl rfl ?_
  refine own_goto X4 own_d_prog_38_method_15_code_51 ?_
  refine own_iload X4 own_d_prog_38_method_15_code_8 rfl ?_
  refine own_aload X4 own_d_prog_38_method_15_code_9 rfl ?_
  refine own_getF X4 (host := "") (k := 4) (hw _ (List.mem_of_getElem? (i := 69) rfl)) O rfl rfl own_d_prog_38_method_15_code_10 ?_
  intro T5 X5
  refine own_icYes X5 own_d_prog_38_method_15_code_13 (flt (by decide)).2.1 ?_
  refine own_lload X5 own_d_prog_38_method_15_code_54 rfl ?_
  exact own_retJ X5 hret fin (by decide) (by decide) ⟨rfl, rfl⟩ own_d_prog_38_method_15_code_55
set_option maxRecDepth 65536 in
set_option maxHeartbeats 40000000 in
theorem own_hash2 (l : Launch) (Z : State) (a0 : Array Value) (hw : ∀ d ∈ tables_1, d.before a0 Z = true) (a b1 b2 b3 tb : Addr) (t0 c0 t1 c1 t2 c2 t3 c3 t4 c4 t5 c5 t6 c6 t7 c7 : Int32) (h0 : Heap) (n0 : Nat) (Z0 : n0 ≤ h0.size) (O : own_Obj Z h0 a "com/example/depth2/depth2/PackedMarking" own_ns_Pm [(.ref b1), (.ref b2), (.ref b3), (.ref tb), (.int (2 : Int32))]) (V1 : own_AL Z h0 b1 .int [(.int t0), (.int t1), (.int t2), (.int t3), (.int t4), (.int t5), (.int t6), (.int t7)]) (V2 : own_AL Z h0 b2 .int [(.int c0), (.int c1), (.int c2), (.int c3), (.int c4), (.int c5), (.int c6), (.int c7)]) :
    own_Con l Z n0 (⟨"com/example/depth2/depth2/PackedMarking", "hash", "()J"⟩ : MethodName) prog_38_method_15_code 4 (some .long) ({ frames := 0, cells := 0, slots := 0, locals := 0 } : Room) [] #[(.ref a)] h0 (fun v h' => v = some (.long (own_hs (own_hs ((2 : Int32).toInt64) t0 c0) t1 c1)) ∧ h' = h0) := by
  refine own_enter (plainFor_of_name own_pn_com_example_depth2_depth2_PackedMarking) Z0 #[.val (.ref a), .unset, .unset, .unset] (fun m => by first | (simp [entryFrame, mkF, argsToLocals, Value.category]; done) | rfl) ?_
  intro p e s m below meth c T A X0 hret hnm fin
  refine own_aload X0 own_d_prog_38_method_15_code_0 rfl ?_
  refine own_getF X0 (host := "") (k := 4) (hw _ (List.mem_of_getElem? (i := 69) rfl)) O rfl rfl own_d_prog_38_method_15_code_1 ?_
  intro T1 X1
  refine own_i2l X1 own_d_prog_38_method_15_code_4 ?_
  refine own_lstore X1 #[.val (.ref a), .val (.long (((2 : Int32)).toInt64)), .second, .unset] own_d_prog_38_method_15_code_5 rfl ?_
  refine own_ipush X1 own_d_prog_38_method_15_code_6 ?_
  refine own_istore X1 #[.val (.ref a), .val (.long (((2 : Int32)).toInt64)), .second, .val (.int (0 : Int32))] own_d_prog_38_method_15_code_7 rfl ?_
  refine own_iload X1 own_d_prog_38_method_15_code_8 rfl ?_
  refine own_aload X1 own_d_prog_38_method_15_code_9 rfl ?_
  refine own_getF X1 (host := "") (k := 4) (hw _ (List.mem_of_getElem? (i := 69) rfl)) O rfl rfl own_d_prog_38_method_15_code_10 ?_
  intro T2 X2
  refine own_icNo X2 own_d_prog_38_method_15_code_13 (tlt (by decide)).2.1 ?_
  refine own_lload X2 own_d_prog_38_method_15_code_16 rfl ?_
  refine own_aload X2 own_d_prog_38_method_15_code_17 rfl ?_
  refine own_getF X2 (host := "") (k := 0) (hw _ (List.mem_of_getElem? (i := 46) rfl)) O rfl rfl own_d_prog_38_method_15_code_18 ?_
  intro T3 X3
  refine own_iload X3 own_d_prog_38_method_15_code_21 rfl ?_
  refine own_iaload X3 V1 (i := 0) ⟨by decide, by decide⟩ rfl own_d_prog_38_method_15_code_22 ?_
  refine own_i2l X3 own_d_prog_38_method_15_code_23 ?_
  refine own_ipush X3 own_d_prog_38_method_15_code_24 ?_
  refine own_lshl X3 own_d_prog_38_method_15_code_26 ?_
  refine own_aload X3 own_d_prog_38_method_15_code_27 rfl ?_
  refine own_getF X3 (host := "") (k := 1) (hw _ (List.mem_of_getElem? (i := 48) rfl)) O rfl rfl own_d_prog_38_method_15_code_28 ?_
  intro T4 X4
  refine own_iload X4 own_d_prog_38_method_15_code_31 rfl ?_
  refine own_iaload X4 V2 (i := 0) ⟨by decide, by decide⟩ rfl own_d_prog_38_method_15_code_32 ?_
  refine own_i2l X4 own_d_prog_38_method_15_code_33 ?_
  refine own_lor X4 own_d_prog_38_method_15_code_34 ?_
  refine own_lxor X4 own_d_prog_38_method_15_code_35 ?_
  refine own_ldc2 X4 (hw _ (List.mem_of_getElem? (i := 91) rfl)) own_d_prog_38_method_15_code_36 ?_
  refine own_lmul X4 own_d_prog_38_method_15_code_39 ?_
  refine own_lstore X4 #[.val (.ref a), .val (.long (((((2 : Int32)).toInt64) ^^^ ((own_Lshl ((t0).toInt64) (32 : Int32)) ||| ((c0).toInt64))) * (-7046029254386353131 : Int64))), .second, .val (.int (0 : Int32))] own_d_prog_38_method_15_code_40 rfl ?_
  refine own_lload X4 own_d_prog_38_method_15_code_41 rfl ?_
  refine own_lload X4 own_d_prog_38_method_15_code_42 rfl ?_
  refine own_ipush X4 own_d_prog_38_method_15_code_43 ?_
  refine own_lushr X4 own_d_prog_38_method_15_code_45 ?_
  refine own_lxor X4 own_d_prog_38_method_15_code_46 ?_
  refine own_lstore X4 #[.val (.ref a), .val (.long ((((((2 : Int32)).toInt64) ^^^ ((own_Lshl ((t0).toInt64) (32 : Int32)) ||| ((c0).toInt64))) * (-7046029254386353131 : Int64)) ^^^ (own_Lushr (((((2 : Int32)).toInt64) ^^^ ((own_Lshl ((t0).toInt64) (32 : Int32)) ||| ((c0).toInt64))) * (-7046029254386353131 : Int64)) (29 : Int32)))), .second, .val (.int (0 : Int32))] own_d_prog_38_method_15_code_47 rfl ?_
  refine own_iinc X4 #[.val (.ref a), .val (.long ((((((2 : Int32)).toInt64) ^^^ ((own_Lshl ((t0).toInt64) (32 : Int32)) ||| ((c0).toInt64))) * (-7046029254386353131 : Int64)) ^^^ (own_Lushr (((((2 : Int32)).toInt64) ^^^ ((own_Lshl ((t0).toInt64) (32 : Int32)) ||| ((c0).toInt64))) * (-7046029254386353131 : Int64)) (29 : Int32)))), .second, .val (.int (1 : Int32))] own_d_prog_38_method_15_code_48 rfl rfl ?_
  refine own_goto X4 own_d_prog_38_method_15_code_51 ?_
  refine own_iload X4 own_d_prog_38_method_15_code_8 rfl ?_
  refine own_aload X4 own_d_prog_38_method_15_code_9 rfl ?_
  refine own_getF X4 (host := "") (k := 4) (hw _ (List.mem_of_getElem? (i := 69) rfl)) O rfl rfl own_d_prog_38_method_15_code_10 ?_
  intro T5 X5
  refine own_icNo X5 own_d_prog_38_method_15_code_13 (tlt (by decide)).2.1 ?_
  refine own_lload X5 own_d_prog_38_method_15_code_16 rfl ?_
  refine own_aload X5 own_d_prog_38_method_15_code_17 rfl ?_
  refine own_getF X5 (host := "") (k := 0) (hw _ (List.mem_of_getElem? (i := 46) rfl)) O rfl rfl own_d_prog_38_method_15_code_18 ?_
  intro T6 X6
  refine own_iload X6 own_d_prog_38_method_15_code_21 rfl ?_
  refine own_iaload X6 V1 (i := 1) ⟨by decide, by decide⟩ rfl own_d_prog_38_method_15_code_22 ?_
  refine own_i2l X6 own_d_prog_38_method_15_code_23 ?_
  refine own_ipush X6 own_d_prog_38_method_15_code_24 ?_
  refine own_lshl X6 own_d_prog_38_method_15_code_26 ?_
  refine own_aload X6 own_d_prog_38_method_15_code_27 rfl ?_
  refine own_getF X6 (host := "") (k := 1) (hw _ (List.mem_of_getElem? (i := 48) rfl)) O rfl rfl own_d_prog_38_method_15_code_28 ?_
  intro T7 X7
  refine own_iload X7 own_d_prog_38_method_15_code_31 rfl ?_
  refine own_iaload X7 V2 (i := 1) ⟨by decide, by decide⟩ rfl own_d_prog_38_method_15_code_32 ?_
  refine own_i2l X7 own_d_prog_38_method_15_code_33 ?_
  refine own_lor X7 own_d_prog_38_method_15_code_34 ?_
  refine own_lxor X7 own_d_prog_38_method_15_code_35 ?_
  refine own_ldc2 X7 (hw _ (List.mem_of_getElem? (i := 91) rfl)) own_d_prog_38_method_15_code_36 ?_
  refine own_lmul X7 own_d_prog_38_method_15_code_39 ?_
  refine own_lstore X7 #[.val (.ref a), .val (.long ((((((((2 : Int32)).toInt64) ^^^ ((own_Lshl ((t0).toInt64) (32 : Int32)) ||| ((c0).toInt64))) * (-7046029254386353131 : Int64)) ^^^ (own_Lushr (((((2 : Int32)).toInt64) ^^^ ((own_Lshl ((t0).toInt64) (32 : Int32)) ||| ((c0).toInt64))) * (-7046029254386353131 : Int64)) (29 : Int32))) ^^^ ((own_Lshl ((t1).toInt64) (32 : Int32)) ||| ((c1).toInt64))) * (-7046029254386353131 : Int64))), .second, .val (.int (1 : Int32))] own_d_prog_38_method_15_code_40 rfl ?_
  refine own_lload X7 own_d_prog_38_method_15_code_41 rfl ?_
  refine own_lload X7 own_d_prog_38_method_15_code_42 rfl ?_
  refine own_ipush X7 own_d_prog_38_method_15_code_43 ?_
  refine own_lushr X7 own_d_prog_38_method_15_code_45 ?_
  refine own_lxor X7 own_d_prog_38_method_15_code_46 ?_
  refine own_lstore X7 #[.val (.ref a), .val (.long (((((((((2 : Int32)).toInt64) ^^^ ((own_Lshl ((t0).toInt64) (32 : Int32)) ||| ((c0).toInt64))) * (-7046029254386353131 : Int64)) ^^^ (own_Lushr (((((2 : Int32)).toInt64) ^^^ ((own_Lshl ((t0).toInt64) (32 : Int32)) ||| ((c0).toInt64))) * (-7046029254386353131 : Int64)) (29 : Int32))) ^^^ ((own_Lshl ((t1).toInt64) (32 : Int32)) ||| ((c1).toInt64))) * (-7046029254386353131 : Int64)) ^^^ (own_Lushr ((((((((2 : Int32)).toInt64) ^^^ ((own_Lshl ((t0).toInt64) (32 : Int32)) ||| ((c0).toInt64))) * (-7046029254386353131 : Int64)) ^^^ (own_Lushr (((((2 : Int32)).toInt64) ^^^ ((own_Lshl ((t0).toInt64) (32 : Int32)) ||| ((c0).toInt64))) * (-7046029254386353131 : Int64)) (29 : Int32))) ^^^ ((own_Lshl ((t1).toInt64) (32 : Int32)) ||| ((c1).toInt64))) * (-7046029254386353131 : Int64)) (29 : Int32)))), .second, .val (.int (1 : Int32))] own_d_prog_38_method_15_code_47 rfl ?_
  refine own_iinc X7 #[.val (.ref a), .val (.long (((((((((2 : Int32)).toInt64) ^^^ ((own_Lshl ((t0).toInt64) (32 : Int32)) ||| ((c0).toInt64))) * (-7046029254386353131 : Int64)) ^^^ (own_Lushr (((((2 : Int32)).toInt64) ^^^ ((own_Lshl ((t0).toInt64) (32 : Int32)) ||| ((c0).toInt64))) * (-7046029254386353131 : Int64)) (29 : Int32))) ^^^ ((own_Lshl ((t1).toInt64) (32 : Int32)) ||| ((c1).toInt64))) * (-7046029254386353131 : Int64)) ^^^ (own_Lushr ((((((((2 : Int32)).toInt64) ^^^ ((own_Lshl ((t0).toInt64) (32 : Int32)) ||| ((c0).toInt64))) * (-7046029254386353131 : Int64)) ^^^ (own_Lushr (((((2 : Int32)).toInt64) ^^^ ((own_Lshl ((t0).toInt64) (32 : Int32)) ||| ((c0).toInt64))) * (-7046029254386353131 : Int64)) (29 : Int32))) ^^^ ((own_Lshl ((t1).toInt64) (32 : Int32)) ||| ((c1).toInt64))) * (-7046029254386353131 : Int64)) (29 : Int32)))), .second, .val (.int (2 : Int32))] own_d_prog_38_method_15_code_48 rfl rfl ?_
  refine own_goto X7 own_d_prog_38_method_15_code_51 ?_
  refine own_iload X7 own_d_prog_38_method_15_code_8 rfl ?_
  refine own_aload X7 own_d_prog_38_method_15_code_9 rfl ?_
  refine own_getF X7 (host := "") (k := 4) (hw _ (List.mem_of_getElem? (i := 69) rfl)) O rfl rfl own_d_prog_38_method_15_code_10 ?_
  intro T8 X8
  refine own_icYes X8 own_d_prog_38_method_15_code_13 (flt (by decide)).2.1 ?_
  refine own_lload X8 own_d_prog_38_method_15_code_54 rfl ?_
  exact own_retJ X8 hret fin (by decide) (by decide) ⟨rfl, rfl⟩ own_d_prog_38_method_15_code_55
set_option maxRecDepth 65536 in
set_option maxHeartbeats 40000000 in
theorem own_step (l : Launch) (Z : State) (a0 : Array Value) (hw : ∀ d ∈ tables_1, d.before a0 Z = true) (q : Int64) (t0 c0 : Int32) (h0 : Heap) (n0 : Nat) (Z0 : n0 ≤ h0.size)  :
    own_Con l Z n0 (⟨"com/example/depth2/depth2/PackedMarkingHashPinLaw", "step", "(JII)J"⟩ : MethodName) method_2_code 6 (some .long) ({ frames := 0, cells := 0, slots := 0, locals := 0 } : Room) [] #[(.long q), (.int t0), (.int c0)] h0 (fun v h' => v = some (.long (own_stp q t0 c0)) ∧ h' = h0) := by
  refine own_enter (plainFor_of_name own_pn_com_example_depth2_depth2_PackedMarkingHashPinLaw) Z0 #[.val (.long q), .second, .val (.int t0), .val (.int c0), .unset, .unset] (fun m => by first | (simp [entryFrame, mkF, argsToLocals, Value.category]; done) | rfl) ?_
  intro p e s m below meth c T A X0 hret hnm fin
  refine own_lload X0 own_d_method_2_code_0 rfl ?_
  refine own_iload X0 own_d_method_2_code_1 rfl ?_
  refine own_i2l X0 own_d_method_2_code_2 ?_
  refine own_ldc2 X0 (hw _ (List.mem_of_getElem? (i := 89) rfl)) own_d_method_2_code_3 ?_
  refine own_lmul X0 own_d_method_2_code_6 ?_
  refine own_iload X0 own_d_method_2_code_7 rfl ?_
  refine own_i2l X0 own_d_method_2_code_8 ?_
  refine own_ladd X0 own_d_method_2_code_9 ?_
  refine own_lxor X0 own_d_method_2_code_10 ?_
  refine own_ldc2 X0 (hw _ (List.mem_of_getElem? (i := 90) rfl)) own_d_method_2_code_11 ?_
  refine own_lmul X0 own_d_method_2_code_14 ?_
  refine own_lstore X0 #[.val (.long q), .second, .val (.int t0), .val (.int c0), .val (.long ((q ^^^ ((((t0).toInt64) * (4294967296 : Int64)) + ((c0).toInt64))) * (-7046029254386353131 : Int64))), .second] own_d_method_2_code_15 rfl ?_
  refine own_lload X0 own_d_method_2_code_17 rfl ?_
  refine own_lload X0 own_d_method_2_code_19 rfl ?_
  refine own_ipush X0 own_d_method_2_code_21 ?_
  refine own_lushr X0 own_d_method_2_code_23 ?_
  refine own_lxor X0 own_d_method_2_code_24 ?_
  exact own_retJ X0 hret fin (by decide) (by decide) ⟨rfl, rfl⟩ own_d_method_2_code_25
set_option maxRecDepth 65536 in
set_option maxHeartbeats 40000000 in
theorem own_law (l : Launch) (Z : State) (a0 : Array Value) (hw : ∀ d ∈ tables_1, d.before a0 Z = true) (i0 i1 i2 i3 i4 i5 : Int32) (h0 : Heap) (n0 : Nat) (Z0 : n0 ≤ h0.size)  :
    own_Con l Z n0 x code maxLocals ret room_1 tables_1 #[(.int i0), (.int i1), (.int i2), (.int i3), (.int i4), (.int i5)] h0 (fun v _ => v = some (.int 1)) := by
  refine own_enter (plainFor_of_name own_pn_com_example_depth2_depth2_PackedMarkingHashPinLaw) Z0 #[.val (.int i0), .val (.int i1), .val (.int i2), .val (.int i3), .val (.int i4), .val (.int i5), .unset, .unset, .unset, .unset, .unset, .unset, .unset, .unset, .unset, .unset, .unset, .unset, .unset, .unset] (fun m => by first | (simp [entryFrame, mkF, argsToLocals, Value.category, maxLocals]; done) | rfl) ?_
  intro p e s m below meth c T A X0 hret hnm fin
  refine own_iload X0 own_d_code_0 rfl ?_
  refine own_ldc X0 (hw _ (List.mem_of_getElem? (i := 0) rfl)) own_d_code_1 ?_
  refine own_iand X0 own_d_code_3 ?_
  refine own_ipush X0 own_d_code_4 ?_
  refine own_irem X0 own_d_code_5 (by decide) ?_
  generalize hnn : ((i0 &&& (2147483647 : Int32)) % (3 : Int32)) = nn
  obtain ⟨n, ln, nn_⟩ : ∃ k, k < 3 ∧ own_idx nn k := by rw [← hnn]; exact own_mod_idx i0 3 3 ⟨by decide, by decide⟩ (by decide)
  refine own_istore X0 #[.val (.int i0), .val (.int i1), .val (.int i2), .val (.int i3), .val (.int i4), .val (.int i5), .val (.int nn), .unset, .unset, .unset, .unset, .unset, .unset, .unset, .unset, .unset, .unset, .unset, .unset, .unset] own_d_code_6 rfl ?_
  refine own_iload X0 own_d_code_8 rfl ?_
  refine own_ipush X0 own_d_code_9 ?_
  refine own_iand X0 own_d_code_11 ?_
  generalize hta : (i1 &&& (15 : Int32)) = ta
  obtain ⟨ka, lka, ta_⟩ : ∃ k, k < 2 ^ 4 ∧ own_idx ta k := by rw [← hta]; exact own_b15 i1
  refine own_istore X0 #[.val (.int i0), .val (.int i1), .val (.int i2), .val (.int i3), .val (.int i4), .val (.int i5), .val (.int nn), .val (.int ta), .unset, .unset, .unset, .unset, .unset, .unset, .unset, .unset, .unset, .unset, .unset, .unset] own_d_code_12 rfl ?_
  refine own_iload X0 own_d_code_14 rfl ?_
  refine own_ipush X0 own_d_code_16 ?_
  refine own_iadd X0 own_d_code_17 ?_
  refine own_iload X0 own_d_code_18 rfl ?_
  refine own_ipush X0 own_d_code_19 ?_
  refine own_iand X0 own_d_code_21 ?_
  refine own_iadd X0 own_d_code_22 ?_
  refine own_ipush X0 own_d_code_23 ?_
  refine own_iand X0 own_d_code_25 ?_
  generalize htb : (((ta + (1 : Int32)) + (i3 &&& (14 : Int32))) &&& (15 : Int32)) = tb
  obtain ⟨kb, lkb, tb_, kne⟩ : ∃ q, q < 16 ∧ own_idx tb q ∧ q ≠ ka := by rw [← htb]; exact own_next ta i3 ka ta_ lka
  refine own_istore X0 #[.val (.int i0), .val (.int i1), .val (.int i2), .val (.int i3), .val (.int i4), .val (.int i5), .val (.int nn), .val (.int ta), .val (.int tb), .unset, .unset, .unset, .unset, .unset, .unset, .unset, .unset, .unset, .unset, .unset] own_d_code_26 rfl ?_
  refine own_iload X0 own_d_code_28 rfl ?_
  refine own_ipush X0 own_d_code_30 ?_
  refine own_iand X0 own_d_code_32 ?_
  generalize hts : (i5 &&& (15 : Int32)) = ts
  obtain ⟨ks, lks, ts_⟩ : ∃ k, k < 2 ^ 4 ∧ own_idx ts k := by rw [← hts]; exact own_b15 i5
  refine own_istore X0 #[.val (.int i0), .val (.int i1), .val (.int i2), .val (.int i3), .val (.int i4), .val (.int i5), .val (.int nn), .val (.int ta), .val (.int tb), .val (.int ts), .unset, .unset, .unset, .unset, .unset, .unset, .unset, .unset, .unset, .unset] own_d_code_33 rfl ?_
  refine own_ipush X0 own_d_code_35 ?_
  refine own_iload X0 own_d_code_36 rfl ?_
  refine own_ldc X0 (hw _ (List.mem_of_getElem? (i := 0) rfl)) own_d_code_37 ?_
  refine own_iand X0 own_d_code_39 ?_
  refine own_callS X0 (y := (⟨"java/lang/Math", "max", "(II)I"⟩ : MethodName)) [(.int (1 : Int32)), (.int (i2 &&& (2147483647 : Int32)))] [] 0 rfl (hw _ (List.mem_of_getElem? (i := 1) rfl)) (hw _ (List.mem_of_getElem? (i := 2) rfl)) (hw _ (List.mem_of_getElem? (i := 3) rfl)) (hw _ (List.mem_of_getElem? (i := 4) rfl)) (by decide) (own_max l Z a0 hw (1 : Int32) (i2 &&& (2147483647 : Int32)) h0 n0 X0.sz) own_d_code_40 own_pd__II_I rfl rfl (by show 2 * 0 + _ ≤ _; exact Nat.le_of_eq rfl) (by decide) (by decide) (by decide) (by decide) ?_
  intro T1 h1 v1 X1 P1
  obtain ⟨rfl, eh1⟩ := P1
  rw [eh1] at X1
  show own_Wins p e below A T1 (mkF m 43 #[.val (.int i0), .val (.int i1), .val (.int i2), .val (.int i3), .val (.int i4), .val (.int i5), .val (.int nn), .val (.int ta), .val (.int tb), .val (.int ts), .unset, .unset, .unset, .unset, .unset, .unset, .unset, .unset, .unset, .unset] [(.int (own_mx (1 : Int32) (i2 &&& (2147483647 : Int32))))])
  generalize hca : (own_mx (1 : Int32) (i2 &&& (2147483647 : Int32))) = ca
  have pca : 0 < ca := by rw [← hca]; exact own_mx_pos _
  refine own_istore X1 #[.val (.int i0), .val (.int i1), .val (.int i2), .val (.int i3), .val (.int i4), .val (.int i5), .val (.int nn), .val (.int ta), .val (.int tb), .val (.int ts), .val (.int ca), .unset, .unset, .unset, .unset, .unset, .unset, .unset, .unset, .unset] own_d_code_43 rfl ?_
  refine own_ipush X1 own_d_code_45 ?_
  refine own_iload X1 own_d_code_46 rfl ?_
  refine own_ldc X1 (hw _ (List.mem_of_getElem? (i := 0) rfl)) own_d_code_48 ?_
  refine own_iand X1 own_d_code_50 ?_
  refine own_callS X1 (y := (⟨"java/lang/Math", "max", "(II)I"⟩ : MethodName)) [(.int (1 : Int32)), (.int (i4 &&& (2147483647 : Int32)))] [] 0 rfl (hw _ (List.mem_of_getElem? (i := 1) rfl)) (hw _ (List.mem_of_getElem? (i := 2) rfl)) (hw _ (List.mem_of_getElem? (i := 3) rfl)) (hw _ (List.mem_of_getElem? (i := 4) rfl)) (by decide) (own_max l Z a0 hw (1 : Int32) (i4 &&& (2147483647 : Int32)) h0 n0 X1.sz) own_d_code_51 own_pd__II_I rfl rfl (by show 2 * 0 + _ ≤ _; exact Nat.le_of_eq rfl) (by decide) (by decide) (by decide) (by decide) ?_
  intro T2 h2 v2 X2 P2
  obtain ⟨rfl, eh2⟩ := P2
  rw [eh2] at X2
  show own_Wins p e below A T2 (mkF m 54 #[.val (.int i0), .val (.int i1), .val (.int i2), .val (.int i3), .val (.int i4), .val (.int i5), .val (.int nn), .val (.int ta), .val (.int tb), .val (.int ts), .val (.int ca), .unset, .unset, .unset, .unset, .unset, .unset, .unset, .unset, .unset] [(.int (own_mx (1 : Int32) (i4 &&& (2147483647 : Int32))))])
  generalize hcb : (own_mx (1 : Int32) (i4 &&& (2147483647 : Int32))) = cb
  have pcb : 0 < cb := by rw [← hcb]; exact own_mx_pos _
  refine own_istore X2 #[.val (.int i0), .val (.int i1), .val (.int i2), .val (.int i3), .val (.int i4), .val (.int i5), .val (.int nn), .val (.int ta), .val (.int tb), .val (.int ts), .val (.int ca), .val (.int cb), .unset, .unset, .unset, .unset, .unset, .unset, .unset, .unset] own_d_code_54 rfl ?_
  refine own_ipush X2 own_d_code_56 ?_
  refine own_iload X2 own_d_code_57 rfl ?_
  refine own_ipush X2 own_d_code_58 ?_
  refine own_iushr X2 own_d_code_59 ?_
  refine own_callS X2 (y := (⟨"java/lang/Math", "max", "(II)I"⟩ : MethodName)) [(.int (1 : Int32)), (.int (own_Iushr i0 (2 : Int32)))] [] 0 rfl (hw _ (List.mem_of_getElem? (i := 1) rfl)) (hw _ (List.mem_of_getElem? (i := 2) rfl)) (hw _ (List.mem_of_getElem? (i := 3) rfl)) (hw _ (List.mem_of_getElem? (i := 4) rfl)) (by decide) (own_max l Z a0 hw (1 : Int32) (own_Iushr i0 (2 : Int32)) h0 n0 X2.sz) own_d_code_60 own_pd__II_I rfl rfl (by show 2 * 0 + _ ≤ _; exact Nat.le_of_eq rfl) (by decide) (by decide) (by decide) (by decide) ?_
  intro T3 h3 v3 X3 P3
  obtain ⟨rfl, eh3⟩ := P3
  rw [eh3] at X3
  show own_Wins p e below A T3 (mkF m 63 #[.val (.int i0), .val (.int i1), .val (.int i2), .val (.int i3), .val (.int i4), .val (.int i5), .val (.int nn), .val (.int ta), .val (.int tb), .val (.int ts), .val (.int ca), .val (.int cb), .unset, .unset, .unset, .unset, .unset, .unset, .unset, .unset] [(.int (own_mx (1 : Int32) (own_Iushr i0 (2 : Int32))))])
  generalize hcs : (own_mx (1 : Int32) (own_Iushr i0 (2 : Int32))) = cs
  have pcs : 0 < cs := by rw [← hcs]; exact own_mx_pos _
  refine own_istore X3 #[.val (.int i0), .val (.int i1), .val (.int i2), .val (.int i3), .val (.int i4), .val (.int i5), .val (.int nn), .val (.int ta), .val (.int tb), .val (.int ts), .val (.int ca), .val (.int cb), .val (.int cs), .unset, .unset, .unset, .unset, .unset, .unset, .unset] own_d_code_63 rfl ?_
  refine own_new X3 (hw _ (List.mem_of_getElem? (i := 5) rfl)) (hw _ (List.mem_of_getElem? (i := 6) rfl)) (hw _ (List.mem_of_getElem? (i := 7) rfl)) (own_laid_Pm hw) [.null, .null, .null, .null, (.int (0 : Int32))] (by decide) own_d_code_65 (by decide) (by decide) ?_
  intro T4 h4 b4 X4 E4 g4 ga_b4 V4
  refine own_dup X4 own_d_code_68 rfl ?_
  refine own_new X4 (hw _ (List.mem_of_getElem? (i := 8) rfl)) (hw _ (List.mem_of_getElem? (i := 9) rfl)) (hw _ (List.mem_of_getElem? (i := 10) rfl)) (own_laid_Tb hw) [.null] (by decide) own_d_code_69 (by decide) (by decide) ?_
  intro T5 h5 b5 X5 E5 g5 ga_b5 V5
  have ne_b4_b5 : b4 ≠ b5 := by rw [g5]; exact Nat.ne_of_lt V4.lt
  have F6_b4 : own_Obj Z h5 b4 "com/example/depth2/depth2/PackedMarking" own_ns_Pm [.null, .null, .null, .null, (.int (0 : Int32))] := V4.ext E5
  refine own_dup X5 own_d_code_72 rfl ?_
  refine own_callI X5 (y := (⟨"com/example/depth2/depth2/NetTokenTable", "<init>", "()V"⟩ : MethodName)) [] [(.ref b5), (.ref b4), (.ref b4)] 3 (a := b5) rfl rfl (hw _ (List.mem_of_getElem? (i := 11) rfl)) (hw _ (List.mem_of_getElem? (i := 12) rfl)) (hw _ (List.mem_of_getElem? (i := 10) rfl)) (hw _ (List.mem_of_getElem? (i := 13) rfl)) (by decide) (own_tabInit l Z a0 hw b5 h5 n0 X5.sz V5 ga_b5) own_d_code_73 own_pd___V rfl rfl (by show 2 * 0 + _ ≤ _; exact Nat.le_of_eq rfl) (by decide) (by decide) (by decide) (by decide) ?_
  intro T7 h7 v7 X7 P7
  obtain ⟨nb, ar, pa, ha, sa, rfl, Kc7, U7, Un, Up, szn, szp, gan⟩ := P7
  have ne_b4_nb : b4 ≠ nb := Nat.ne_of_lt (Nat.lt_of_lt_of_le F6_b4.lt szn)
  have ne_b4_pa : b4 ≠ pa := Nat.ne_of_lt (Nat.lt_of_lt_of_le F6_b4.lt szp)
  have ne_b5_nb : b5 ≠ nb := Nat.ne_of_lt (Nat.lt_of_lt_of_le V5.lt szn)
  have ne_b5_pa : b5 ≠ pa := Nat.ne_of_lt (Nat.lt_of_lt_of_le V5.lt szp)
  have F8_b4 : own_Obj Z h7 b4 "com/example/depth2/depth2/PackedMarking" own_ns_Pm [.null, .null, .null, .null, (.int (0 : Int32))] := F6_b4.keep Kc7 (ninS (Ne.symm (Ne.symm ne_b4_b5)) nin0)
  show own_Wins p e below A T7 (mkF m 76 #[.val (.int i0), .val (.int i1), .val (.int i2), .val (.int i3), .val (.int i4), .val (.int i5), .val (.int nn), .val (.int ta), .val (.int tb), .val (.int ts), .val (.int ca), .val (.int cb), .val (.int cs), .unset, .unset, .unset, .unset, .unset, .unset, .unset] [(.ref b5), (.ref b4), (.ref b4)])
  refine own_callI X7 (y := (⟨"com/example/depth2/depth2/PackedMarking", "<init>", "(Lcom/example/depth2/depth2/NetTokenTable;)V"⟩ : MethodName)) [(.ref b5)] [(.ref b4)] 1 (a := b4) rfl rfl (hw _ (List.mem_of_getElem? (i := 42) rfl)) (hw _ (List.mem_of_getElem? (i := 43) rfl)) (hw _ (List.mem_of_getElem? (i := 7) rfl)) (hw _ (List.mem_of_getElem? (i := 44) rfl)) (by decide) (own_pmInit l Z a0 hw b4 b5 h7 n0 X7.sz F8_b4 ga_b4) own_d_code_76 own_pd__Lcom_example_depth2_depth2_NetTokenTable__V rfl rfl (by show 2 * 0 + _ ≤ _; exact Nat.le_of_eq rfl) (by decide) (by decide) (by decide) (by decide) ?_
  intro T9 h9 v9 X9 P9
  obtain ⟨b1, b2, b3, rfl, Kc9, U9, W1, W2, W3, z1, z2, z3, g1, g2, g3, hq12, hq13, hq23⟩ := P9
  have ne_b4_b1 : b4 ≠ b1 := Nat.ne_of_lt (Nat.lt_of_lt_of_le F8_b4.lt z1)
  have ne_b4_b2 : b4 ≠ b2 := Nat.ne_of_lt (Nat.lt_of_lt_of_le F8_b4.lt z2)
  have ne_b4_b3 : b4 ≠ b3 := Nat.ne_of_lt (Nat.lt_of_lt_of_le F8_b4.lt z3)
  have ne_b5_b1 : b5 ≠ b1 := Nat.ne_of_lt (Nat.lt_of_lt_of_le U7.lt z1)
  have ne_b5_b2 : b5 ≠ b2 := Nat.ne_of_lt (Nat.lt_of_lt_of_le U7.lt z2)
  have ne_b5_b3 : b5 ≠ b3 := Nat.ne_of_lt (Nat.lt_of_lt_of_le U7.lt z3)
  have ne_nb_b1 : nb ≠ b1 := Nat.ne_of_lt (Nat.lt_of_lt_of_le Un.lt z1)
  have ne_nb_b2 : nb ≠ b2 := Nat.ne_of_lt (Nat.lt_of_lt_of_le Un.lt z2)
  have ne_nb_b3 : nb ≠ b3 := Nat.ne_of_lt (Nat.lt_of_lt_of_le Un.lt z3)
  have ne_pa_b1 : pa ≠ b1 := Nat.ne_of_lt (Nat.lt_of_lt_of_le Up.lt z1)
  have ne_pa_b2 : pa ≠ b2 := Nat.ne_of_lt (Nat.lt_of_lt_of_le Up.lt z2)
  have ne_pa_b3 : pa ≠ b3 := Nat.ne_of_lt (Nat.lt_of_lt_of_le Up.lt z3)
  have F10_b5 : own_Obj Z h9 b5 "com/example/depth2/depth2/NetTokenTable" own_ns_Tb [(.ref nb)] := U7.keep Kc9 (ninS (Ne.symm ne_b4_b5) nin0)
  have F11_nb : own_Obj Z h9 nb "com/example/depth2/depth2/NetTokenTable$Numbered" own_ns_Nu [(.ref ar), (.ref pa), (.ref ha), (.ref sa)] := Un.keep Kc9 (ninS (Ne.symm ne_b4_nb) nin0)
  have F12_pa : own_AL Z h9 pa .int [(.int (0 : Int32)), (.int (0 : Int32)), (.int (0 : Int32)), (.int (0 : Int32)), (.int (0 : Int32)), (.int (0 : Int32)), (.int (0 : Int32)), (.int (0 : Int32)), (.int (0 : Int32)), (.int (0 : Int32)), (.int (0 : Int32)), (.int (0 : Int32)), (.int (0 : Int32)), (.int (0 : Int32)), (.int (0 : Int32)), (.int (0 : Int32))] := Up.keep Kc9 (ninS (Ne.symm ne_b4_pa) nin0)
  show own_Wins p e below A T9 (mkF m 79 #[.val (.int i0), .val (.int i1), .val (.int i2), .val (.int i3), .val (.int i4), .val (.int i5), .val (.int nn), .val (.int ta), .val (.int tb), .val (.int ts), .val (.int ca), .val (.int cb), .val (.int cs), .unset, .unset, .unset, .unset, .unset, .unset, .unset] [(.ref b4)])
  refine own_astore X9 #[.val (.int i0), .val (.int i1), .val (.int i2), .val (.int i3), .val (.int i4), .val (.int i5), .val (.int nn), .val (.int ta), .val (.int tb), .val (.int ts), .val (.int ca), .val (.int cb), .val (.int cs), .val (.ref b4), .unset, .unset, .unset, .unset, .unset, .unset] own_d_code_79 rfl ?_
  refine own_aload X9 own_d_code_81 rfl ?_
  refine own_iload X9 own_d_code_83 rfl ?_
  refine own_iload X9 own_d_code_85 rfl ?_
  refine own_callV X9 (y := (⟨"com/example/depth2/depth2/PackedMarking", "add", "(II)V"⟩ : MethodName)) [(.int ts), (.int cs)] [] 0 (a := b4) rfl (hw _ (List.mem_of_getElem? (i := 54) rfl)) (hw _ (List.mem_of_getElem? (i := 55) rfl)) (hw _ (List.mem_of_getElem? (i := 57) rfl)) (hw _ (List.mem_of_getElem? (i := 56) rfl)) (hw _ (List.mem_of_getElem? (i := 7) rfl)) (hw _ (List.mem_of_getElem? (i := 58) rfl)) (by decide) U9.1 (own_addA l Z a0 hw b4 b1 b2 b3 b5 nb ar pa ha sa ts cs ks (0 : Int32) (0 : Int32) (0 : Int32) (0 : Int32) (0 : Int32) (0 : Int32) (0 : Int32) (0 : Int32) (0 : Int32) (0 : Int32) (0 : Int32) (0 : Int32) (0 : Int32) (0 : Int32) (0 : Int32) (0 : Int32) (0 : Int32) (0 : Int32) (0 : Int32) (0 : Int32) (0 : Int32) (0 : Int32) (0 : Int32) (0 : Int32) h9 n0 X9.sz U9 ga_b4 W1 W2 W3 g1 g2 g3 F10_b5 F11_nb F12_pa (Ne.symm (Ne.symm ne_b4_b1)) (Ne.symm (Ne.symm ne_b4_b2)) (Ne.symm (Ne.symm ne_b4_b3)) (Ne.symm (Ne.symm ne_b4_b5)) (Ne.symm (Ne.symm ne_b4_nb)) (Ne.symm (Ne.symm ne_b4_pa)) hq12 hq13 (Ne.symm ne_b5_b1) (Ne.symm ne_nb_b1) (Ne.symm ne_pa_b1) hq23 (Ne.symm ne_b5_b2) (Ne.symm ne_nb_b2) (Ne.symm ne_pa_b2) (Ne.symm ne_b5_b3) (Ne.symm ne_nb_b3) (Ne.symm ne_pa_b3) ts_ lks) own_d_code_87 own_pd__II_V rfl rfl (by show 2 * 0 + _ ≤ _; exact Nat.le_of_eq rfl) (by decide) (by decide) (by decide) (by decide) ?_
  intro T13 h13 v13 X13 P13
  obtain ⟨rfl, Kc13, U13, A13, B13, D13⟩ := P13
  have F14_b5 : own_Obj Z h13 b5 "com/example/depth2/depth2/NetTokenTable" own_ns_Tb [(.ref nb)] := F10_b5.keep Kc13 (ninS (Ne.symm ne_b4_b5) (ninS (Ne.symm (Ne.symm ne_b5_b1)) (ninS (Ne.symm (Ne.symm ne_b5_b2)) (ninS (Ne.symm (Ne.symm ne_b5_b3)) nin0))))
  have F15_nb : own_Obj Z h13 nb "com/example/depth2/depth2/NetTokenTable$Numbered" own_ns_Nu [(.ref ar), (.ref pa), (.ref ha), (.ref sa)] := F11_nb.keep Kc13 (ninS (Ne.symm ne_b4_nb) (ninS (Ne.symm (Ne.symm ne_nb_b1)) (ninS (Ne.symm (Ne.symm ne_nb_b2)) (ninS (Ne.symm (Ne.symm ne_nb_b3)) nin0))))
  have F16_pa : own_AL Z h13 pa .int [(.int (0 : Int32)), (.int (0 : Int32)), (.int (0 : Int32)), (.int (0 : Int32)), (.int (0 : Int32)), (.int (0 : Int32)), (.int (0 : Int32)), (.int (0 : Int32)), (.int (0 : Int32)), (.int (0 : Int32)), (.int (0 : Int32)), (.int (0 : Int32)), (.int (0 : Int32)), (.int (0 : Int32)), (.int (0 : Int32)), (.int (0 : Int32))] := F12_pa.keep Kc13 (ninS (Ne.symm ne_b4_pa) (ninS (Ne.symm (Ne.symm ne_pa_b1)) (ninS (Ne.symm (Ne.symm ne_pa_b2)) (ninS (Ne.symm (Ne.symm ne_pa_b3)) nin0))))
  show own_Wins p e below A T13 (mkF m 90 #[.val (.int i0), .val (.int i1), .val (.int i2), .val (.int i3), .val (.int i4), .val (.int i5), .val (.int nn), .val (.int ta), .val (.int tb), .val (.int ts), .val (.int ca), .val (.int cb), .val (.int cs), .val (.ref b4), .unset, .unset, .unset, .unset, .unset, .unset] [])
  refine own_aload X13 own_d_code_90 rfl ?_
  refine own_callV X13 (y := (⟨"com/example/depth2/depth2/PackedMarking", "clear", "()V"⟩ : MethodName)) [] [] 0 (a := b4) rfl (hw _ (List.mem_of_getElem? (i := 75) rfl)) (hw _ (List.mem_of_getElem? (i := 76) rfl)) (hw _ (List.mem_of_getElem? (i := 78) rfl)) (hw _ (List.mem_of_getElem? (i := 77) rfl)) (hw _ (List.mem_of_getElem? (i := 7) rfl)) (hw _ (List.mem_of_getElem? (i := 79) rfl)) (by decide) U13.1 (own_clear l Z a0 hw b4 b1 b2 b3 b5 _ h13 n0 X13.sz U13 ga_b4) own_d_code_92 own_pd___V rfl rfl (by show 2 * 0 + _ ≤ _; exact Nat.le_of_eq rfl) (by decide) (by decide) (by decide) (by decide) ?_
  intro T17 h17 v17 X17 P17
  obtain ⟨rfl, Kc17, U17⟩ := P17
  have F18_b5 : own_Obj Z h17 b5 "com/example/depth2/depth2/NetTokenTable" own_ns_Tb [(.ref nb)] := F14_b5.keep Kc17 (ninS (Ne.symm ne_b4_b5) nin0)
  have F19_nb : own_Obj Z h17 nb "com/example/depth2/depth2/NetTokenTable$Numbered" own_ns_Nu [(.ref ar), (.ref pa), (.ref ha), (.ref sa)] := F15_nb.keep Kc17 (ninS (Ne.symm ne_b4_nb) nin0)
  have F20_pa : own_AL Z h17 pa .int [(.int (0 : Int32)), (.int (0 : Int32)), (.int (0 : Int32)), (.int (0 : Int32)), (.int (0 : Int32)), (.int (0 : Int32)), (.int (0 : Int32)), (.int (0 : Int32)), (.int (0 : Int32)), (.int (0 : Int32)), (.int (0 : Int32)), (.int (0 : Int32)), (.int (0 : Int32)), (.int (0 : Int32)), (.int (0 : Int32)), (.int (0 : Int32))] := F16_pa.keep Kc17 (ninS (Ne.symm ne_b4_pa) nin0)
  have F21_b1 : own_AL Z h17 b1 .int [(.int ts), (.int (0 : Int32)), (.int (0 : Int32)), (.int (0 : Int32)), (.int (0 : Int32)), (.int (0 : Int32)), (.int (0 : Int32)), (.int (0 : Int32))] := A13.keep Kc17 (ninS (Ne.symm ne_b4_b1) nin0)
  have F22_b2 : own_AL Z h17 b2 .int [(.int cs), (.int (0 : Int32)), (.int (0 : Int32)), (.int (0 : Int32)), (.int (0 : Int32)), (.int (0 : Int32)), (.int (0 : Int32)), (.int (0 : Int32))] := B13.keep Kc17 (ninS (Ne.symm ne_b4_b2) nin0)
  have F23_b3 : own_AL Z h17 b3 .int [(.int (0 : Int32)), (.int (0 : Int32)), (.int (0 : Int32)), (.int (0 : Int32)), (.int (0 : Int32)), (.int (0 : Int32)), (.int (0 : Int32)), (.int (0 : Int32))] := D13.keep Kc17 (ninS (Ne.symm ne_b4_b3) nin0)
  show own_Wins p e below A T17 (mkF m 95 #[.val (.int i0), .val (.int i1), .val (.int i2), .val (.int i3), .val (.int i4), .val (.int i5), .val (.int nn), .val (.int ta), .val (.int tb), .val (.int ts), .val (.int ca), .val (.int cb), .val (.int cs), .val (.ref b4), .unset, .unset, .unset, .unset, .unset, .unset] [])
  refine own_iload X17 own_d_code_95 rfl ?_
  refine own_ipush X17 own_d_code_97 ?_
  obtain rfl | rfl | rfl : n = 0 ∨ n = 1 ∨ n = 2 := by omega
  · skip
    refine own_icYes X17 own_d_code_98 (tlt ((own_idx_lt nn_ (n := 1) ⟨by decide, by decide⟩).mpr (by omega))).1 ?_
    refine own_iload X17 own_d_code_110 rfl ?_
    refine own_ipush X17 own_d_code_112 ?_
    refine own_icYes X17 own_d_code_113 (tlt ((own_idx_lt nn_ (n := 2) ⟨by decide, by decide⟩).mpr (by omega))).1 ?_
    refine own_iload X17 own_d_code_125 rfl ?_
    refine own_ifNo X17 own_d_code_127 ((if0 _ _).trans (teq ((own_idx_eq nn_ (n := 0) ⟨by decide, by decide⟩).mpr rfl)).2) ?_
    refine own_lpush X17 own_d_code_130 ?_
    refine own_lstore X17 #[.val (.int i0), .val (.int i1), .val (.int i2), .val (.int i3), .val (.int i4), .val (.int i5), .val (.int nn), .val (.int ta), .val (.int tb), .val (.int ts), .val (.int ca), .val (.int cb), .val (.int cs), .val (.ref b4), .val (.long (0 : Int64)), .second, .unset, .unset, .unset, .unset] own_d_code_131 rfl ?_
    refine own_goto X17 own_d_code_133 ?_
    refine own_aload X17 own_d_code_224 rfl ?_
    refine own_callV X17 (y := (⟨"com/example/depth2/depth2/PackedMarking", "hash", "()J"⟩ : MethodName)) [] [] 0 (a := b4) rfl (hw _ (List.mem_of_getElem? (i := 80) rfl)) (hw _ (List.mem_of_getElem? (i := 81) rfl)) (hw _ (List.mem_of_getElem? (i := 83) rfl)) (hw _ (List.mem_of_getElem? (i := 82) rfl)) (hw _ (List.mem_of_getElem? (i := 7) rfl)) (hw _ (List.mem_of_getElem? (i := 84) rfl)) (by decide) U17.1 (own_hash0 l Z a0 hw b4 b1 b2 b3 b5 ts cs (0 : Int32) (0 : Int32) (0 : Int32) (0 : Int32) (0 : Int32) (0 : Int32) (0 : Int32) (0 : Int32) (0 : Int32) (0 : Int32) (0 : Int32) (0 : Int32) (0 : Int32) (0 : Int32) h17 n0 X17.sz U17 F21_b1 F22_b2) own_d_code_226 own_pd___J rfl rfl (by show 2 * 0 + _ ≤ _; exact Nat.le_of_eq rfl) (by decide) (by decide) (by decide) (by decide) ?_
    intro T24 h24 v24 X24 P24
    obtain ⟨rfl, eh24⟩ := P24
    rw [eh24] at X24
    show own_Wins p e below A T24 (mkF m 229 #[.val (.int i0), .val (.int i1), .val (.int i2), .val (.int i3), .val (.int i4), .val (.int i5), .val (.int nn), .val (.int ta), .val (.int tb), .val (.int ts), .val (.int ca), .val (.int cb), .val (.int cs), .val (.ref b4), .val (.long (0 : Int64)), .second, .unset, .unset, .unset, .unset] [(.long ((0 : Int32).toInt64))])
    refine own_lload X24 own_d_code_229 rfl ?_
    refine own_lcmp X24 own_d_code_231 ?_
    refine own_ifNo X24 own_d_code_232 ((if0 _ _).trans (teq ((lw_eq ((0 : Int32).toInt64) (0 : Int64)).2 (by decide))).2) ?_
    refine own_ipush X24 own_d_code_235 ?_
    refine own_goto X24 own_d_code_236 ?_
    exact own_retZ X24 hret rfl fin (by decide) (by decide) rfl own_d_code_240
  · skip
    refine own_icNo X17 own_d_code_98 (flt (mt (own_idx_lt nn_ (n := 1) ⟨by decide, by decide⟩).mp (by omega))).1 ?_
    refine own_aload X17 own_d_code_101 rfl ?_
    refine own_iload X17 own_d_code_103 rfl ?_
    refine own_iload X17 own_d_code_105 rfl ?_
    refine own_callV X17 (y := (⟨"com/example/depth2/depth2/PackedMarking", "add", "(II)V"⟩ : MethodName)) [(.int ta), (.int ca)] [] 0 (a := b4) rfl (hw _ (List.mem_of_getElem? (i := 54) rfl)) (hw _ (List.mem_of_getElem? (i := 55) rfl)) (hw _ (List.mem_of_getElem? (i := 57) rfl)) (hw _ (List.mem_of_getElem? (i := 56) rfl)) (hw _ (List.mem_of_getElem? (i := 7) rfl)) (hw _ (List.mem_of_getElem? (i := 58) rfl)) (by decide) U17.1 (own_addA l Z a0 hw b4 b1 b2 b3 b5 nb ar pa ha sa ta ca ka ts (0 : Int32) (0 : Int32) (0 : Int32) (0 : Int32) (0 : Int32) (0 : Int32) (0 : Int32) cs (0 : Int32) (0 : Int32) (0 : Int32) (0 : Int32) (0 : Int32) (0 : Int32) (0 : Int32) (0 : Int32) (0 : Int32) (0 : Int32) (0 : Int32) (0 : Int32) (0 : Int32) (0 : Int32) (0 : Int32) h17 n0 X17.sz U17 ga_b4 F21_b1 F22_b2 F23_b3 g1 g2 g3 F18_b5 F19_nb F20_pa (Ne.symm (Ne.symm ne_b4_b1)) (Ne.symm (Ne.symm ne_b4_b2)) (Ne.symm (Ne.symm ne_b4_b3)) (Ne.symm (Ne.symm ne_b4_b5)) (Ne.symm (Ne.symm ne_b4_nb)) (Ne.symm (Ne.symm ne_b4_pa)) hq12 hq13 (Ne.symm ne_b5_b1) (Ne.symm ne_nb_b1) (Ne.symm ne_pa_b1) hq23 (Ne.symm ne_b5_b2) (Ne.symm ne_nb_b2) (Ne.symm ne_pa_b2) (Ne.symm ne_b5_b3) (Ne.symm ne_nb_b3) (Ne.symm ne_pa_b3) ta_ lka) own_d_code_107 own_pd__II_V rfl rfl (by show 2 * 0 + _ ≤ _; exact Nat.le_of_eq rfl) (by decide) (by decide) (by decide) (by decide) ?_
    intro T25 h25 v25 X25 P25
    obtain ⟨rfl, Kc25, U25, A25, B25, D25⟩ := P25
    have F26_b5 : own_Obj Z h25 b5 "com/example/depth2/depth2/NetTokenTable" own_ns_Tb [(.ref nb)] := F18_b5.keep Kc25 (ninS (Ne.symm ne_b4_b5) (ninS (Ne.symm (Ne.symm ne_b5_b1)) (ninS (Ne.symm (Ne.symm ne_b5_b2)) (ninS (Ne.symm (Ne.symm ne_b5_b3)) nin0))))
    have F27_nb : own_Obj Z h25 nb "com/example/depth2/depth2/NetTokenTable$Numbered" own_ns_Nu [(.ref ar), (.ref pa), (.ref ha), (.ref sa)] := F19_nb.keep Kc25 (ninS (Ne.symm ne_b4_nb) (ninS (Ne.symm (Ne.symm ne_nb_b1)) (ninS (Ne.symm (Ne.symm ne_nb_b2)) (ninS (Ne.symm (Ne.symm ne_nb_b3)) nin0))))
    have F28_pa : own_AL Z h25 pa .int [(.int (0 : Int32)), (.int (0 : Int32)), (.int (0 : Int32)), (.int (0 : Int32)), (.int (0 : Int32)), (.int (0 : Int32)), (.int (0 : Int32)), (.int (0 : Int32)), (.int (0 : Int32)), (.int (0 : Int32)), (.int (0 : Int32)), (.int (0 : Int32)), (.int (0 : Int32)), (.int (0 : Int32)), (.int (0 : Int32)), (.int (0 : Int32))] := F20_pa.keep Kc25 (ninS (Ne.symm ne_b4_pa) (ninS (Ne.symm (Ne.symm ne_pa_b1)) (ninS (Ne.symm (Ne.symm ne_pa_b2)) (ninS (Ne.symm (Ne.symm ne_pa_b3)) nin0))))
    show own_Wins p e below A T25 (mkF m 110 #[.val (.int i0), .val (.int i1), .val (.int i2), .val (.int i3), .val (.int i4), .val (.int i5), .val (.int nn), .val (.int ta), .val (.int tb), .val (.int ts), .val (.int ca), .val (.int cb), .val (.int cs), .val (.ref b4), .unset, .unset, .unset, .unset, .unset, .unset] [])
    refine own_iload X25 own_d_code_110 rfl ?_
    refine own_ipush X25 own_d_code_112 ?_
    refine own_icYes X25 own_d_code_113 (tlt ((own_idx_lt nn_ (n := 2) ⟨by decide, by decide⟩).mpr (by omega))).1 ?_
    refine own_iload X25 own_d_code_125 rfl ?_
    refine own_ifYes X25 own_d_code_127 ((if0 _ _).trans (feq (mt (own_idx_eq nn_ (n := 0) ⟨by decide, by decide⟩).mp (by omega))).2) ?_
    refine own_iload X25 own_d_code_136 rfl ?_
    refine own_ipush X25 own_d_code_138 ?_
    refine own_icNo X25 own_d_code_139 (teq ((own_idx_eq nn_ (n := 1) ⟨by decide, by decide⟩).mpr rfl)).2 ?_
    refine own_lpush X25 own_d_code_142 ?_
    refine own_iload X25 own_d_code_143 rfl ?_
    refine own_iload X25 own_d_code_145 rfl ?_
    refine own_callS X25 (y := (⟨"com/example/depth2/depth2/PackedMarkingHashPinLaw", "step", "(JII)J"⟩ : MethodName)) [(.long (1 : Int64)), (.int ta), (.int ca)] [] 0 rfl (hw _ (List.mem_of_getElem? (i := 85) rfl)) (hw _ (List.mem_of_getElem? (i := 86) rfl)) (hw _ (List.mem_of_getElem? (i := 87) rfl)) (hw _ (List.mem_of_getElem? (i := 88) rfl)) (by decide) (own_step l Z a0 hw (1 : Int64) ta ca h25 n0 X25.sz) own_d_code_147 own_pd__JII_J rfl rfl (by show 2 * 0 + _ ≤ _; exact Nat.le_of_eq rfl) (by decide) (by decide) (by decide) (by decide) ?_
    intro T29 h29 v29 X29 P29
    obtain ⟨rfl, eh29⟩ := P29
    rw [eh29] at X29
    show own_Wins p e below A T29 (mkF m 150 #[.val (.int i0), .val (.int i1), .val (.int i2), .val (.int i3), .val (.int i4), .val (.int i5), .val (.int nn), .val (.int ta), .val (.int tb), .val (.int ts), .val (.int ca), .val (.int cb), .val (.int cs), .val (.ref b4), .unset, .unset, .unset, .unset, .unset, .unset] [(.long (own_stp (1 : Int64) ta ca))])
    refine own_lstore X29 #[.val (.int i0), .val (.int i1), .val (.int i2), .val (.int i3), .val (.int i4), .val (.int i5), .val (.int nn), .val (.int ta), .val (.int tb), .val (.int ts), .val (.int ca), .val (.int cb), .val (.int cs), .val (.ref b4), .val (.long (own_stp (1 : Int64) ta ca)), .second, .unset, .unset, .unset, .unset] own_d_code_150 rfl ?_
    refine own_goto X29 own_d_code_152 ?_
    refine own_aload X29 own_d_code_224 rfl ?_
    refine own_callV X29 (y := (⟨"com/example/depth2/depth2/PackedMarking", "hash", "()J"⟩ : MethodName)) [] [] 0 (a := b4) rfl (hw _ (List.mem_of_getElem? (i := 80) rfl)) (hw _ (List.mem_of_getElem? (i := 81) rfl)) (hw _ (List.mem_of_getElem? (i := 83) rfl)) (hw _ (List.mem_of_getElem? (i := 82) rfl)) (hw _ (List.mem_of_getElem? (i := 7) rfl)) (hw _ (List.mem_of_getElem? (i := 84) rfl)) (by decide) U25.1 (own_hash1 l Z a0 hw b4 b1 b2 b3 b5 ta ca (0 : Int32) (0 : Int32) (0 : Int32) (0 : Int32) (0 : Int32) (0 : Int32) (0 : Int32) (0 : Int32) (0 : Int32) (0 : Int32) (0 : Int32) (0 : Int32) (0 : Int32) (0 : Int32) h25 n0 X29.sz U25 A25 B25) own_d_code_226 own_pd___J rfl rfl (by show 2 * 0 + _ ≤ _; exact Nat.le_of_eq rfl) (by decide) (by decide) (by decide) (by decide) ?_
    intro T30 h30 v30 X30 P30
    obtain ⟨rfl, eh30⟩ := P30
    rw [eh30] at X30
    show own_Wins p e below A T30 (mkF m 229 #[.val (.int i0), .val (.int i1), .val (.int i2), .val (.int i3), .val (.int i4), .val (.int i5), .val (.int nn), .val (.int ta), .val (.int tb), .val (.int ts), .val (.int ca), .val (.int cb), .val (.int cs), .val (.ref b4), .val (.long (own_stp (1 : Int64) ta ca)), .second, .unset, .unset, .unset, .unset] [(.long (own_hs ((1 : Int32).toInt64) ta ca))])
    refine own_lload X30 own_d_code_229 rfl ?_
    refine own_lcmp X30 own_d_code_231 ?_
    refine own_ifNo X30 own_d_code_232 ((if0 _ _).trans (teq ((lw_eq (own_hs ((1 : Int32).toInt64) ta ca) (own_stp (1 : Int64) ta ca)).2 (own_hs_stp _ ta ca ka ta_ lka pca))).2) ?_
    refine own_ipush X30 own_d_code_235 ?_
    refine own_goto X30 own_d_code_236 ?_
    exact own_retZ X30 hret rfl fin (by decide) (by decide) rfl own_d_code_240
  · skip
    refine own_icNo X17 own_d_code_98 (flt (mt (own_idx_lt nn_ (n := 1) ⟨by decide, by decide⟩).mp (by omega))).1 ?_
    refine own_aload X17 own_d_code_101 rfl ?_
    refine own_iload X17 own_d_code_103 rfl ?_
    refine own_iload X17 own_d_code_105 rfl ?_
    refine own_callV X17 (y := (⟨"com/example/depth2/depth2/PackedMarking", "add", "(II)V"⟩ : MethodName)) [(.int ta), (.int ca)] [] 0 (a := b4) rfl (hw _ (List.mem_of_getElem? (i := 54) rfl)) (hw _ (List.mem_of_getElem? (i := 55) rfl)) (hw _ (List.mem_of_getElem? (i := 57) rfl)) (hw _ (List.mem_of_getElem? (i := 56) rfl)) (hw _ (List.mem_of_getElem? (i := 7) rfl)) (hw _ (List.mem_of_getElem? (i := 58) rfl)) (by decide) U17.1 (own_addA l Z a0 hw b4 b1 b2 b3 b5 nb ar pa ha sa ta ca ka ts (0 : Int32) (0 : Int32) (0 : Int32) (0 : Int32) (0 : Int32) (0 : Int32) (0 : Int32) cs (0 : Int32) (0 : Int32) (0 : Int32) (0 : Int32) (0 : Int32) (0 : Int32) (0 : Int32) (0 : Int32) (0 : Int32) (0 : Int32) (0 : Int32) (0 : Int32) (0 : Int32) (0 : Int32) (0 : Int32) h17 n0 X17.sz U17 ga_b4 F21_b1 F22_b2 F23_b3 g1 g2 g3 F18_b5 F19_nb F20_pa (Ne.symm (Ne.symm ne_b4_b1)) (Ne.symm (Ne.symm ne_b4_b2)) (Ne.symm (Ne.symm ne_b4_b3)) (Ne.symm (Ne.symm ne_b4_b5)) (Ne.symm (Ne.symm ne_b4_nb)) (Ne.symm (Ne.symm ne_b4_pa)) hq12 hq13 (Ne.symm ne_b5_b1) (Ne.symm ne_nb_b1) (Ne.symm ne_pa_b1) hq23 (Ne.symm ne_b5_b2) (Ne.symm ne_nb_b2) (Ne.symm ne_pa_b2) (Ne.symm ne_b5_b3) (Ne.symm ne_nb_b3) (Ne.symm ne_pa_b3) ta_ lka) own_d_code_107 own_pd__II_V rfl rfl (by show 2 * 0 + _ ≤ _; exact Nat.le_of_eq rfl) (by decide) (by decide) (by decide) (by decide) ?_
    intro T31 h31 v31 X31 P31
    obtain ⟨rfl, Kc31, U31, A31, B31, D31⟩ := P31
    have F32_b5 : own_Obj Z h31 b5 "com/example/depth2/depth2/NetTokenTable" own_ns_Tb [(.ref nb)] := F18_b5.keep Kc31 (ninS (Ne.symm ne_b4_b5) (ninS (Ne.symm (Ne.symm ne_b5_b1)) (ninS (Ne.symm (Ne.symm ne_b5_b2)) (ninS (Ne.symm (Ne.symm ne_b5_b3)) nin0))))
    have F33_nb : own_Obj Z h31 nb "com/example/depth2/depth2/NetTokenTable$Numbered" own_ns_Nu [(.ref ar), (.ref pa), (.ref ha), (.ref sa)] := F19_nb.keep Kc31 (ninS (Ne.symm ne_b4_nb) (ninS (Ne.symm (Ne.symm ne_nb_b1)) (ninS (Ne.symm (Ne.symm ne_nb_b2)) (ninS (Ne.symm (Ne.symm ne_nb_b3)) nin0))))
    have F34_pa : own_AL Z h31 pa .int [(.int (0 : Int32)), (.int (0 : Int32)), (.int (0 : Int32)), (.int (0 : Int32)), (.int (0 : Int32)), (.int (0 : Int32)), (.int (0 : Int32)), (.int (0 : Int32)), (.int (0 : Int32)), (.int (0 : Int32)), (.int (0 : Int32)), (.int (0 : Int32)), (.int (0 : Int32)), (.int (0 : Int32)), (.int (0 : Int32)), (.int (0 : Int32))] := F20_pa.keep Kc31 (ninS (Ne.symm ne_b4_pa) (ninS (Ne.symm (Ne.symm ne_pa_b1)) (ninS (Ne.symm (Ne.symm ne_pa_b2)) (ninS (Ne.symm (Ne.symm ne_pa_b3)) nin0))))
    show own_Wins p e below A T31 (mkF m 110 #[.val (.int i0), .val (.int i1), .val (.int i2), .val (.int i3), .val (.int i4), .val (.int i5), .val (.int nn), .val (.int ta), .val (.int tb), .val (.int ts), .val (.int ca), .val (.int cb), .val (.int cs), .val (.ref b4), .unset, .unset, .unset, .unset, .unset, .unset] [])
    refine own_iload X31 own_d_code_110 rfl ?_
    refine own_ipush X31 own_d_code_112 ?_
    refine own_icNo X31 own_d_code_113 (flt (mt (own_idx_lt nn_ (n := 2) ⟨by decide, by decide⟩).mp (by omega))).1 ?_
    refine own_aload X31 own_d_code_116 rfl ?_
    refine own_iload X31 own_d_code_118 rfl ?_
    refine own_iload X31 own_d_code_120 rfl ?_
    by_cases hgt : tb < ta
    · skip
      have hneq : ¬ ta = tb := mt (own_idx_eq ta_ tb_).mp (by omega)
      refine own_callV X31 (y := (⟨"com/example/depth2/depth2/PackedMarking", "add", "(II)V"⟩ : MethodName)) [(.int tb), (.int cb)] [] 0 (a := b4) rfl (hw _ (List.mem_of_getElem? (i := 54) rfl)) (hw _ (List.mem_of_getElem? (i := 55) rfl)) (hw _ (List.mem_of_getElem? (i := 57) rfl)) (hw _ (List.mem_of_getElem? (i := 56) rfl)) (hw _ (List.mem_of_getElem? (i := 7) rfl)) (hw _ (List.mem_of_getElem? (i := 58) rfl)) (by decide) U31.1 (own_addB l Z a0 hw b4 b1 b2 b3 b5 nb ar pa ha sa tb cb kb ta (0 : Int32) (0 : Int32) (0 : Int32) (0 : Int32) (0 : Int32) (0 : Int32) (0 : Int32) ca (0 : Int32) (0 : Int32) (0 : Int32) (0 : Int32) (0 : Int32) (0 : Int32) (0 : Int32) (0 : Int32) (0 : Int32) (0 : Int32) (0 : Int32) (0 : Int32) (0 : Int32) (0 : Int32) (0 : Int32) h31 n0 X31.sz U31 ga_b4 A31 B31 D31 g1 g2 g3 F32_b5 F33_nb F34_pa (Ne.symm (Ne.symm ne_b4_b1)) (Ne.symm (Ne.symm ne_b4_b2)) (Ne.symm (Ne.symm ne_b4_b3)) (Ne.symm (Ne.symm ne_b4_b5)) (Ne.symm (Ne.symm ne_b4_nb)) (Ne.symm (Ne.symm ne_b4_pa)) hq12 hq13 (Ne.symm ne_b5_b1) (Ne.symm ne_nb_b1) (Ne.symm ne_pa_b1) hq23 (Ne.symm ne_b5_b2) (Ne.symm ne_nb_b2) (Ne.symm ne_pa_b2) (Ne.symm ne_b5_b3) (Ne.symm ne_nb_b3) (Ne.symm ne_pa_b3) tb_ lkb hgt) own_d_code_122 own_pd__II_V rfl rfl (by show 2 * 0 + _ ≤ _; exact Nat.le_of_eq rfl) (by decide) (by decide) (by decide) (by decide) ?_
      intro T35 h35 v35 X35 P35
      obtain ⟨rfl, Kc35, U35, A35, B35, D35⟩ := P35
      have F36_b5 : own_Obj Z h35 b5 "com/example/depth2/depth2/NetTokenTable" own_ns_Tb [(.ref nb)] := F32_b5.keep Kc35 (ninS (Ne.symm ne_b4_b5) (ninS (Ne.symm (Ne.symm ne_b5_b1)) (ninS (Ne.symm (Ne.symm ne_b5_b2)) (ninS (Ne.symm (Ne.symm ne_b5_b3)) nin0))))
      have F37_nb : own_Obj Z h35 nb "com/example/depth2/depth2/NetTokenTable$Numbered" own_ns_Nu [(.ref ar), (.ref pa), (.ref ha), (.ref sa)] := F33_nb.keep Kc35 (ninS (Ne.symm ne_b4_nb) (ninS (Ne.symm (Ne.symm ne_nb_b1)) (ninS (Ne.symm (Ne.symm ne_nb_b2)) (ninS (Ne.symm (Ne.symm ne_nb_b3)) nin0))))
      have F38_pa : own_AL Z h35 pa .int [(.int (0 : Int32)), (.int (0 : Int32)), (.int (0 : Int32)), (.int (0 : Int32)), (.int (0 : Int32)), (.int (0 : Int32)), (.int (0 : Int32)), (.int (0 : Int32)), (.int (0 : Int32)), (.int (0 : Int32)), (.int (0 : Int32)), (.int (0 : Int32)), (.int (0 : Int32)), (.int (0 : Int32)), (.int (0 : Int32)), (.int (0 : Int32))] := F34_pa.keep Kc35 (ninS (Ne.symm ne_b4_pa) (ninS (Ne.symm (Ne.symm ne_pa_b1)) (ninS (Ne.symm (Ne.symm ne_pa_b2)) (ninS (Ne.symm (Ne.symm ne_pa_b3)) nin0))))
      show own_Wins p e below A T35 (mkF m 125 #[.val (.int i0), .val (.int i1), .val (.int i2), .val (.int i3), .val (.int i4), .val (.int i5), .val (.int nn), .val (.int ta), .val (.int tb), .val (.int ts), .val (.int ca), .val (.int cb), .val (.int cs), .val (.ref b4), .unset, .unset, .unset, .unset, .unset, .unset] [])
      refine own_iload X35 own_d_code_125 rfl ?_
      refine own_ifYes X35 own_d_code_127 ((if0 _ _).trans (feq (mt (own_idx_eq nn_ (n := 0) ⟨by decide, by decide⟩).mp (by omega))).2) ?_
      refine own_iload X35 own_d_code_136 rfl ?_
      refine own_ipush X35 own_d_code_138 ?_
      refine own_icYes X35 own_d_code_139 (feq (mt (own_idx_eq nn_ (n := 1) ⟨by decide, by decide⟩).mp (by omega))).2 ?_
      refine own_iload X35 own_d_code_155 rfl ?_
      refine own_iload X35 own_d_code_157 rfl ?_
      refine own_callS X35 (y := (⟨"java/lang/Math", "min", "(II)I"⟩ : MethodName)) [(.int ta), (.int tb)] [] 0 rfl (hw _ (List.mem_of_getElem? (i := 92) rfl)) (hw _ (List.mem_of_getElem? (i := 93) rfl)) (hw _ (List.mem_of_getElem? (i := 3) rfl)) (hw _ (List.mem_of_getElem? (i := 94) rfl)) (by decide) (own_min l Z a0 hw ta tb h35 n0 X35.sz) own_d_code_159 own_pd__II_I rfl rfl (by show 2 * 0 + _ ≤ _; exact Nat.le_of_eq rfl) (by decide) (by decide) (by decide) (by decide) ?_
      intro T39 h39 v39 X39 P39
      obtain ⟨rfl, eh39⟩ := P39
      rw [eh39] at X39
      show own_Wins p e below A T39 (mkF m 162 #[.val (.int i0), .val (.int i1), .val (.int i2), .val (.int i3), .val (.int i4), .val (.int i5), .val (.int nn), .val (.int ta), .val (.int tb), .val (.int ts), .val (.int ca), .val (.int cb), .val (.int cs), .val (.ref b4), .unset, .unset, .unset, .unset, .unset, .unset] [(.int (own_mn ta tb))])
      rw [show own_mn ta tb = tb by rw [own_mn, if_pos hgt]]
      refine own_istore X39 #[.val (.int i0), .val (.int i1), .val (.int i2), .val (.int i3), .val (.int i4), .val (.int i5), .val (.int nn), .val (.int ta), .val (.int tb), .val (.int ts), .val (.int ca), .val (.int cb), .val (.int cs), .val (.ref b4), .unset, .unset, .val (.int tb), .unset, .unset, .unset] own_d_code_162 rfl ?_
      refine own_iload X39 own_d_code_164 rfl ?_
      refine own_iload X39 own_d_code_166 rfl ?_
      refine own_callS X39 (y := (⟨"java/lang/Math", "max", "(II)I"⟩ : MethodName)) [(.int ta), (.int tb)] [] 0 rfl (hw _ (List.mem_of_getElem? (i := 1) rfl)) (hw _ (List.mem_of_getElem? (i := 2) rfl)) (hw _ (List.mem_of_getElem? (i := 3) rfl)) (hw _ (List.mem_of_getElem? (i := 4) rfl)) (by decide) (own_max l Z a0 hw ta tb h35 n0 X39.sz) own_d_code_168 own_pd__II_I rfl rfl (by show 2 * 0 + _ ≤ _; exact Nat.le_of_eq rfl) (by decide) (by decide) (by decide) (by decide) ?_
      intro T40 h40 v40 X40 P40
      obtain ⟨rfl, eh40⟩ := P40
      rw [eh40] at X40
      show own_Wins p e below A T40 (mkF m 171 #[.val (.int i0), .val (.int i1), .val (.int i2), .val (.int i3), .val (.int i4), .val (.int i5), .val (.int nn), .val (.int ta), .val (.int tb), .val (.int ts), .val (.int ca), .val (.int cb), .val (.int cs), .val (.ref b4), .unset, .unset, .val (.int tb), .unset, .unset, .unset] [(.int (own_mx ta tb))])
      rw [show own_mx ta tb = ta by rw [own_mx, if_neg (fun q => Int32.lt_irrefl (Int32.lt_trans q hgt))]]
      refine own_istore X40 #[.val (.int i0), .val (.int i1), .val (.int i2), .val (.int i3), .val (.int i4), .val (.int i5), .val (.int nn), .val (.int ta), .val (.int tb), .val (.int ts), .val (.int ca), .val (.int cb), .val (.int cs), .val (.ref b4), .unset, .unset, .val (.int tb), .val (.int ta), .unset, .unset] own_d_code_171 rfl ?_
      refine own_iload X40 own_d_code_173 rfl ?_
      refine own_iload X40 own_d_code_175 rfl ?_
      refine own_icYes X40 own_d_code_177 (feq (fun q => hneq q.symm)).2 ?_
      refine own_iload X40 own_d_code_185 rfl ?_
      refine own_istore X40 #[.val (.int i0), .val (.int i1), .val (.int i2), .val (.int i3), .val (.int i4), .val (.int i5), .val (.int nn), .val (.int ta), .val (.int tb), .val (.int ts), .val (.int ca), .val (.int cb), .val (.int cs), .val (.ref b4), .unset, .unset, .val (.int tb), .val (.int ta), .val (.int cb), .unset] own_d_code_187 rfl ?_
      refine own_iload X40 own_d_code_189 rfl ?_
      refine own_iload X40 own_d_code_191 rfl ?_
      refine own_icNo X40 own_d_code_193 (teq rfl).2 ?_
      refine own_iload X40 own_d_code_196 rfl ?_
      refine own_goto X40 own_d_code_198 ?_
      refine own_istore X40 #[.val (.int i0), .val (.int i1), .val (.int i2), .val (.int i3), .val (.int i4), .val (.int i5), .val (.int nn), .val (.int ta), .val (.int tb), .val (.int ts), .val (.int ca), .val (.int cb), .val (.int cs), .val (.ref b4), .unset, .unset, .val (.int tb), .val (.int ta), .val (.int cb), .val (.int ca)] own_d_code_203 rfl ?_
      refine own_ldc2 X40 (hw _ (List.mem_of_getElem? (i := 95) rfl)) own_d_code_205 ?_
      refine own_iload X40 own_d_code_208 rfl ?_
      refine own_iload X40 own_d_code_210 rfl ?_
      refine own_callS X40 (y := (⟨"com/example/depth2/depth2/PackedMarkingHashPinLaw", "step", "(JII)J"⟩ : MethodName)) [(.long (2 : Int64)), (.int tb), (.int cb)] [] 0 rfl (hw _ (List.mem_of_getElem? (i := 85) rfl)) (hw _ (List.mem_of_getElem? (i := 86) rfl)) (hw _ (List.mem_of_getElem? (i := 87) rfl)) (hw _ (List.mem_of_getElem? (i := 88) rfl)) (by decide) (own_step l Z a0 hw (2 : Int64) tb cb h35 n0 X40.sz) own_d_code_212 own_pd__JII_J rfl rfl (by show 2 * 0 + _ ≤ _; exact Nat.le_of_eq rfl) (by decide) (by decide) (by decide) (by decide) ?_
      intro T41 h41 v41 X41 P41
      obtain ⟨rfl, eh41⟩ := P41
      rw [eh41] at X41
      show own_Wins p e below A T41 (mkF m 215 #[.val (.int i0), .val (.int i1), .val (.int i2), .val (.int i3), .val (.int i4), .val (.int i5), .val (.int nn), .val (.int ta), .val (.int tb), .val (.int ts), .val (.int ca), .val (.int cb), .val (.int cs), .val (.ref b4), .unset, .unset, .val (.int tb), .val (.int ta), .val (.int cb), .val (.int ca)] [(.long (own_stp (2 : Int64) tb cb))])
      refine own_iload X41 own_d_code_215 rfl ?_
      refine own_iload X41 own_d_code_217 rfl ?_
      refine own_callS X41 (y := (⟨"com/example/depth2/depth2/PackedMarkingHashPinLaw", "step", "(JII)J"⟩ : MethodName)) [(.long (own_stp (2 : Int64) tb cb)), (.int ta), (.int ca)] [] 0 rfl (hw _ (List.mem_of_getElem? (i := 85) rfl)) (hw _ (List.mem_of_getElem? (i := 86) rfl)) (hw _ (List.mem_of_getElem? (i := 87) rfl)) (hw _ (List.mem_of_getElem? (i := 88) rfl)) (by decide) (own_step l Z a0 hw (own_stp (2 : Int64) tb cb) ta ca h35 n0 X41.sz) own_d_code_219 own_pd__JII_J rfl rfl (by show 2 * 0 + _ ≤ _; exact Nat.le_of_eq rfl) (by decide) (by decide) (by decide) (by decide) ?_
      intro T42 h42 v42 X42 P42
      obtain ⟨rfl, eh42⟩ := P42
      rw [eh42] at X42
      show own_Wins p e below A T42 (mkF m 222 #[.val (.int i0), .val (.int i1), .val (.int i2), .val (.int i3), .val (.int i4), .val (.int i5), .val (.int nn), .val (.int ta), .val (.int tb), .val (.int ts), .val (.int ca), .val (.int cb), .val (.int cs), .val (.ref b4), .unset, .unset, .val (.int tb), .val (.int ta), .val (.int cb), .val (.int ca)] [(.long (own_stp (own_stp (2 : Int64) tb cb) ta ca))])
      refine own_lstore X42 #[.val (.int i0), .val (.int i1), .val (.int i2), .val (.int i3), .val (.int i4), .val (.int i5), .val (.int nn), .val (.int ta), .val (.int tb), .val (.int ts), .val (.int ca), .val (.int cb), .val (.int cs), .val (.ref b4), .val (.long (own_stp (own_stp (2 : Int64) tb cb) ta ca)), .second, .val (.int tb), .val (.int ta), .val (.int cb), .val (.int ca)] own_d_code_222 rfl ?_
      refine own_aload X42 own_d_code_224 rfl ?_
      refine own_callV X42 (y := (⟨"com/example/depth2/depth2/PackedMarking", "hash", "()J"⟩ : MethodName)) [] [] 0 (a := b4) rfl (hw _ (List.mem_of_getElem? (i := 80) rfl)) (hw _ (List.mem_of_getElem? (i := 81) rfl)) (hw _ (List.mem_of_getElem? (i := 83) rfl)) (hw _ (List.mem_of_getElem? (i := 82) rfl)) (hw _ (List.mem_of_getElem? (i := 7) rfl)) (hw _ (List.mem_of_getElem? (i := 84) rfl)) (by decide) U35.1 (own_hash2 l Z a0 hw b4 b1 b2 b3 b5 tb cb ta ca (0 : Int32) (0 : Int32) (0 : Int32) (0 : Int32) (0 : Int32) (0 : Int32) (0 : Int32) (0 : Int32) (0 : Int32) (0 : Int32) (0 : Int32) (0 : Int32) h35 n0 X42.sz U35 A35 B35) own_d_code_226 own_pd___J rfl rfl (by show 2 * 0 + _ ≤ _; exact Nat.le_of_eq rfl) (by decide) (by decide) (by decide) (by decide) ?_
      intro T43 h43 v43 X43 P43
      obtain ⟨rfl, eh43⟩ := P43
      rw [eh43] at X43
      show own_Wins p e below A T43 (mkF m 229 #[.val (.int i0), .val (.int i1), .val (.int i2), .val (.int i3), .val (.int i4), .val (.int i5), .val (.int nn), .val (.int ta), .val (.int tb), .val (.int ts), .val (.int ca), .val (.int cb), .val (.int cs), .val (.ref b4), .val (.long (own_stp (own_stp (2 : Int64) tb cb) ta ca)), .second, .val (.int tb), .val (.int ta), .val (.int cb), .val (.int ca)] [(.long (own_hs (own_hs ((2 : Int32).toInt64) tb cb) ta ca))])
      refine own_lload X43 own_d_code_229 rfl ?_
      refine own_lcmp X43 own_d_code_231 ?_
      refine own_ifNo X43 own_d_code_232 ((if0 _ _).trans (teq ((lw_eq (own_hs (own_hs ((2 : Int32).toInt64) tb cb) ta ca) (own_stp (own_stp (2 : Int64) tb cb) ta ca)).2 (by rw [own_hs_stp _ tb cb kb tb_ lkb pcb, own_hs_stp _ ta ca ka ta_ lka pca]; rfl))).2) ?_
      refine own_ipush X43 own_d_code_235 ?_
      refine own_goto X43 own_d_code_236 ?_
      exact own_retZ X43 hret rfl fin (by decide) (by decide) rfl own_d_code_240
    · skip
      have hneq : ¬ ta = tb := mt (own_idx_eq ta_ tb_).mp (by omega)
      refine own_callV X31 (y := (⟨"com/example/depth2/depth2/PackedMarking", "add", "(II)V"⟩ : MethodName)) [(.int tb), (.int cb)] [] 0 (a := b4) rfl (hw _ (List.mem_of_getElem? (i := 54) rfl)) (hw _ (List.mem_of_getElem? (i := 55) rfl)) (hw _ (List.mem_of_getElem? (i := 57) rfl)) (hw _ (List.mem_of_getElem? (i := 56) rfl)) (hw _ (List.mem_of_getElem? (i := 7) rfl)) (hw _ (List.mem_of_getElem? (i := 58) rfl)) (by decide) U31.1 (own_addC l Z a0 hw b4 b1 b2 b3 b5 nb ar pa ha sa tb cb kb ta (0 : Int32) (0 : Int32) (0 : Int32) (0 : Int32) (0 : Int32) (0 : Int32) (0 : Int32) ca (0 : Int32) (0 : Int32) (0 : Int32) (0 : Int32) (0 : Int32) (0 : Int32) (0 : Int32) (0 : Int32) (0 : Int32) (0 : Int32) (0 : Int32) (0 : Int32) (0 : Int32) (0 : Int32) (0 : Int32) h31 n0 X31.sz U31 ga_b4 A31 B31 D31 g1 g2 g3 F32_b5 F33_nb F34_pa (Ne.symm (Ne.symm ne_b4_b1)) (Ne.symm (Ne.symm ne_b4_b2)) (Ne.symm (Ne.symm ne_b4_b3)) (Ne.symm (Ne.symm ne_b4_b5)) (Ne.symm (Ne.symm ne_b4_nb)) (Ne.symm (Ne.symm ne_b4_pa)) hq12 hq13 (Ne.symm ne_b5_b1) (Ne.symm ne_nb_b1) (Ne.symm ne_pa_b1) hq23 (Ne.symm ne_b5_b2) (Ne.symm ne_nb_b2) (Ne.symm ne_pa_b2) (Ne.symm ne_b5_b3) (Ne.symm ne_nb_b3) (Ne.symm ne_pa_b3) tb_ lkb hgt hneq) own_d_code_122 own_pd__II_V rfl rfl (by show 2 * 0 + _ ≤ _; exact Nat.le_of_eq rfl) (by decide) (by decide) (by decide) (by decide) ?_
      intro T44 h44 v44 X44 P44
      obtain ⟨rfl, Kc44, U44, A44, B44, D44⟩ := P44
      have F45_b5 : own_Obj Z h44 b5 "com/example/depth2/depth2/NetTokenTable" own_ns_Tb [(.ref nb)] := F32_b5.keep Kc44 (ninS (Ne.symm ne_b4_b5) (ninS (Ne.symm (Ne.symm ne_b5_b1)) (ninS (Ne.symm (Ne.symm ne_b5_b2)) (ninS (Ne.symm (Ne.symm ne_b5_b3)) nin0))))
      have F46_nb : own_Obj Z h44 nb "com/example/depth2/depth2/NetTokenTable$Numbered" own_ns_Nu [(.ref ar), (.ref pa), (.ref ha), (.ref sa)] := F33_nb.keep Kc44 (ninS (Ne.symm ne_b4_nb) (ninS (Ne.symm (Ne.symm ne_nb_b1)) (ninS (Ne.symm (Ne.symm ne_nb_b2)) (ninS (Ne.symm (Ne.symm ne_nb_b3)) nin0))))
      have F47_pa : own_AL Z h44 pa .int [(.int (0 : Int32)), (.int (0 : Int32)), (.int (0 : Int32)), (.int (0 : Int32)), (.int (0 : Int32)), (.int (0 : Int32)), (.int (0 : Int32)), (.int (0 : Int32)), (.int (0 : Int32)), (.int (0 : Int32)), (.int (0 : Int32)), (.int (0 : Int32)), (.int (0 : Int32)), (.int (0 : Int32)), (.int (0 : Int32)), (.int (0 : Int32))] := F34_pa.keep Kc44 (ninS (Ne.symm ne_b4_pa) (ninS (Ne.symm (Ne.symm ne_pa_b1)) (ninS (Ne.symm (Ne.symm ne_pa_b2)) (ninS (Ne.symm (Ne.symm ne_pa_b3)) nin0))))
      show own_Wins p e below A T44 (mkF m 125 #[.val (.int i0), .val (.int i1), .val (.int i2), .val (.int i3), .val (.int i4), .val (.int i5), .val (.int nn), .val (.int ta), .val (.int tb), .val (.int ts), .val (.int ca), .val (.int cb), .val (.int cs), .val (.ref b4), .unset, .unset, .unset, .unset, .unset, .unset] [])
      refine own_iload X44 own_d_code_125 rfl ?_
      refine own_ifYes X44 own_d_code_127 ((if0 _ _).trans (feq (mt (own_idx_eq nn_ (n := 0) ⟨by decide, by decide⟩).mp (by omega))).2) ?_
      refine own_iload X44 own_d_code_136 rfl ?_
      refine own_ipush X44 own_d_code_138 ?_
      refine own_icYes X44 own_d_code_139 (feq (mt (own_idx_eq nn_ (n := 1) ⟨by decide, by decide⟩).mp (by omega))).2 ?_
      refine own_iload X44 own_d_code_155 rfl ?_
      refine own_iload X44 own_d_code_157 rfl ?_
      refine own_callS X44 (y := (⟨"java/lang/Math", "min", "(II)I"⟩ : MethodName)) [(.int ta), (.int tb)] [] 0 rfl (hw _ (List.mem_of_getElem? (i := 92) rfl)) (hw _ (List.mem_of_getElem? (i := 93) rfl)) (hw _ (List.mem_of_getElem? (i := 3) rfl)) (hw _ (List.mem_of_getElem? (i := 94) rfl)) (by decide) (own_min l Z a0 hw ta tb h44 n0 X44.sz) own_d_code_159 own_pd__II_I rfl rfl (by show 2 * 0 + _ ≤ _; exact Nat.le_of_eq rfl) (by decide) (by decide) (by decide) (by decide) ?_
      intro T48 h48 v48 X48 P48
      obtain ⟨rfl, eh48⟩ := P48
      rw [eh48] at X48
      show own_Wins p e below A T48 (mkF m 162 #[.val (.int i0), .val (.int i1), .val (.int i2), .val (.int i3), .val (.int i4), .val (.int i5), .val (.int nn), .val (.int ta), .val (.int tb), .val (.int ts), .val (.int ca), .val (.int cb), .val (.int cs), .val (.ref b4), .unset, .unset, .unset, .unset, .unset, .unset] [(.int (own_mn ta tb))])
      rw [show own_mn ta tb = ta by rw [own_mn, if_neg hgt]]
      refine own_istore X48 #[.val (.int i0), .val (.int i1), .val (.int i2), .val (.int i3), .val (.int i4), .val (.int i5), .val (.int nn), .val (.int ta), .val (.int tb), .val (.int ts), .val (.int ca), .val (.int cb), .val (.int cs), .val (.ref b4), .unset, .unset, .val (.int ta), .unset, .unset, .unset] own_d_code_162 rfl ?_
      refine own_iload X48 own_d_code_164 rfl ?_
      refine own_iload X48 own_d_code_166 rfl ?_
      refine own_callS X48 (y := (⟨"java/lang/Math", "max", "(II)I"⟩ : MethodName)) [(.int ta), (.int tb)] [] 0 rfl (hw _ (List.mem_of_getElem? (i := 1) rfl)) (hw _ (List.mem_of_getElem? (i := 2) rfl)) (hw _ (List.mem_of_getElem? (i := 3) rfl)) (hw _ (List.mem_of_getElem? (i := 4) rfl)) (by decide) (own_max l Z a0 hw ta tb h44 n0 X48.sz) own_d_code_168 own_pd__II_I rfl rfl (by show 2 * 0 + _ ≤ _; exact Nat.le_of_eq rfl) (by decide) (by decide) (by decide) (by decide) ?_
      intro T49 h49 v49 X49 P49
      obtain ⟨rfl, eh49⟩ := P49
      rw [eh49] at X49
      show own_Wins p e below A T49 (mkF m 171 #[.val (.int i0), .val (.int i1), .val (.int i2), .val (.int i3), .val (.int i4), .val (.int i5), .val (.int nn), .val (.int ta), .val (.int tb), .val (.int ts), .val (.int ca), .val (.int cb), .val (.int cs), .val (.ref b4), .unset, .unset, .val (.int ta), .unset, .unset, .unset] [(.int (own_mx ta tb))])
      rw [show own_mx ta tb = tb by rw [own_mx, if_pos (own_lt_of hgt hneq)]]
      refine own_istore X49 #[.val (.int i0), .val (.int i1), .val (.int i2), .val (.int i3), .val (.int i4), .val (.int i5), .val (.int nn), .val (.int ta), .val (.int tb), .val (.int ts), .val (.int ca), .val (.int cb), .val (.int cs), .val (.ref b4), .unset, .unset, .val (.int ta), .val (.int tb), .unset, .unset] own_d_code_171 rfl ?_
      refine own_iload X49 own_d_code_173 rfl ?_
      refine own_iload X49 own_d_code_175 rfl ?_
      refine own_icNo X49 own_d_code_177 (teq rfl).2 ?_
      refine own_iload X49 own_d_code_180 rfl ?_
      refine own_goto X49 own_d_code_182 ?_
      refine own_istore X49 #[.val (.int i0), .val (.int i1), .val (.int i2), .val (.int i3), .val (.int i4), .val (.int i5), .val (.int nn), .val (.int ta), .val (.int tb), .val (.int ts), .val (.int ca), .val (.int cb), .val (.int cs), .val (.ref b4), .unset, .unset, .val (.int ta), .val (.int tb), .val (.int ca), .unset] own_d_code_187 rfl ?_
      refine own_iload X49 own_d_code_189 rfl ?_
      refine own_iload X49 own_d_code_191 rfl ?_
      refine own_icYes X49 own_d_code_193 (feq (fun q => hneq q.symm)).2 ?_
      refine own_iload X49 own_d_code_201 rfl ?_
      refine own_istore X49 #[.val (.int i0), .val (.int i1), .val (.int i2), .val (.int i3), .val (.int i4), .val (.int i5), .val (.int nn), .val (.int ta), .val (.int tb), .val (.int ts), .val (.int ca), .val (.int cb), .val (.int cs), .val (.ref b4), .unset, .unset, .val (.int ta), .val (.int tb), .val (.int ca), .val (.int cb)] own_d_code_203 rfl ?_
      refine own_ldc2 X49 (hw _ (List.mem_of_getElem? (i := 95) rfl)) own_d_code_205 ?_
      refine own_iload X49 own_d_code_208 rfl ?_
      refine own_iload X49 own_d_code_210 rfl ?_
      refine own_callS X49 (y := (⟨"com/example/depth2/depth2/PackedMarkingHashPinLaw", "step", "(JII)J"⟩ : MethodName)) [(.long (2 : Int64)), (.int ta), (.int ca)] [] 0 rfl (hw _ (List.mem_of_getElem? (i := 85) rfl)) (hw _ (List.mem_of_getElem? (i := 86) rfl)) (hw _ (List.mem_of_getElem? (i := 87) rfl)) (hw _ (List.mem_of_getElem? (i := 88) rfl)) (by decide) (own_step l Z a0 hw (2 : Int64) ta ca h44 n0 X49.sz) own_d_code_212 own_pd__JII_J rfl rfl (by show 2 * 0 + _ ≤ _; exact Nat.le_of_eq rfl) (by decide) (by decide) (by decide) (by decide) ?_
      intro T50 h50 v50 X50 P50
      obtain ⟨rfl, eh50⟩ := P50
      rw [eh50] at X50
      show own_Wins p e below A T50 (mkF m 215 #[.val (.int i0), .val (.int i1), .val (.int i2), .val (.int i3), .val (.int i4), .val (.int i5), .val (.int nn), .val (.int ta), .val (.int tb), .val (.int ts), .val (.int ca), .val (.int cb), .val (.int cs), .val (.ref b4), .unset, .unset, .val (.int ta), .val (.int tb), .val (.int ca), .val (.int cb)] [(.long (own_stp (2 : Int64) ta ca))])
      refine own_iload X50 own_d_code_215 rfl ?_
      refine own_iload X50 own_d_code_217 rfl ?_
      refine own_callS X50 (y := (⟨"com/example/depth2/depth2/PackedMarkingHashPinLaw", "step", "(JII)J"⟩ : MethodName)) [(.long (own_stp (2 : Int64) ta ca)), (.int tb), (.int cb)] [] 0 rfl (hw _ (List.mem_of_getElem? (i := 85) rfl)) (hw _ (List.mem_of_getElem? (i := 86) rfl)) (hw _ (List.mem_of_getElem? (i := 87) rfl)) (hw _ (List.mem_of_getElem? (i := 88) rfl)) (by decide) (own_step l Z a0 hw (own_stp (2 : Int64) ta ca) tb cb h44 n0 X50.sz) own_d_code_219 own_pd__JII_J rfl rfl (by show 2 * 0 + _ ≤ _; exact Nat.le_of_eq rfl) (by decide) (by decide) (by decide) (by decide) ?_
      intro T51 h51 v51 X51 P51
      obtain ⟨rfl, eh51⟩ := P51
      rw [eh51] at X51
      show own_Wins p e below A T51 (mkF m 222 #[.val (.int i0), .val (.int i1), .val (.int i2), .val (.int i3), .val (.int i4), .val (.int i5), .val (.int nn), .val (.int ta), .val (.int tb), .val (.int ts), .val (.int ca), .val (.int cb), .val (.int cs), .val (.ref b4), .unset, .unset, .val (.int ta), .val (.int tb), .val (.int ca), .val (.int cb)] [(.long (own_stp (own_stp (2 : Int64) ta ca) tb cb))])
      refine own_lstore X51 #[.val (.int i0), .val (.int i1), .val (.int i2), .val (.int i3), .val (.int i4), .val (.int i5), .val (.int nn), .val (.int ta), .val (.int tb), .val (.int ts), .val (.int ca), .val (.int cb), .val (.int cs), .val (.ref b4), .val (.long (own_stp (own_stp (2 : Int64) ta ca) tb cb)), .second, .val (.int ta), .val (.int tb), .val (.int ca), .val (.int cb)] own_d_code_222 rfl ?_
      refine own_aload X51 own_d_code_224 rfl ?_
      refine own_callV X51 (y := (⟨"com/example/depth2/depth2/PackedMarking", "hash", "()J"⟩ : MethodName)) [] [] 0 (a := b4) rfl (hw _ (List.mem_of_getElem? (i := 80) rfl)) (hw _ (List.mem_of_getElem? (i := 81) rfl)) (hw _ (List.mem_of_getElem? (i := 83) rfl)) (hw _ (List.mem_of_getElem? (i := 82) rfl)) (hw _ (List.mem_of_getElem? (i := 7) rfl)) (hw _ (List.mem_of_getElem? (i := 84) rfl)) (by decide) U44.1 (own_hash2 l Z a0 hw b4 b1 b2 b3 b5 ta ca tb cb (0 : Int32) (0 : Int32) (0 : Int32) (0 : Int32) (0 : Int32) (0 : Int32) (0 : Int32) (0 : Int32) (0 : Int32) (0 : Int32) (0 : Int32) (0 : Int32) h44 n0 X51.sz U44 A44 B44) own_d_code_226 own_pd___J rfl rfl (by show 2 * 0 + _ ≤ _; exact Nat.le_of_eq rfl) (by decide) (by decide) (by decide) (by decide) ?_
      intro T52 h52 v52 X52 P52
      obtain ⟨rfl, eh52⟩ := P52
      rw [eh52] at X52
      show own_Wins p e below A T52 (mkF m 229 #[.val (.int i0), .val (.int i1), .val (.int i2), .val (.int i3), .val (.int i4), .val (.int i5), .val (.int nn), .val (.int ta), .val (.int tb), .val (.int ts), .val (.int ca), .val (.int cb), .val (.int cs), .val (.ref b4), .val (.long (own_stp (own_stp (2 : Int64) ta ca) tb cb)), .second, .val (.int ta), .val (.int tb), .val (.int ca), .val (.int cb)] [(.long (own_hs (own_hs ((2 : Int32).toInt64) ta ca) tb cb))])
      refine own_lload X52 own_d_code_229 rfl ?_
      refine own_lcmp X52 own_d_code_231 ?_
      refine own_ifNo X52 own_d_code_232 ((if0 _ _).trans (teq ((lw_eq (own_hs (own_hs ((2 : Int32).toInt64) ta ca) tb cb) (own_stp (own_stp (2 : Int64) ta ca) tb cb)).2 (by rw [own_hs_stp _ ta ca ka ta_ lka pca, own_hs_stp _ tb cb kb tb_ lkb pcb]; rfl))).2) ?_
      refine own_ipush X52 own_d_code_235 ?_
      refine own_goto X52 own_d_code_236 ?_
      exact own_retZ X52 hret rfl fin (by decide) (by decide) rfl own_d_code_240
set_option maxRecDepth 65536 in
set_option maxHeartbeats 40000000 in
theorem own_comes {Post : Tables → Env → Array Value → State → Outcome → State → Prop} (hpost : ∀ tb e args s v u, (limb_1_1.after args s (.returned v) u = true ∧ limb_1_2.after args s (.returned v) u = true) → FrameEnd s (.returned v) u (Jvm.fieldLocs frame_1_writes args s ++ Jvm.arrayLocs frame_1_arrays args s ++ Jvm.staticLocs frame_1_statics s) 32 320 → Post tb e args s (.returned v) u) :
    ArmFor flags0 classFile x code maxLocals ret World_1 tables_1 room_1 Calls_1 rest_1 Pre_1 Post := by
  intro l hfl _ _ p e ha hc hk s m args below hf hA hF happ hP
  obtain ⟨hcalls, hrest, hpre⟩ := hP
  obtain ⟨-, -, -, hnamed, -, -, -, hat⟩ := (Spec.applies_iff hf).mp happ
  obtain ⟨hg, hn⟩ := and_e (Cond.before_iff.mp (show (Jvm.Cond.and given_1 narrow_1).before args s = true from hpre))
  obtain ⟨gc, g0⟩ := and_e hg
  obtain ⟨q0, g1⟩ := and_e g0
  obtain ⟨q1, g2⟩ := and_e g1
  obtain ⟨q2, g3⟩ := and_e g2
  obtain ⟨q3, g4⟩ := and_e g3
  obtain ⟨q4, g5⟩ := and_e g4
  obtain ⟨w0, w1, w2, w3, w4, w5, rfl⟩ : ∃ w0 w1 w2 w3 w4 w5 : Value, args = #[w0, w1, w2, w3, w4, w5] := by
    have hs : args.size = 6 := by simpa [Cond.value, given_1] using gc
    obtain ⟨L⟩ := args
    match L, hs with
    | [w0, w1, w2, w3, w4, w5], _ => exact ⟨w0, w1, w2, w3, w4, w5, rfl⟩
  have hw := fun d (hd : d ∈ tables_1) => atoms_spec (ws := Jvm.Cond.code x code maxLocals ret :: tables_1) hat d (List.mem_cons_of_mem _ hd)
  obtain ⟨i0, ei0⟩ := is_v q0
  obtain rfl : w0 = (.int i0) := Option.some.inj ei0
  obtain ⟨i1, ei1⟩ := is_v q1
  obtain rfl : w1 = (.int i1) := Option.some.inj ei1
  obtain ⟨i2, ei2⟩ := is_v q2
  obtain rfl : w2 = (.int i2) := Option.some.inj ei2
  obtain ⟨i3, ei3⟩ := is_v q3
  obtain rfl : w3 = (.int i3) := Option.some.inj ei3
  obtain ⟨i4, ei4⟩ := is_v q4
  obtain rfl : w4 = (.int i4) := Option.some.inj ei4
  obtain ⟨i5, ei5⟩ := is_v g5
  obtain rfl : w5 = (.int i5) := Option.some.inj ei5
  obtain ⟨n, o, h1, h2, h3, _, L, rfl, ⟨N, -, rfl⟩, hq⟩ := own_law l s _ hw i0 i1 i2 i3 i4 i5 s.heap s.heap.size (Nat.le_refl _) p e ha hc hk s m _ below hf ((Spec.applies_iff_loose hf).mp happ).1 ⟨rfl, State.Warmed39.refl s, rfl⟩ trivial
  refine ⟨n, _, h1, h2, h3, hpost _ _ _ _ _ _ ⟨Cond.after_iff.mpr rfl, Cond.after_iff.mpr (eq_i res_at (Term.int_eval (1)) rfl)⟩ ⟨hq.1, hq.2.1, (hq.2.2.sift fun y hy => Or.inr (N y hy)).mono (by decide) (by decide)⟩⟩
theorem main_1_1 : Claimed_1_1 := own_comes fun _ _ _ _ _ _ h hF => ⟨h.1, hF⟩
theorem main_1_2 : Claimed_1_2 := own_comes fun _ _ _ _ _ _ h hF => ⟨h.2, hF⟩
end Jvm.Pilot.@@N@@
namespace Jvm.Pilot.@@N@@
open Jvm Jvm.ClassFile Sem Op Lib Jvm.Free Jvm.Stand Jvm.Pilot.@@N@@.Jvm.D
/-! MADE BY PROGRAM (witnessworld.py) out of the Statement's table words and the real class files: 17 classes; the members and pool entries that the words name. The judged class is class 1, her method 2. -/
namespace start1
open Jvm.ClassFile
def u (s : String) : CpInfo := .utf8 (stringToUtf16 s)
/-- a pool by its gaps: so many unusable entries, then the entry; so many at the end -/
def gap : Nat → List CpInfo → List CpInfo
  | 0, r => r
  | n + 1, r => .unusable :: gap n r
def poolList (es : List (Nat × CpInfo)) (last : Nat) : List CpInfo := es.foldr (fun e r => gap e.1 (e.2 :: r)) (gap last [])
def pool (es : List (Nat × CpInfo)) (last : Nat) : Array CpInfo := ⟨poolList es last⟩
def fileOf (pool : Array CpInfo) (this : Nat) (attrs : Array Attribute := #[]) (ms : Array MethodInfo := #[]) (fl : Nat := 33) (sup : Nat := 0) (ifs : Array Nat := #[]) (fds : Array FieldInfo := #[]) : ClassFile where
  minorVersion := 0
  majorVersion := 65
  constantPool := pool
  accessFlags := fl
  thisClass := this
  superClass := sup
  interfaces := ifs
  fields := fds
  methods := ms
  attributes := attrs
def plain (name : String) (sup : Option ClassId) : Class where
  name := name
  kind := .ordinary
  loader := none
  accessFlags := 33
  super := sup
  interfaces := #[]
  cf := none
  fields := #[]
  methods := #[]
  instanceTypes := #[]
  staticTypes := #[]
  resolved := #[]
  callSites := []
  init := .initialized
  statics := none
  mirror := none

def pool0 : Array CpInfo := pool [(5, u "<init>"), (0, u "()V"), (1, .class_ 10), (1, u "java/lang/Object")] 113

def k0c0 : Code := { maxStack := 0, maxLocals := 1, code := object_method_1_code, exceptionTable := #[], attributes := #[] }
def k0m0 : Method := { name := "<init>", desc := "()V", sig := { parameters := [], returnType := none }, accessFlags := 1, code := some k0c0 }
/-- java/lang/Object -/
def k0 : Class := { plain "java/lang/Object" none with
  accessFlags := 33
  interfaces := #[]
  cf := some (fileOf pool0 8 #[] #[{ accessFlags := 1, nameIndex := 5, descriptorIndex := 6, attributes := #[] }] 33 0 #[] #[])
  fields := #[]
  methods := #[k0m0]
  instanceTypes := #[]
  staticTypes := #[]
  resolved := Array.replicate 124 none
  statics := none }

def pool1 : Array CpInfo := pool [(2, .class_ 4), (0, .nameAndType 5 6), (0, u "java/lang/Object"), (0, u "<init>"), (0, u "()V"), (0, .long 4294967296), (1, .class_ 10), (0, u "com/example/depth2/depth2/PackedMarkingHashPinLaw"), (0, .long 11400714819323198485), (1, .integer 2147483647), (0, .methodref 15 16), (0, .class_ 17), (0, .nameAndType 18 19), (0, u "java/lang/Math"), (0, u "max"), (0, u "(II)I"), (0, .class_ 21), (0, u "com/example/depth2/depth2/PackedMarking"), (0, .class_ 23), (0, u "com/example/depth2/depth2/NetTokenTable"), (0, .methodref 22 3), (0, .methodref 20 26), (0, .nameAndType 5 27), (0, u "(Lcom/example/depth2/depth2/NetTokenTable;)V"), (0, .methodref 20 29), (0, .nameAndType 30 31), (0, u "add"), (0, u "(II)V"), (0, .methodref 20 33), (0, .nameAndType 34 6), (0, u "clear"), (0, .methodref 9 36), (0, .nameAndType 37 38), (0, u "step"), (0, u "(JII)J"), (0, .methodref 15 40), (0, .nameAndType 41 19), (0, u "min"), (0, .long 2), (1, .methodref 20 45), (0, .nameAndType 46 47), (0, u "hash"), (0, u "()J"), (0, u "K"), (0, u "J"), (3, u "law"), (0, u "(IIIIII)Z")] 3

def k1m0 : Method := { name := "<init>", desc := "()V", sig := { parameters := [], returnType := none }, accessFlags := 1, code := none }
def k1c1 : Code := { maxStack := 6, maxLocals := 6, code := method_2_code, exceptionTable := #[], attributes := #[] }
def k1m1 : Method := { name := "step", desc := "(JII)J", sig := { parameters := [.long, .int, .int], returnType := some .long }, accessFlags := 10, code := some k1c1 }
def k1c2 : Code := { maxStack := 4, maxLocals := 20, code := code, exceptionTable := #[], attributes := #[] }
def k1m2 : Method := { name := "law", desc := "(IIIIII)Z", sig := { parameters := [.int, .int, .int, .int, .int, .int], returnType := some .boolean }, accessFlags := 9, code := some k1c2 }
/-- com/example/depth2/depth2/PackedMarkingHashPinLaw -/
def k1 : Class := { plain "com/example/depth2/depth2/PackedMarkingHashPinLaw" (some 0) with
  accessFlags := 49
  interfaces := #[]
  cf := some (fileOf pool1 9 #[] #[{ accessFlags := 1, nameIndex := 5, descriptorIndex := 6, attributes := #[] }, { accessFlags := 10, nameIndex := 37, descriptorIndex := 38, attributes := #[] }, { accessFlags := 9, nameIndex := 53, descriptorIndex := 54, attributes := #[] }] 49 2 #[] #[{ accessFlags := 26, nameIndex := 48, descriptorIndex := 49, attributes := #[] }])
  fields := #[{ name := "K", type := .long, accessFlags := 26, slot := 0, constantValue := 0 }]
  methods := #[k1m0, k1m1, k1m2]
  instanceTypes := #[]
  staticTypes := #[.long]
  resolved := Array.replicate 58 none
  statics := none }

def pool2 : Array CpInfo := pool [(1, .class_ 2), (0, u "java/lang/Math"), (1, .class_ 6), (1, u "java/lang/Object"), (0, u "<init>"), (0, u "()V"), (89, .class_ 100), (1, u "java/lang/Math$RandomNumberGeneratorHolder"), (71, u "negativeZeroFloatBits"), (0, u "J"), (2, u "negativeZeroDoubleBits"), (21, u "max"), (2, u "min"), (43, u "$assertionsDisabled"), (0, u "Z"), (88, u "(II)I"), (2, u "twoToTheDoubleScaleDown"), (0, u "D"), (4, u "twoToTheDoubleScaleUp"), (9, u "E"), (3, u "PI"), (2, u "TAU"), (2, u "DEGREES_TO_RADIANS"), (0, u "RADIANS_TO_DEGREES")] 94

def k2m0 : Method := { name := "<init>", desc := "()V", sig := { parameters := [], returnType := none }, accessFlags := 2, code := none }
def k2c1 : Code := { maxStack := 2, maxLocals := 2, code := jdk_29_method_65_code, exceptionTable := #[], attributes := #[] }
def k2m1 : Method := { name := "max", desc := "(II)I", sig := { parameters := [.int, .int], returnType := some .int }, accessFlags := 9, code := some k2c1 }
def k2c2 : Code := { maxStack := 2, maxLocals := 2, code := jdk_29_method_69_code, exceptionTable := #[], attributes := #[] }
def k2m2 : Method := { name := "min", desc := "(II)I", sig := { parameters := [.int, .int], returnType := some .int }, accessFlags := 9, code := some k2c2 }
/-- java/lang/Math -/
def k2 : Class := { plain "java/lang/Math" (some 0) with
  accessFlags := 49
  interfaces := #[]
  cf := some (fileOf pool2 1 #[.nestMembers #[98]] #[{ accessFlags := 2, nameIndex := 7, descriptorIndex := 8, attributes := #[] }, { accessFlags := 9, nameIndex := 198, descriptorIndex := 335, attributes := #[] }, { accessFlags := 9, nameIndex := 201, descriptorIndex := 335, attributes := #[] }] 49 4 #[] #[{ accessFlags := 25, nameIndex := 354, descriptorIndex := 339, attributes := #[] }, { accessFlags := 25, nameIndex := 358, descriptorIndex := 339, attributes := #[] }, { accessFlags := 25, nameIndex := 361, descriptorIndex := 339, attributes := #[] }, { accessFlags := 26, nameIndex := 364, descriptorIndex := 339, attributes := #[] }, { accessFlags := 26, nameIndex := 365, descriptorIndex := 339, attributes := #[] }, { accessFlags := 26, nameIndex := 172, descriptorIndex := 173, attributes := #[] }, { accessFlags := 26, nameIndex := 176, descriptorIndex := 173, attributes := #[] }, { accessFlags := 8, nameIndex := 344, descriptorIndex := 339, attributes := #[] }, { accessFlags := 8, nameIndex := 338, descriptorIndex := 339, attributes := #[] }, { accessFlags := 4120, nameIndex := 245, descriptorIndex := 246, attributes := #[] }])
  fields := #[{ name := "E", type := .double, accessFlags := 25, slot := 0, constantValue := 0 }, { name := "PI", type := .double, accessFlags := 25, slot := 1, constantValue := 0 }, { name := "TAU", type := .double, accessFlags := 25, slot := 2, constantValue := 0 }, { name := "DEGREES_TO_RADIANS", type := .double, accessFlags := 26, slot := 3, constantValue := 0 }, { name := "RADIANS_TO_DEGREES", type := .double, accessFlags := 26, slot := 4, constantValue := 0 }, { name := "negativeZeroFloatBits", type := .long, accessFlags := 26, slot := 5, constantValue := 0 }, { name := "negativeZeroDoubleBits", type := .long, accessFlags := 26, slot := 6, constantValue := 0 }, { name := "twoToTheDoubleScaleUp", type := .double, accessFlags := 8, slot := 7, constantValue := 0 }, { name := "twoToTheDoubleScaleDown", type := .double, accessFlags := 8, slot := 8, constantValue := 0 }, { name := "$assertionsDisabled", type := .boolean, accessFlags := 4120, slot := 9, constantValue := 0 }]
  methods := #[k2m0, k2m1, k2m2]
  instanceTypes := #[]
  staticTypes := #[.double, .double, .double, .double, .double, .long, .long, .double, .double, .boolean]
  resolved := Array.replicate 460 none
  statics := none }

def pool3 : Array CpInfo := pool [(1, .methodref 2 3), (0, .class_ 4), (0, .nameAndType 5 6), (0, u "java/lang/Object"), (0, u "<init>"), (0, u "()V"), (0, .fieldref 8 9), (0, .class_ 10), (0, .nameAndType 11 12), (0, u "com/example/depth2/depth2/PackedMarking"), (0, u "tokens"), (0, u "[I"), (0, .fieldref 8 14), (0, .nameAndType 15 12), (0, u "copies"), (0, .fieldref 8 17), (0, .nameAndType 18 12), (0, u "places"), (0, .fieldref 8 20), (0, .nameAndType 21 22), (0, u "table"), (0, u "Lcom/example/depth2/depth2/NetTokenTable;"), (0, .fieldref 8 24), (0, .nameAndType 25 26), (0, u "size"), (0, u "I"), (1, .class_ 30), (1, u "com/example/depth2/depth2/NetTokenTable"), (55, u "add"), (0, u "(II)V"), (20, .methodref 109 110), (0, .class_ 111), (0, .nameAndType 112 113), (0, u "java/lang/System"), (0, u "arraycopy"), (0, u "(Ljava/lang/Object;ILjava/lang/Object;II)V"), (0, .methodref 28 115), (0, .nameAndType 116 117), (0, u "place"), (0, u "(I)I"), (9, .long 11400714819323198485), (11, u "(Lcom/example/depth2/depth2/NetTokenTable;)V"), (4, u "clear"), (10, u "hash"), (0, u "()J")] 5

def k3c0 : Code := { maxStack := 2, maxLocals := 2, code := prog_38_method_1_code, exceptionTable := #[], attributes := #[] }
def k3m0 : Method := { name := "<init>", desc := "(Lcom/example/depth2/depth2/NetTokenTable;)V", sig := { parameters := [(.object "com/example/depth2/depth2/NetTokenTable")], returnType := none }, accessFlags := 0, code := some k3c0 }
def k3c1 : Code := { maxStack := 2, maxLocals := 1, code := prog_38_method_8_code, exceptionTable := #[], attributes := #[] }
def k3m1 : Method := { name := "clear", desc := "()V", sig := { parameters := [], returnType := none }, accessFlags := 0, code := some k3c1 }
def k3c2 : Code := { maxStack := 6, maxLocals := 5, code := prog_38_method_13_code, exceptionTable := #[], attributes := #[] }
def k3m2 : Method := { name := "add", desc := "(II)V", sig := { parameters := [.int, .int], returnType := none }, accessFlags := 0, code := some k3c2 }
def k3c3 : Code := { maxStack := 6, maxLocals := 4, code := prog_38_method_15_code, exceptionTable := #[], attributes := #[] }
def k3m3 : Method := { name := "hash", desc := "()J", sig := { parameters := [], returnType := some .long }, accessFlags := 0, code := some k3c3 }
/-- com/example/depth2/depth2/PackedMarking -/
def k3 : Class := { plain "com/example/depth2/depth2/PackedMarking" (some 0) with
  accessFlags := 48
  interfaces := #[]
  cf := some (fileOf pool3 8 #[] #[{ accessFlags := 0, nameIndex := 5, descriptorIndex := 139, attributes := #[] }, { accessFlags := 0, nameIndex := 144, descriptorIndex := 6, attributes := #[] }, { accessFlags := 0, nameIndex := 86, descriptorIndex := 87, attributes := #[] }, { accessFlags := 0, nameIndex := 155, descriptorIndex := 156, attributes := #[] }] 48 2 #[] #[{ accessFlags := 18, nameIndex := 21, descriptorIndex := 22, attributes := #[] }, { accessFlags := 2, nameIndex := 25, descriptorIndex := 26, attributes := #[] }, { accessFlags := 2, nameIndex := 11, descriptorIndex := 12, attributes := #[] }, { accessFlags := 2, nameIndex := 15, descriptorIndex := 12, attributes := #[] }, { accessFlags := 2, nameIndex := 18, descriptorIndex := 12, attributes := #[] }])
  fields := #[{ name := "table", type := (.object "com/example/depth2/depth2/NetTokenTable"), accessFlags := 18, slot := 0, constantValue := 0 }, { name := "size", type := .int, accessFlags := 2, slot := 1, constantValue := 0 }, { name := "tokens", type := (.array .int), accessFlags := 2, slot := 2, constantValue := 0 }, { name := "copies", type := (.array .int), accessFlags := 2, slot := 3, constantValue := 0 }, { name := "places", type := (.array .int), accessFlags := 2, slot := 4, constantValue := 0 }]
  methods := #[k3m0, k3m1, k3m2, k3m3]
  instanceTypes := #[(.object "com/example/depth2/depth2/NetTokenTable"), .int, (.array .int), (.array .int), (.array .int)]
  staticTypes := #[]
  resolved := Array.replicate 162 none
  statics := none }

def pool4 : Array CpInfo := pool [(1, .methodref 2 3), (0, .class_ 4), (0, .nameAndType 5 6), (0, u "java/lang/Object"), (0, u "<init>"), (0, u "()V"), (0, .class_ 8), (0, u "com/example/depth2/depth2/NetTokenTable$Numbered"), (0, .class_ 10), (0, u "com/example/depth2/depth2/NetToken"), (0, .methodref 7 12), (0, .nameAndType 5 13), (0, u "([Lcom/example/depth2/depth2/NetToken;[I[I[I)V"), (0, .fieldref 15 16), (0, .class_ 17), (0, .nameAndType 18 19), (0, u "com/example/depth2/depth2/NetTokenTable"), (0, u "numbered"), (0, u "Lcom/example/depth2/depth2/NetTokenTable$Numbered;"), (4, .methodref 7 25), (0, .nameAndType 26 27), (0, u "places"), (0, u "()[I"), (13, u "(I)I"), (2, u "place"), (33, u "SLOT"), (0, u "Ljava/lang/invoke/VarHandle;"), (12, u "size"), (0, u "I")] 42

def k4c0 : Code := { maxStack := 7, maxLocals := 1, code := prog_34_method_1_code, exceptionTable := #[], attributes := #[] }
def k4m0 : Method := { name := "<init>", desc := "()V", sig := { parameters := [], returnType := none }, accessFlags := 0, code := some k4c0 }
def k4c1 : Code := { maxStack := 2, maxLocals := 2, code := prog_34_method_3_code, exceptionTable := #[], attributes := #[] }
def k4m1 : Method := { name := "place", desc := "(I)I", sig := { parameters := [.int], returnType := some .int }, accessFlags := 0, code := some k4c1 }
/-- com/example/depth2/depth2/NetTokenTable -/
def k4 : Class := { plain "com/example/depth2/depth2/NetTokenTable" (some 0) with
  accessFlags := 48
  interfaces := #[]
  cf := some (fileOf pool4 15 #[.nestMembers #[7]] #[{ accessFlags := 0, nameIndex := 5, descriptorIndex := 6, attributes := #[] }, { accessFlags := 0, nameIndex := 44, descriptorIndex := 41, attributes := #[] }] 48 2 #[] #[{ accessFlags := 26, nameIndex := 78, descriptorIndex := 79, attributes := #[] }, { accessFlags := 66, nameIndex := 18, descriptorIndex := 19, attributes := #[] }, { accessFlags := 2, nameIndex := 92, descriptorIndex := 93, attributes := #[] }])
  fields := #[{ name := "SLOT", type := (.object "java/lang/invoke/VarHandle"), accessFlags := 26, slot := 0, constantValue := 0 }, { name := "numbered", type := (.object "com/example/depth2/depth2/NetTokenTable$Numbered"), accessFlags := 66, slot := 0, constantValue := 0 }, { name := "size", type := .int, accessFlags := 2, slot := 1, constantValue := 0 }]
  methods := #[k4m0, k4m1]
  instanceTypes := #[(.object "com/example/depth2/depth2/NetTokenTable$Numbered"), .int]
  staticTypes := #[(.object "java/lang/invoke/VarHandle")]
  resolved := Array.replicate 7 none ++ #[some (.cls 6)] ++ Array.replicate 3 none ++ #[some (.method ⟨6, 0⟩)] ++ Array.replicate 124 none
  statics := none }

def pool5 : Array CpInfo := pool [(1, .methodref 2 3), (0, .class_ 4), (0, .nameAndType 5 6), (0, u "java/lang/Object"), (0, u "<init>"), (0, u "()V"), (0, .class_ 8), (0, u "java/lang/Record")] 13

def k5c0 : Code := { maxStack := 1, maxLocals := 1, code := jdk_30_method_1_code, exceptionTable := #[], attributes := #[] }
def k5m0 : Method := { name := "<init>", desc := "()V", sig := { parameters := [], returnType := none }, accessFlags := 4, code := some k5c0 }
/-- java/lang/Record -/
def k5 : Class := { plain "java/lang/Record" (some 0) with
  accessFlags := 1057
  interfaces := #[]
  cf := some (fileOf pool5 7 #[] #[{ accessFlags := 4, nameIndex := 5, descriptorIndex := 6, attributes := #[] }] 1057 2 #[] #[])
  fields := #[]
  methods := #[k5m0]
  instanceTypes := #[]
  staticTypes := #[]
  resolved := Array.replicate 22 none
  statics := none }

def pool6 : Array CpInfo := pool [(1, .methodref 2 3), (0, .class_ 4), (0, .nameAndType 5 6), (0, u "java/lang/Record"), (0, u "<init>"), (0, u "()V"), (0, .fieldref 8 9), (0, .class_ 10), (0, .nameAndType 11 12), (0, u "com/example/depth2/depth2/NetTokenTable$Numbered"), (0, u "tokens"), (0, u "[Lcom/example/depth2/depth2/NetToken;"), (0, .fieldref 8 14), (0, .nameAndType 15 16), (0, u "places"), (0, u "[I"), (0, .fieldref 8 18), (0, .nameAndType 19 16), (0, u "hashes"), (0, .fieldref 8 21), (0, .nameAndType 22 16), (0, u "slots"), (12, u "([Lcom/example/depth2/depth2/NetToken;[I[I[I)V"), (7, u "()[I"), (3, .class_ 48), (0, u "com/example/depth2/depth2/NetTokenTable")] 22

def k6c0 : Code := { maxStack := 2, maxLocals := 5, code := prog_35_method_1_code, exceptionTable := #[], attributes := #[] }
def k6m0 : Method := { name := "<init>", desc := "([Lcom/example/depth2/depth2/NetToken;[I[I[I)V", sig := { parameters := [(.array (.object "com/example/depth2/depth2/NetToken")), (.array .int), (.array .int), (.array .int)], returnType := none }, accessFlags := 2, code := some k6c0 }
def k6c1 : Code := { maxStack := 1, maxLocals := 1, code := prog_35_method_6_code, exceptionTable := #[], attributes := #[] }
def k6m1 : Method := { name := "places", desc := "()[I", sig := { parameters := [], returnType := some (.array .int) }, accessFlags := 1, code := some k6c1 }
/-- com/example/depth2/depth2/NetTokenTable$Numbered -/
def k6 : Class := { plain "com/example/depth2/depth2/NetTokenTable$Numbered" (some 5) with
  accessFlags := 48
  interfaces := #[]
  cf := some (fileOf pool6 8 #[.nestHost 47] #[{ accessFlags := 2, nameIndex := 5, descriptorIndex := 35, attributes := #[] }, { accessFlags := 1, nameIndex := 15, descriptorIndex := 43, attributes := #[] }] 48 2 #[] #[{ accessFlags := 18, nameIndex := 11, descriptorIndex := 12, attributes := #[] }, { accessFlags := 18, nameIndex := 15, descriptorIndex := 16, attributes := #[] }, { accessFlags := 18, nameIndex := 19, descriptorIndex := 16, attributes := #[] }, { accessFlags := 18, nameIndex := 22, descriptorIndex := 16, attributes := #[] }])
  fields := #[{ name := "tokens", type := (.array (.object "com/example/depth2/depth2/NetToken")), accessFlags := 18, slot := 0, constantValue := 0 }, { name := "places", type := (.array .int), accessFlags := 18, slot := 1, constantValue := 0 }, { name := "hashes", type := (.array .int), accessFlags := 18, slot := 2, constantValue := 0 }, { name := "slots", type := (.array .int), accessFlags := 18, slot := 3, constantValue := 0 }]
  methods := #[k6m0, k6m1]
  instanceTypes := #[(.array (.object "com/example/depth2/depth2/NetToken")), (.array .int), (.array .int), (.array .int)]
  staticTypes := #[]
  resolved := Array.replicate 71 none
  statics := none }

def pool7 : Array CpInfo := pool [(1, .class_ 2), (0, u "java/lang/Comparable"), (0, .class_ 4), (0, u "java/lang/Object")] 7

/-- java/lang/Comparable -/
def k7 : Class := { plain "java/lang/Comparable" (some 0) with
  accessFlags := 1537
  interfaces := #[]
  cf := some (fileOf pool7 1 #[] #[] 1537 3 #[] #[])
  fields := #[]
  methods := #[]
  instanceTypes := #[]
  staticTypes := #[]
  resolved := Array.replicate 12 none
  statics := none }

def pool8 : Array CpInfo := pool [(2, .class_ 4), (1, u "java/lang/Record"), (12, u "inner"), (7, .class_ 27), (1, u "com/example/depth2/depth2/NetToken"), (0, u "place"), (0, u "I"), (2, u "Lcom/example/depth2/depth2/Multiset;"), (26, .class_ 60), (0, u "java/lang/Comparable")] 41

/-- com/example/depth2/depth2/NetToken -/
def k8 : Class := { plain "com/example/depth2/depth2/NetToken" (some 5) with
  accessFlags := 49
  interfaces := #[7]
  cf := some (fileOf pool8 25 #[] #[] 49 2 #[59] #[{ accessFlags := 18, nameIndex := 28, descriptorIndex := 29, attributes := #[] }, { accessFlags := 18, nameIndex := 17, descriptorIndex := 32, attributes := #[] }])
  fields := #[{ name := "place", type := .int, accessFlags := 18, slot := 0, constantValue := 0 }, { name := "inner", type := (.object "com/example/depth2/depth2/Multiset"), accessFlags := 18, slot := 1, constantValue := 0 }]
  methods := #[]
  instanceTypes := #[.int, (.object "com/example/depth2/depth2/Multiset")]
  staticTypes := #[]
  resolved := Array.replicate 102 none
  statics := none }

def pool9 : Array CpInfo := pool [(2, .class_ 4), (1, u "java/lang/Object"), (0, u "<init>"), (0, u "()V"), (1, .class_ 10), (1, u "java/lang/System"), (0, u "allowSecurityManager"), (0, u "I"), (16, u "cons"), (0, u "Ljava/io/Console;"), (77, .class_ 110), (1, u "java/lang/System$CallersHolder"), (43, u "initialErrStream"), (0, u "Ljava/io/PrintStream;"), (19, u "security"), (0, u "Ljava/lang/SecurityManager;"), (31, .class_ 209), (0, u "java/lang/System$1"), (7, u "props"), (0, u "Ljava/util/Properties;"), (2, u "lineSeparator"), (0, u "Ljava/lang/String;"), (96, .class_ 321), (1, u "java/lang/System$LoggerFinder"), (5, .class_ 328), (0, u "java/lang/System$Logger"), (67, u "err"), (2, u "out"), (91, u "notSupportedJnuEncoding"), (15, u "in"), (17, u "initialIn"), (0, u "Ljava/io/InputStream;"), (35, u "bootLayer"), (0, u "Ljava/lang/ModuleLayer;"), (99, .class_ 664), (0, u "java/lang/System$2"), (9, u "NEVER"), (2, u "MAYBE"), (49, u "arraycopy"), (0, u "(Ljava/lang/Object;ILjava/lang/Object;II)V"), (72, .class_ 802), (0, u "java/lang/System$Logger$Level")] 31

def k9m0 : Method := { name := "<init>", desc := "()V", sig := { parameters := [], returnType := none }, accessFlags := 2, code := none }
def k9m1 : Method := { name := "arraycopy", desc := "(Ljava/lang/Object;ILjava/lang/Object;II)V", sig := { parameters := [(.object "java/lang/Object"), .int, (.object "java/lang/Object"), .int, .int], returnType := none }, accessFlags := 265, code := none }
/-- java/lang/System -/
def k9 : Class := { plain "java/lang/System" (some 0) with
  accessFlags := 49
  interfaces := #[]
  cf := some (fileOf pool9 8 #[.nestMembers #[319, 327, 801, 108, 663, 208]] #[{ accessFlags := 2, nameIndex := 5, descriptorIndex := 6, attributes := #[] }, { accessFlags := 265, nameIndex := 727, descriptorIndex := 728, attributes := #[] }] 49 2 #[] #[{ accessFlags := 25, nameIndex := 507, descriptorIndex := 526, attributes := #[] }, { accessFlags := 25, nameIndex := 399, descriptorIndex := 155, attributes := #[] }, { accessFlags := 25, nameIndex := 396, descriptorIndex := 155, attributes := #[] }, { accessFlags := 10, nameIndex := 525, descriptorIndex := 526, attributes := #[] }, { accessFlags := 26, nameIndex := 674, descriptorIndex := 12, attributes := #[] }, { accessFlags := 26, nameIndex := 677, descriptorIndex := 12, attributes := #[] }, { accessFlags := 10, nameIndex := 11, descriptorIndex := 12, attributes := #[] }, { accessFlags := 74, nameIndex := 175, descriptorIndex := 176, attributes := #[] }, { accessFlags := 10, nameIndex := 491, descriptorIndex := 222, attributes := #[] }, { accessFlags := 74, nameIndex := 29, descriptorIndex := 30, attributes := #[] }, { accessFlags := 74, nameIndex := 154, descriptorIndex := 155, attributes := #[] }, { accessFlags := 10, nameIndex := 217, descriptorIndex := 218, attributes := #[] }, { accessFlags := 10, nameIndex := 221, descriptorIndex := 222, attributes := #[] }, { accessFlags := 8, nameIndex := 562, descriptorIndex := 563, attributes := #[] }])
  fields := #[{ name := "in", type := (.object "java/io/InputStream"), accessFlags := 25, slot := 0, constantValue := 0 }, { name := "out", type := (.object "java/io/PrintStream"), accessFlags := 25, slot := 1, constantValue := 0 }, { name := "err", type := (.object "java/io/PrintStream"), accessFlags := 25, slot := 2, constantValue := 0 }, { name := "initialIn", type := (.object "java/io/InputStream"), accessFlags := 10, slot := 3, constantValue := 0 }, { name := "NEVER", type := .int, accessFlags := 26, slot := 4, constantValue := 0 }, { name := "MAYBE", type := .int, accessFlags := 26, slot := 5, constantValue := 0 }, { name := "allowSecurityManager", type := .int, accessFlags := 10, slot := 6, constantValue := 0 }, { name := "security", type := (.object "java/lang/SecurityManager"), accessFlags := 74, slot := 7, constantValue := 0 }, { name := "notSupportedJnuEncoding", type := (.object "java/lang/String"), accessFlags := 10, slot := 8, constantValue := 0 }, { name := "cons", type := (.object "java/io/Console"), accessFlags := 74, slot := 9, constantValue := 0 }, { name := "initialErrStream", type := (.object "java/io/PrintStream"), accessFlags := 74, slot := 10, constantValue := 0 }, { name := "props", type := (.object "java/util/Properties"), accessFlags := 10, slot := 11, constantValue := 0 }, { name := "lineSeparator", type := (.object "java/lang/String"), accessFlags := 10, slot := 12, constantValue := 0 }, { name := "bootLayer", type := (.object "java/lang/ModuleLayer"), accessFlags := 8, slot := 13, constantValue := 0 }]
  methods := #[k9m0, k9m1]
  instanceTypes := #[]
  staticTypes := #[(.object "java/io/InputStream"), (.object "java/io/PrintStream"), (.object "java/io/PrintStream"), (.object "java/io/InputStream"), .int, .int, .int, (.object "java/lang/SecurityManager"), (.object "java/lang/String"), (.object "java/io/Console"), (.object "java/io/PrintStream"), (.object "java/util/Properties"), (.object "java/lang/String"), (.object "java/lang/ModuleLayer")]
  resolved := Array.replicate 834 none
  statics := none }

def pool10 : Array CpInfo := pool [(1, u "java/lang/Cloneable"), (0, .class_ 1), (0, u "java/lang/Object"), (0, .class_ 3)] 3

/-- java/lang/Cloneable -/
def k10 : Class := { plain "java/lang/Cloneable" (some 0) with
  accessFlags := 1537
  interfaces := #[]
  cf := some (fileOf pool10 2 #[] #[] 1537 4 #[] #[])
  fields := #[]
  methods := #[]
  instanceTypes := #[]
  staticTypes := #[]
  resolved := Array.replicate 8 none
  statics := none }

def pool11 : Array CpInfo := pool [(1, u "java/io/Serializable"), (0, .class_ 1), (0, u "java/lang/Object"), (0, .class_ 3)] 3

/-- java/io/Serializable -/
def k11 : Class := { plain "java/io/Serializable" (some 0) with
  accessFlags := 1537
  interfaces := #[]
  cf := some (fileOf pool11 2 #[] #[] 1537 4 #[] #[])
  fields := #[]
  methods := #[]
  instanceTypes := #[]
  staticTypes := #[]
  resolved := Array.replicate 8 none
  statics := none }

/-- the primitive byte -/
def k12 : Class := { plain "byte" none with kind := .primitive 'B', accessFlags := 0x411 }
/-- [B -/
def k13 : Class := { plain "[B" (some 0) with kind := .array 12 .byte, interfaces := #[10, 11], accessFlags := 1041 }

/-- the primitive int -/
def k14 : Class := { plain "int" none with kind := .primitive 'I', accessFlags := 0x411 }
/-- [I -/
def k15 : Class := { plain "[I" (some 0) with kind := .array 14 .int, interfaces := #[10, 11], accessFlags := 1041 }

/-- [Lcom/example/depth2/depth2/NetToken; -/
def k16 : Class := { plain "[Lcom/example/depth2/depth2/NetToken;" (some 0) with kind := .array 8 (.object "com/example/depth2/depth2/NetToken"), interfaces := #[10, 11], accessFlags := 1041 }

def heap : Heap := #[]
def classes : Array Class := #[k0, k1, k2, k3, k4, k5, k6, k7, k8, k9, k10, k11, k12, k13, k14, k15, k16]
def interned : List (Array UInt16 × Addr) := []
def slotsUsed : Nat := 0
def theMethod : MethodId := ⟨1, 2⟩
def args0 : Array Value := #[.int 5, .int 6, .int 7, .int 8, .int 9, .int 10]
def aboutOver (below : List Frame) : State where
  vm := { classes := classes, interned := interned.toArray }
  heap := heap
  slotsUsed := slotsUsed
  threads := #[{ frames := .invoking theMethod args0 :: below }]
def below0 : List Frame := [.native { method := ⟨0, 0⟩, args := #[] }]
def about1 : State := aboutOver below0
def p0 : Program := .bare "" "" ""
def e0 : Env := launch0.env 0 0 0
theorem w_frames : about1.frames = Frame.invoking theMethod args0 :: below0 := rfl
set_option maxRecDepth 65536 in
theorem w_args : argsFit about1.vm theMethod args0 = true := by decide +kernel
set_option maxRecDepth 65536 in
theorem w_heap : heapFits about1 = true := by decide +kernel
set_option maxRecDepth 65536 in
theorem w_runnable : about1.curStatus? = some .runnable := by decide +kernel
set_option maxRecDepth 65536 in
theorem w_alone : about1.alone = true := by decide +kernel
set_option maxRecDepth 65536 in
theorem w_named : about1.methodNamed? x = some theMethod := by decide +kernel
set_option maxRecDepth 65536 in
theorem w_hears : about1.hears theMethod below0 = true := by decide +kernel
set_option maxRecDepth 65536 in
theorem w_ripe : about1.ripe theMethod args0 below0 = true := by decide +kernel
theorem w_running : about1.status = .running := rfl
set_option maxRecDepth 65536 in
theorem w_room : about1.hasRoom e0.platform room_1 = true :=
  launch0.hasRoom_least _ room_1 (by decide +kernel) (by decide +kernel) (by decide +kernel) (by decide +kernel) (by decide +kernel) (by decide +kernel)
theorem allAtoms_all (ts : List Jvm.Cond) (a : Array Jvm.Value) (st : Jvm.State) : (allAtoms ts).before a st = ts.all (fun c => c.before a st) := by
  induction ts with
  | nil => rfl
  | cons c t ih =>
    show (Jvm.Cond.and c (allAtoms t)).before a st = _
    rw [Jvm.Cond.before_and, ih, List.all_cons]
def words1 : List Jvm.Cond := Jvm.Cond.code x code maxLocals ret :: tables_1
/-- a 'code' word, met by the world's own term for the bytes: nothing is compared byte by byte -/
theorem code_word {y : MethodName} {bytes : ByteArray} {mx : Nat} {rt : Option FieldType} {a : Array Value} {s : State} {m : MethodId} {meth : Method} {c : Code} (h1 : s.methodNamed? y = some m) (h2 : s.vm.method? m = some meth) (h3 : meth.code = some c) (h4 : c.code = bytes)
    (h5 : (c.maxLocals == mx && c.exceptionTable.isEmpty && decide (c.maxStack ≤ mostOperands) && decide (meth.sig.returnType = rt) && !meth.locks && decide (parseMethodDescriptor y.desc = some meth.sig)) = true) : (Jvm.Cond.code y bytes mx rt).before a s = true := by
  simp only [Bool.and_eq_true, beq_iff_eq, Bool.not_eq_true', decide_eq_true_eq] at h5
  obtain ⟨⟨⟨⟨⟨g1, g2⟩, g3⟩, g4⟩, g5⟩, g6⟩ := h5
  simp [Cond.before, Cond.holds, Cond.value, h1, h2, h3, h4, g1, g2, g3, g4, g5, g6]
def isCode : Jvm.Cond → Bool
  | .code _ _ _ _ => true
  | _ => false
theorem all_split {L : List Jvm.Cond} {P : Jvm.Cond → Bool} (h1 : L.all (fun c => isCode c || P c) = true) (h2 : ∀ c ∈ L.filter isCode, P c = true) : L.all P = true := by
  refine List.all_eq_true.mpr fun c hc => ?_
  have h := List.all_eq_true.mp h1 c hc
  rcases Bool.eq_false_or_eq_true (isCode c) with hi | hi
  · exact h2 c (List.mem_filter.mpr ⟨hc, hi⟩)
  · simpa [hi] using h
set_option maxRecDepth 65536 in
theorem w_c0 : (Jvm.Cond.code x code maxLocals ret).before args0 about1 = true := code_word (m := ⟨1, 2⟩) (meth := k1m2) (c := k1c2) (by decide +kernel) rfl rfl rfl (by decide +kernel)
set_option maxRecDepth 65536 in
theorem w_c1 : (Jvm.Cond.code ({ cls := "java/lang/Math", name := "max", desc := "(II)I" } : Jvm.MethodName) jdk_29_method_65_code (2 : Nat) (Option.some Jvm.ClassFile.FieldType.int)).before args0 about1 = true := code_word (m := ⟨2, 1⟩) (meth := k2m1) (c := k2c1) (by decide +kernel) rfl rfl rfl (by decide +kernel)
set_option maxRecDepth 65536 in
theorem w_c2 : (Jvm.Cond.code ({ cls := "com/example/depth2/depth2/NetTokenTable", name := "<init>", desc := "()V" } : Jvm.MethodName) prog_34_method_1_code (1 : Nat) (Option.none : Option Jvm.ClassFile.FieldType)).before args0 about1 = true := code_word (m := ⟨4, 0⟩) (meth := k4m0) (c := k4c0) (by decide +kernel) rfl rfl rfl (by decide +kernel)
set_option maxRecDepth 65536 in
theorem w_c3 : (Jvm.Cond.code ({ cls := "java/lang/Object", name := "<init>", desc := "()V" } : Jvm.MethodName) object_method_1_code (1 : Nat) (Option.none : Option Jvm.ClassFile.FieldType)).before args0 about1 = true := code_word (m := ⟨0, 0⟩) (meth := k0m0) (c := k0c0) (by decide +kernel) rfl rfl rfl (by decide +kernel)
set_option maxRecDepth 65536 in
theorem w_c4 : (Jvm.Cond.code ({ cls := "com/example/depth2/depth2/NetTokenTable$Numbered", name := "<init>", desc := "([Lcom/example/depth2/depth2/NetToken;[I[I[I)V" } : Jvm.MethodName) prog_35_method_1_code (5 : Nat) (Option.none : Option Jvm.ClassFile.FieldType)).before args0 about1 = true := code_word (m := ⟨6, 0⟩) (meth := k6m0) (c := k6c0) (by decide +kernel) rfl rfl rfl (by decide +kernel)
set_option maxRecDepth 65536 in
theorem w_c5 : (Jvm.Cond.code ({ cls := "java/lang/Record", name := "<init>", desc := "()V" } : Jvm.MethodName) jdk_30_method_1_code (1 : Nat) (Option.none : Option Jvm.ClassFile.FieldType)).before args0 about1 = true := code_word (m := ⟨5, 0⟩) (meth := k5m0) (c := k5c0) (by decide +kernel) rfl rfl rfl (by decide +kernel)
set_option maxRecDepth 65536 in
theorem w_c6 : (Jvm.Cond.code ({ cls := "com/example/depth2/depth2/PackedMarking", name := "<init>", desc := "(Lcom/example/depth2/depth2/NetTokenTable;)V" } : Jvm.MethodName) prog_38_method_1_code (2 : Nat) (Option.none : Option Jvm.ClassFile.FieldType)).before args0 about1 = true := code_word (m := ⟨3, 0⟩) (meth := k3m0) (c := k3c0) (by decide +kernel) rfl rfl rfl (by decide +kernel)
set_option maxRecDepth 65536 in
theorem w_c7 : (Jvm.Cond.code ({ cls := "com/example/depth2/depth2/PackedMarking", name := "add", desc := "(II)V" } : Jvm.MethodName) prog_38_method_13_code (5 : Nat) (Option.none : Option Jvm.ClassFile.FieldType)).before args0 about1 = true := code_word (m := ⟨3, 2⟩) (meth := k3m2) (c := k3c2) (by decide +kernel) rfl rfl rfl (by decide +kernel)
set_option maxRecDepth 65536 in
theorem w_c8 : (Jvm.Cond.code ({ cls := "com/example/depth2/depth2/NetTokenTable", name := "place", desc := "(I)I" } : Jvm.MethodName) prog_34_method_3_code (2 : Nat) (Option.some Jvm.ClassFile.FieldType.int)).before args0 about1 = true := code_word (m := ⟨4, 1⟩) (meth := k4m1) (c := k4c1) (by decide +kernel) rfl rfl rfl (by decide +kernel)
set_option maxRecDepth 65536 in
theorem w_c9 : (Jvm.Cond.code ({ cls := "com/example/depth2/depth2/NetTokenTable$Numbered", name := "places", desc := "()[I" } : Jvm.MethodName) prog_35_method_6_code (1 : Nat) (Option.some (Jvm.ClassFile.FieldType.array Jvm.ClassFile.FieldType.int))).before args0 about1 = true := code_word (m := ⟨6, 1⟩) (meth := k6m1) (c := k6c1) (by decide +kernel) rfl rfl rfl (by decide +kernel)
set_option maxRecDepth 65536 in
theorem w_c10 : (Jvm.Cond.code ({ cls := "com/example/depth2/depth2/PackedMarking", name := "clear", desc := "()V" } : Jvm.MethodName) prog_38_method_8_code (1 : Nat) (Option.none : Option Jvm.ClassFile.FieldType)).before args0 about1 = true := code_word (m := ⟨3, 1⟩) (meth := k3m1) (c := k3c1) (by decide +kernel) rfl rfl rfl (by decide +kernel)
set_option maxRecDepth 65536 in
theorem w_c11 : (Jvm.Cond.code ({ cls := "com/example/depth2/depth2/PackedMarking", name := "hash", desc := "()J" } : Jvm.MethodName) prog_38_method_15_code (4 : Nat) (Option.some Jvm.ClassFile.FieldType.long)).before args0 about1 = true := code_word (m := ⟨3, 3⟩) (meth := k3m3) (c := k3c3) (by decide +kernel) rfl rfl rfl (by decide +kernel)
set_option maxRecDepth 65536 in
theorem w_c12 : (Jvm.Cond.code ({ cls := "com/example/depth2/depth2/PackedMarkingHashPinLaw", name := "step", desc := "(JII)J" } : Jvm.MethodName) method_2_code (6 : Nat) (Option.some Jvm.ClassFile.FieldType.long)).before args0 about1 = true := code_word (m := ⟨1, 1⟩) (meth := k1m1) (c := k1c1) (by decide +kernel) rfl rfl rfl (by decide +kernel)
set_option maxRecDepth 65536 in
theorem w_c13 : (Jvm.Cond.code ({ cls := "java/lang/Math", name := "min", desc := "(II)I" } : Jvm.MethodName) jdk_29_method_69_code (2 : Nat) (Option.some Jvm.ClassFile.FieldType.int)).before args0 about1 = true := code_word (m := ⟨2, 2⟩) (meth := k2m2) (c := k2c2) (by decide +kernel) rfl rfl rfl (by decide +kernel)
def codes1 : List Jvm.Cond := [Jvm.Cond.code x code maxLocals ret, Jvm.Cond.code ({ cls := "java/lang/Math", name := "max", desc := "(II)I" } : Jvm.MethodName) jdk_29_method_65_code (2 : Nat) (Option.some Jvm.ClassFile.FieldType.int), Jvm.Cond.code ({ cls := "com/example/depth2/depth2/NetTokenTable", name := "<init>", desc := "()V" } : Jvm.MethodName) prog_34_method_1_code (1 : Nat) (Option.none : Option Jvm.ClassFile.FieldType), Jvm.Cond.code ({ cls := "java/lang/Object", name := "<init>", desc := "()V" } : Jvm.MethodName) object_method_1_code (1 : Nat) (Option.none : Option Jvm.ClassFile.FieldType), Jvm.Cond.code ({ cls := "com/example/depth2/depth2/NetTokenTable$Numbered", name := "<init>", desc := "([Lcom/example/depth2/depth2/NetToken;[I[I[I)V" } : Jvm.MethodName) prog_35_method_1_code (5 : Nat) (Option.none : Option Jvm.ClassFile.FieldType), Jvm.Cond.code ({ cls := "java/lang/Record", name := "<init>", desc := "()V" } : Jvm.MethodName) jdk_30_method_1_code (1 : Nat) (Option.none : Option Jvm.ClassFile.FieldType), Jvm.Cond.code ({ cls := "com/example/depth2/depth2/PackedMarking", name := "<init>", desc := "(Lcom/example/depth2/depth2/NetTokenTable;)V" } : Jvm.MethodName) prog_38_method_1_code (2 : Nat) (Option.none : Option Jvm.ClassFile.FieldType), Jvm.Cond.code ({ cls := "com/example/depth2/depth2/PackedMarking", name := "add", desc := "(II)V" } : Jvm.MethodName) prog_38_method_13_code (5 : Nat) (Option.none : Option Jvm.ClassFile.FieldType), Jvm.Cond.code ({ cls := "com/example/depth2/depth2/NetTokenTable", name := "place", desc := "(I)I" } : Jvm.MethodName) prog_34_method_3_code (2 : Nat) (Option.some Jvm.ClassFile.FieldType.int), Jvm.Cond.code ({ cls := "com/example/depth2/depth2/NetTokenTable$Numbered", name := "places", desc := "()[I" } : Jvm.MethodName) prog_35_method_6_code (1 : Nat) (Option.some (Jvm.ClassFile.FieldType.array Jvm.ClassFile.FieldType.int)), Jvm.Cond.code ({ cls := "com/example/depth2/depth2/PackedMarking", name := "clear", desc := "()V" } : Jvm.MethodName) prog_38_method_8_code (1 : Nat) (Option.none : Option Jvm.ClassFile.FieldType), Jvm.Cond.code ({ cls := "com/example/depth2/depth2/PackedMarking", name := "hash", desc := "()J" } : Jvm.MethodName) prog_38_method_15_code (4 : Nat) (Option.some Jvm.ClassFile.FieldType.long), Jvm.Cond.code ({ cls := "com/example/depth2/depth2/PackedMarkingHashPinLaw", name := "step", desc := "(JII)J" } : Jvm.MethodName) method_2_code (6 : Nat) (Option.some Jvm.ClassFile.FieldType.long), Jvm.Cond.code ({ cls := "java/lang/Math", name := "min", desc := "(II)I" } : Jvm.MethodName) jdk_29_method_69_code (2 : Nat) (Option.some Jvm.ClassFile.FieldType.int)]
set_option maxRecDepth 65536 in
theorem codes_eq : words1.filter isCode = codes1 := rfl
theorem w_codes : ∀ c ∈ words1.filter isCode, c.before args0 about1 = true := by
  rw [codes_eq]
  intro c hc
  simp only [codes1, List.mem_cons, List.not_mem_nil, or_false] at hc
  rcases hc with rfl | rfl | rfl | rfl | rfl | rfl | rfl | rfl | rfl | rfl | rfl | rfl | rfl | rfl
  · exact w_c0
  · exact w_c1
  · exact w_c2
  · exact w_c3
  · exact w_c4
  · exact w_c5
  · exact w_c6
  · exact w_c7
  · exact w_c8
  · exact w_c9
  · exact w_c10
  · exact w_c11
  · exact w_c12
  · exact w_c13
set_option maxRecDepth 65536 in
theorem w_t1 : (words1.take 24).all (fun c => isCode c || c.before args0 about1) = true := by decide +kernel
set_option maxRecDepth 65536 in
theorem w_t2 : ((words1.drop 24).take 24).all (fun c => isCode c || c.before args0 about1) = true := by decide +kernel
set_option maxRecDepth 65536 in
theorem w_t3 : (((words1.drop 24).drop 24).take 24).all (fun c => isCode c || c.before args0 about1) = true := by decide +kernel
set_option maxRecDepth 65536 in
theorem w_t4 : ((((words1.drop 24).drop 24).drop 24).take 24).all (fun c => isCode c || c.before args0 about1) = true := by decide +kernel
set_option maxRecDepth 65536 in
theorem w_t5 : ((((words1.drop 24).drop 24).drop 24).drop 24).all (fun c => isCode c || c.before args0 about1) = true := by decide +kernel
theorem w_tables : (allAtoms (Jvm.Cond.code x code maxLocals ret :: tables_1)).before args0 about1 = true := by
  rw [allAtoms_all]
  show words1.all (fun c => c.before args0 about1) = true
  refine all_split ?_ w_codes
  rw [← List.take_append_drop 24 words1, List.all_append, w_t1, ← List.take_append_drop 24 (words1.drop 24), List.all_append, w_t2, ← List.take_append_drop 24 ((words1.drop 24).drop 24), List.all_append, w_t3, ← List.take_append_drop 24 (((words1.drop 24).drop 24).drop 24), List.all_append, w_t4, w_t5]
  rfl
set_option maxRecDepth 65536 in
theorem w_case : (Jvm.Cond.and given_1 narrow_1).before args0 about1 = true := by decide +kernel
theorem w_applies : (headSpec (Jvm.Cond.code x code maxLocals ret :: tables_1) room_1).applies x e0.platform about1 = true :=
  (Spec.applies_iff w_frames).mpr ⟨w_running, w_runnable, w_alone, w_named, w_hears, w_ripe, w_room, w_tables⟩
theorem atStart : AtStart classFile x code maxLocals ret World_1 tables_1 room_1 Calls_1 rest_1 Pre_1 launch0 p0 e0 about1 theMethod args0 below0 :=
  ⟨lists_1, trivial, launch0.admits_env _ _ _, launch0.least_env, fairChoices_fair.cas, fairChoices_fair.clock, w_frames, w_args, w_heap, w_applies, trivial, trivial, w_case⟩
end start1
theorem witness_1 : WitnessClaimed_1 := ⟨start1.p0, start1.e0, start1.about1, start1.theMethod, start1.args0, start1.below0, start1.atStart⟩
end Jvm.Pilot.@@N@@
