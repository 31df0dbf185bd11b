import JvmDerived
import JvmDerived.Pilot.@@N@@Statement
import JvmDerived.Pilot.@@N@@Code
set_option linter.unusedVariables false
set_option linter.unusedSimpArgs false
namespace Jvm.Pilot.@@N@@
open Jvm Jvm.ClassFile Sem Op Lib Jvm.Free Jvm.Stand Jvm.LawKit Jvm.RoadKit Bundle Jvm.Pilot.@@N@@.Jvm.D
section OwnLayer
variable {p : Program} {l : Launch} {e : Env} {R : Room} {s : State} {m : MethodId} {args : Array Value} {below : List Frame} {meth : Method} {c : Code} {T : State} {cells slots : Nat} {Z : State} {a0 : Array Value} {h h' : Heap} {n0 : Nat} {A : State → Outcome → Prop} {bs : ByteArray} {maxL : Nat} {own : String} {pc pc' : Nat} {L L' : Array Slot} {st : List Value}
/-- the run that stands over T with the frame f comes to an end that A allows -/
def own_Wins (p : Program) (e : Env) (below : List Frame) (A : State → Outcome → Prop) (T : State) (f : JFrame) : Prop := ∃ U o, Steps p.tables e below (T.setTop f) U ∧ A U o
theorem own_by {T' : State} {f f' : JFrame} (q : ∀ target, Steps p.tables e below (T'.setTop f') target → Steps p.tables e below (T.setTop f) target) (k : own_Wins p e below A T' f') : own_Wins p e below A T f := by
  obtain ⟨U, o, h1, h2⟩ := k
  exact ⟨U, o, q _ h1, h2⟩
/-- where the walk stands: the kit's Stand, the heap, what was written is new, and what the walk knows of the body -/
def own_St (p : Program) (l : Launch) (e : Env) (R : Room) (s : State) (m : MethodId) (args : Array Value) (below : List Frame) (meth : Method) (c : Code) (Z : State) (n0 : Nat) (bs : ByteArray) (maxL : Nat) (own : String) (T : State) (h : Heap) (cells slots : Nat) : Prop :=
  ∃ locs, Stand p l e R s m args below meth c T locs cells slots ∧ T.heap = h ∧ Fr n0 locs ∧ n0 ≤ h.size ∧ p.tables.exec = Jvm.exec ∧ c.code = bs ∧ c.maxLocals = maxL ∧ s.vm.findClass own = some m.cls ∧ Z.Warmed39 s.vm ∧ meth.locks = false
theorem own_St.here (X : own_St p l e R s m args below meth c Z n0 bs maxL own T h cells slots) : At T m c below := by obtain ⟨_, Y, -⟩ := X; exact Y.here
theorem own_St.ex (X : own_St p l e R s m args below meth c Z n0 bs maxL own T h cells slots) : p.tables.exec = Jvm.exec := by obtain ⟨_, -, -, -, -, q, -⟩ := X; exact q
theorem own_St.cd (X : own_St p l e R s m args below meth c Z n0 bs maxL own T h cells slots) : c.code = bs := by obtain ⟨_, -, -, -, -, -, q, -⟩ := X; exact q
theorem own_St.ml (X : own_St p l e R s m args below meth c Z n0 bs maxL own T h cells slots) : c.maxLocals = maxL := by obtain ⟨_, -, -, -, -, -, -, q, -⟩ := X; exact q
theorem own_St.sz (X : own_St p l e R s m args below meth c Z n0 bs maxL own T h cells slots) : n0 ≤ h.size := by obtain ⟨_, -, -, -, q, -⟩ := X; exact q
theorem own_St.wz (X : own_St p l e R s m args below meth c Z n0 bs maxL own T h cells slots) : Z.Warmed39 s.vm := by obtain ⟨_, -, -, -, -, -, -, -, -, q, -⟩ := X; exact q
theorem own_St.more (X : own_St p l e R s m args below meth c Z n0 bs maxL own T h cells slots) {cells' slots' : Nat} (hc : cells ≤ cells') (hs : slots ≤ slots') : own_St p l e R s m args below meth c Z n0 bs maxL own T h cells' slots' := by
  obtain ⟨locs, Y, r⟩ := X
  exact ⟨locs, Y.more hc hs, r⟩
/-- an instruction, with the pc behind it -/
def own_ix (bs : ByteArray) (pc : Nat) (i : Instr) (n pc' : Nat) : Prop := decode bs pc = .ok (i, n) ∧ pc + n = pc'
def own_ik (bs : ByteArray) (pc : Nat) (v : Int32) (pc' : Nat) : Prop := ∃ i : Int, (decode bs pc = .ok (.iconst i, 1) ∧ Int32.ofInt i = v ∧ pc + 1 = pc') ∨ (decode bs pc = .ok (.bipush i, 2) ∧ (Int8.ofInt i).toInt32 = v ∧ pc + 2 = pc') ∨ (decode bs pc = .ok (.sipush i, 3) ∧ (Int16.ofInt i).toInt32 = v ∧ pc + 3 = pc')
def own_lk (bs : ByteArray) (pc : Nat) (v : Int64) (pc' : Nat) : Prop := ∃ k : Fin 2, decode bs pc = .ok (.lconst k, 1) ∧ Int64.ofNat k = v ∧ pc + 1 = pc'
def own_ii (bs : ByteArray) (pc : Nat) (k : Nat) (w : Int32) (pc' : Nat) : Prop := ∃ cst : Int, decode bs pc = .ok (.iinc k cst, 3) ∧ Int32.ofInt cst = w ∧ pc + 3 = pc'
def own_gt (bs : ByteArray) (pc tgt : Nat) : Prop := ∃ o : Int, decode bs pc = .ok (.goto o, 3) ∧ 0 ≤ (pc : Int) + o ∧ ((pc : Int) + o).toNat = tgt
def own_ifc (bs : ByteArray) (pc : Nat) (cd : ClassFile.Cond) (pc' tgt : Nat) : Prop := ∃ o : Int, decode bs pc = .ok (.ifCond cd o, 3) ∧ pc + 3 = pc' ∧ 0 ≤ (pc : Int) + o ∧ ((pc : Int) + o).toNat = tgt
def own_icm (bs : ByteArray) (pc : Nat) (cd : ClassFile.Cond) (pc' tgt : Nat) : Prop := ∃ o : Int, decode bs pc = .ok (.if_icmp cd o, 3) ∧ pc + 3 = pc' ∧ 0 ≤ (pc : Int) + o ∧ ((pc : Int) + o).toNat = tgt
def own_inl (bs : ByteArray) (pc : Nat) (pc' tgt : Nat) : Prop := ∃ o : Int, decode bs pc = .ok (.ifnull o, 3) ∧ pc + 3 = pc' ∧ 0 ≤ (pc : Int) + o ∧ ((pc : Int) + o).toNat = tgt
def own_inn (bs : ByteArray) (pc : Nat) (pc' tgt : Nat) : Prop := ∃ o : Int, decode bs pc = .ok (.ifnonnull o, 3) ∧ pc + 3 = pc' ∧ 0 ≤ (pc : Int) + o ∧ ((pc : Int) + o).toNat = tgt
def own_il (bs : ByteArray) (pc k pc' : Nat) : Prop := (∃ q : Fin 4, decode bs pc = .ok (.iload_n q, 1) ∧ q.val = k ∧ pc + 1 = pc') ∨ (decode bs pc = .ok (.iload k, 2) ∧ pc + 2 = pc')
def own_ll (bs : ByteArray) (pc k pc' : Nat) : Prop := (∃ q : Fin 4, decode bs pc = .ok (.lload_n q, 1) ∧ q.val = k ∧ pc + 1 = pc') ∨ (decode bs pc = .ok (.lload k, 2) ∧ pc + 2 = pc')
def own_al (bs : ByteArray) (pc k pc' : Nat) : Prop := (∃ q : Fin 4, decode bs pc = .ok (.aload_n q, 1) ∧ q.val = k ∧ pc + 1 = pc') ∨ (decode bs pc = .ok (.aload k, 2) ∧ pc + 2 = pc')
def own_si (bs : ByteArray) (pc k pc' : Nat) : Prop := (∃ q : Fin 4, decode bs pc = .ok (.istore_n q, 1) ∧ q.val = k ∧ pc + 1 = pc') ∨ (decode bs pc = .ok (.istore k, 2) ∧ pc + 2 = pc')
def own_sl (bs : ByteArray) (pc k pc' : Nat) : Prop := (∃ q : Fin 4, decode bs pc = .ok (.lstore_n q, 1) ∧ q.val = k ∧ pc + 1 = pc') ∨ (decode bs pc = .ok (.lstore k, 2) ∧ pc + 2 = pc')
def own_sa (bs : ByteArray) (pc k pc' : Nat) : Prop := (∃ q : Fin 4, decode bs pc = .ok (.astore_n q, 1) ∧ q.val = k ∧ pc + 1 = pc') ∨ (decode bs pc = .ok (.astore k, 2) ∧ pc + 2 = pc')
def own_Lshl (x : Int64) (q : Int32) : Int64 := x <<< (q &&& 0x3f).toInt64
def own_Lshr (x : Int64) (q : Int32) : Int64 := x >>> (q &&& 0x3f).toInt64
def own_Lushr (x : Int64) (q : Int32) : Int64 := (x.toUInt64 >>> (q &&& 0x3f).toInt64.toUInt64).toInt64
def own_Ishl (x q : Int32) : Int32 := x <<< (q &&& 31)
def own_Ishr (x q : Int32) : Int32 := x >>> (q &&& 31)
def own_Iushr (x q : Int32) : Int32 := (x.toUInt32 >>> (q &&& 31).toUInt32).toInt32
theorem own_iadd (X : own_St p l e R s m args below meth c Z n0 bs maxL own T h cells slots) {x y : Int32} (d : own_ix bs pc .iadd 1 pc')  (k : own_Wins p e below A T (mkF m pc' L (.int (x + y) :: st))) : own_Wins p e below A T (mkF m pc L (.int y :: .int x :: st)) := by
  obtain ⟨d, rfl⟩ := d
  exact own_by (fun _ q => XS.iadd X.here X.ex rfl (hb X.cd d) rfl q) k
theorem own_isub (X : own_St p l e R s m args below meth c Z n0 bs maxL own T h cells slots) {x y : Int32} (d : own_ix bs pc .isub 1 pc')  (k : own_Wins p e below A T (mkF m pc' L (.int (x - y) :: st))) : own_Wins p e below A T (mkF m pc L (.int y :: .int x :: st)) := by
  obtain ⟨d, rfl⟩ := d
  exact own_by (fun _ q => XS.isub X.here X.ex rfl (hb X.cd d) rfl q) k
theorem own_imul (X : own_St p l e R s m args below meth c Z n0 bs maxL own T h cells slots) {x y : Int32} (d : own_ix bs pc .imul 1 pc')  (k : own_Wins p e below A T (mkF m pc' L (.int (x * y) :: st))) : own_Wins p e below A T (mkF m pc L (.int y :: .int x :: st)) := by
  obtain ⟨d, rfl⟩ := d
  exact own_by (fun _ q => XS.imul X.here X.ex rfl (hb X.cd d) rfl q) k
theorem own_iand (X : own_St p l e R s m args below meth c Z n0 bs maxL own T h cells slots) {x y : Int32} (d : own_ix bs pc .iand 1 pc')  (k : own_Wins p e below A T (mkF m pc' L (.int (x &&& y) :: st))) : own_Wins p e below A T (mkF m pc L (.int y :: .int x :: st)) := by
  obtain ⟨d, rfl⟩ := d
  exact own_by (fun _ q => XS.iand X.here X.ex rfl (hb X.cd d) rfl q) k
theorem own_ior (X : own_St p l e R s m args below meth c Z n0 bs maxL own T h cells slots) {x y : Int32} (d : own_ix bs pc .ior 1 pc')  (k : own_Wins p e below A T (mkF m pc' L (.int (x ||| y) :: st))) : own_Wins p e below A T (mkF m pc L (.int y :: .int x :: st)) := by
  obtain ⟨d, rfl⟩ := d
  exact own_by (fun _ q => XS.ior X.here X.ex rfl (hb X.cd d) rfl q) k
theorem own_ixor (X : own_St p l e R s m args below meth c Z n0 bs maxL own T h cells slots) {x y : Int32} (d : own_ix bs pc .ixor 1 pc')  (k : own_Wins p e below A T (mkF m pc' L (.int (x ^^^ y) :: st))) : own_Wins p e below A T (mkF m pc L (.int y :: .int x :: st)) := by
  obtain ⟨d, rfl⟩ := d
  exact own_by (fun _ q => XS.ixor X.here X.ex rfl (hb X.cd d) rfl q) k
theorem own_ladd (X : own_St p l e R s m args below meth c Z n0 bs maxL own T h cells slots) {x y : Int64} (d : own_ix bs pc .ladd 1 pc')  (k : own_Wins p e below A T (mkF m pc' L (.long (x + y) :: st))) : own_Wins p e below A T (mkF m pc L (.long y :: .long x :: st)) := by
  obtain ⟨d, rfl⟩ := d
  exact own_by (fun _ q => XS.ladd X.here X.ex rfl (hb X.cd d) rfl q) k
theorem own_lsub (X : own_St p l e R s m args below meth c Z n0 bs maxL own T h cells slots) {x y : Int64} (d : own_ix bs pc .lsub 1 pc')  (k : own_Wins p e below A T (mkF m pc' L (.long (x - y) :: st))) : own_Wins p e below A T (mkF m pc L (.long y :: .long x :: st)) := by
  obtain ⟨d, rfl⟩ := d
  exact own_by (fun _ q => XS.lsub X.here X.ex rfl (hb X.cd d) rfl q) k
theorem own_lmul (X : own_St p l e R s m args below meth c Z n0 bs maxL own T h cells slots) {x y : Int64} (d : own_ix bs pc .lmul 1 pc')  (k : own_Wins p e below A T (mkF m pc' L (.long (x * y) :: st))) : own_Wins p e below A T (mkF m pc L (.long y :: .long x :: st)) := by
  obtain ⟨d, rfl⟩ := d
  exact own_by (fun _ q => XS.lmul X.here X.ex rfl (hb X.cd d) rfl q) k
theorem own_land (X : own_St p l e R s m args below meth c Z n0 bs maxL own T h cells slots) {x y : Int64} (d : own_ix bs pc .land 1 pc')  (k : own_Wins p e below A T (mkF m pc' L (.long (x &&& y) :: st))) : own_Wins p e below A T (mkF m pc L (.long y :: .long x :: st)) := by
  obtain ⟨d, rfl⟩ := d
  exact own_by (fun _ q => XS.land X.here X.ex rfl (hb X.cd d) rfl q) k
theorem own_lor (X : own_St p l e R s m args below meth c Z n0 bs maxL own T h cells slots) {x y : Int64} (d : own_ix bs pc .lor 1 pc')  (k : own_Wins p e below A T (mkF m pc' L (.long (x ||| y) :: st))) : own_Wins p e below A T (mkF m pc L (.long y :: .long x :: st)) := by
  obtain ⟨d, rfl⟩ := d
  exact own_by (fun _ q => XS.lor X.here X.ex rfl (hb X.cd d) rfl q) k
theorem own_lxor (X : own_St p l e R s m args below meth c Z n0 bs maxL own T h cells slots) {x y : Int64} (d : own_ix bs pc .lxor 1 pc')  (k : own_Wins p e below A T (mkF m pc' L (.long (x ^^^ y) :: st))) : own_Wins p e below A T (mkF m pc L (.long y :: .long x :: st)) := by
  obtain ⟨d, rfl⟩ := d
  exact own_by (fun _ q => XS.lxor X.here X.ex rfl (hb X.cd d) rfl q) k
theorem own_ishl (X : own_St p l e R s m args below meth c Z n0 bs maxL own T h cells slots) {x y : Int32} (d : own_ix bs pc .ishl 1 pc')  (k : own_Wins p e below A T (mkF m pc' L (.int (own_Ishl x y) :: st))) : own_Wins p e below A T (mkF m pc L (.int y :: .int x :: st)) := by
  obtain ⟨d, rfl⟩ := d
  exact own_by (fun _ q => XS.ishl X.here X.ex rfl (hb X.cd d) rfl q) k
theorem own_ishr (X : own_St p l e R s m args below meth c Z n0 bs maxL own T h cells slots) {x y : Int32} (d : own_ix bs pc .ishr 1 pc')  (k : own_Wins p e below A T (mkF m pc' L (.int (own_Ishr x y) :: st))) : own_Wins p e below A T (mkF m pc L (.int y :: .int x :: st)) := by
  obtain ⟨d, rfl⟩ := d
  exact own_by (fun _ q => XS.ishr X.here X.ex rfl (hb X.cd d) rfl q) k
theorem own_iushr (X : own_St p l e R s m args below meth c Z n0 bs maxL own T h cells slots) {x y : Int32} (d : own_ix bs pc .iushr 1 pc')  (k : own_Wins p e below A T (mkF m pc' L (.int (own_Iushr x y) :: st))) : own_Wins p e below A T (mkF m pc L (.int y :: .int x :: st)) := by
  obtain ⟨d, rfl⟩ := d
  exact own_by (fun _ q => XS.iushr X.here X.ex rfl (hb X.cd d) rfl q) k
theorem own_lshl (X : own_St p l e R s m args below meth c Z n0 bs maxL own T h cells slots) {x : Int64} {y : Int32} (d : own_ix bs pc .lshl 1 pc')  (k : own_Wins p e below A T (mkF m pc' L (.long (own_Lshl x y) :: st))) : own_Wins p e below A T (mkF m pc L (.int y :: .long x :: st)) := by
  obtain ⟨d, rfl⟩ := d
  exact own_by (fun _ q => XS.lshl X.here X.ex rfl (hb X.cd d) rfl q) k
theorem own_lshr (X : own_St p l e R s m args below meth c Z n0 bs maxL own T h cells slots) {x : Int64} {y : Int32} (d : own_ix bs pc .lshr 1 pc')  (k : own_Wins p e below A T (mkF m pc' L (.long (own_Lshr x y) :: st))) : own_Wins p e below A T (mkF m pc L (.int y :: .long x :: st)) := by
  obtain ⟨d, rfl⟩ := d
  exact own_by (fun _ q => XS.lshr X.here X.ex rfl (hb X.cd d) rfl q) k
theorem own_lushr (X : own_St p l e R s m args below meth c Z n0 bs maxL own T h cells slots) {x : Int64} {y : Int32} (d : own_ix bs pc .lushr 1 pc')  (k : own_Wins p e below A T (mkF m pc' L (.long (own_Lushr x y) :: st))) : own_Wins p e below A T (mkF m pc L (.int y :: .long x :: st)) := by
  obtain ⟨d, rfl⟩ := d
  exact own_by (fun _ q => XS.lushr X.here X.ex rfl (hb X.cd d) rfl q) k
theorem own_idiv (X : own_St p l e R s m args below meth c Z n0 bs maxL own T h cells slots) {x y : Int32} (d : own_ix bs pc .idiv 1 pc') (hy : y ≠ 0) (k : own_Wins p e below A T (mkF m pc' L (.int (x / y) :: st))) : own_Wins p e below A T (mkF m pc L (.int y :: .int x :: st)) := by
  obtain ⟨d, rfl⟩ := d
  exact own_by (fun _ q => XS.idiv X.here X.ex rfl (hb X.cd d) rfl hy q) k
theorem own_ldiv (X : own_St p l e R s m args below meth c Z n0 bs maxL own T h cells slots) {x y : Int64} (d : own_ix bs pc .ldiv 1 pc') (hy : y ≠ 0) (k : own_Wins p e below A T (mkF m pc' L (.long (x / y) :: st))) : own_Wins p e below A T (mkF m pc L (.long y :: .long x :: st)) := by
  obtain ⟨d, rfl⟩ := d
  exact own_by (fun _ q => XS.ldiv X.here X.ex rfl (hb X.cd d) rfl hy q) k
theorem own_irem (X : own_St p l e R s m args below meth c Z n0 bs maxL own T h cells slots) {x y : Int32} (d : own_ix bs pc .irem 1 pc') (hy : y ≠ 0) (k : own_Wins p e below A T (mkF m pc' L (.int (x % y) :: st))) : own_Wins p e below A T (mkF m pc L (.int y :: .int x :: st)) := by
  obtain ⟨d, rfl⟩ := d
  have e1 : x - x / y * y = x % y := irem_eq_mod x y
  exact own_by (fun _ q => XS.irem X.here X.ex rfl (hb X.cd d) rfl hy (by rw [e1]; exact q)) k
theorem own_lrem (X : own_St p l e R s m args below meth c Z n0 bs maxL own T h cells slots) {x y : Int64} (d : own_ix bs pc .lrem 1 pc') (hy : y ≠ 0) (k : own_Wins p e below A T (mkF m pc' L (.long (x % y) :: st))) : own_Wins p e below A T (mkF m pc L (.long y :: .long x :: st)) := by
  obtain ⟨d, rfl⟩ := d
  have e1 : x - x / y * y = x % y := lrem_mod x y
  exact own_by (fun _ q => XS.lrem X.here X.ex rfl (hb X.cd d) rfl hy (by rw [e1]; exact q)) k
theorem own_ineg (X : own_St p l e R s m args below meth c Z n0 bs maxL own T h cells slots) {x : Int32} (d : own_ix bs pc .ineg 1 pc')  (k : own_Wins p e below A T (mkF m pc' L (.int (-x) :: st))) : own_Wins p e below A T (mkF m pc L (.int x :: st)) := by
  obtain ⟨d, rfl⟩ := d
  exact own_by (fun _ q => XS.ineg X.here X.ex rfl (hb X.cd d) rfl q) k
theorem own_lneg (X : own_St p l e R s m args below meth c Z n0 bs maxL own T h cells slots) {x : Int64} (d : own_ix bs pc .lneg 1 pc')  (k : own_Wins p e below A T (mkF m pc' L (.long (-x) :: st))) : own_Wins p e below A T (mkF m pc L (.long x :: st)) := by
  obtain ⟨d, rfl⟩ := d
  exact own_by (fun _ q => XS.lneg X.here X.ex rfl (hb X.cd d) rfl q) k
theorem own_i2l (X : own_St p l e R s m args below meth c Z n0 bs maxL own T h cells slots) {x : Int32} (d : own_ix bs pc .i2l 1 pc')  (k : own_Wins p e below A T (mkF m pc' L (.long x.toInt64 :: st))) : own_Wins p e below A T (mkF m pc L (.int x :: st)) := by
  obtain ⟨d, rfl⟩ := d
  exact own_by (fun _ q => XS.i2l X.here X.ex rfl (hb X.cd d) rfl q) k
theorem own_l2i (X : own_St p l e R s m args below meth c Z n0 bs maxL own T h cells slots) {x : Int64} (d : own_ix bs pc .l2i 1 pc')  (k : own_Wins p e below A T (mkF m pc' L (.int x.toInt32 :: st))) : own_Wins p e below A T (mkF m pc L (.long x :: st)) := by
  obtain ⟨d, rfl⟩ := d
  exact own_by (fun _ q => XS.l2i X.here X.ex rfl (hb X.cd d) rfl q) k
theorem own_i2b (X : own_St p l e R s m args below meth c Z n0 bs maxL own T h cells slots) {x : Int32} (d : own_ix bs pc .i2b 1 pc')  (k : own_Wins p e below A T (mkF m pc' L (.int x.toInt8.toInt32 :: st))) : own_Wins p e below A T (mkF m pc L (.int x :: st)) := by
  obtain ⟨d, rfl⟩ := d
  exact own_by (fun _ q => XS.i2b X.here X.ex rfl (hb X.cd d) rfl q) k
theorem own_lcmp (X : own_St p l e R s m args below meth c Z n0 bs maxL own T h cells slots) {x y : Int64} (d : own_ix bs pc .lcmp 1 pc')  (k : own_Wins p e below A T (mkF m pc' L (.int (lcmpW x y) :: st))) : own_Wins p e below A T (mkF m pc L (.long y :: .long x :: st)) := by
  obtain ⟨d, rfl⟩ := d
  exact own_by (fun _ q => XS.lcmp X.here X.ex rfl (hb X.cd d) rfl q) k
theorem own_dup (X : own_St p l e R s m args below meth c Z n0 bs maxL own T h cells slots) {x : Value} (d : own_ix bs pc .dup 1 pc') (hc : x.category = 1) (k : own_Wins p e below A T (mkF m pc' L (x :: x :: st))) : own_Wins p e below A T (mkF m pc L (x :: st)) := by
  obtain ⟨d, rfl⟩ := d
  exact own_by (fun _ q => XS.dup X.here X.ex rfl (hb X.cd d) rfl hc q) k
theorem own_pop (X : own_St p l e R s m args below meth c Z n0 bs maxL own T h cells slots) {x : Value} (d : own_ix bs pc .pop 1 pc') (hc : x.category = 1) (k : own_Wins p e below A T (mkF m pc' L st)) : own_Wins p e below A T (mkF m pc L (x :: st)) := by
  obtain ⟨d, rfl⟩ := d
  exact own_by (fun _ q => XS.pop X.here X.ex rfl (hb X.cd d) rfl hc q) k
theorem own_dup2 (X : own_St p l e R s m args below meth c Z n0 bs maxL own T h cells slots) {x : Int32} {y : Addr} (d : own_ix bs pc .dup2 1 pc')  (k : own_Wins p e below A T (mkF m pc' L (.int x :: .ref y :: .int x :: .ref y :: st))) : own_Wins p e below A T (mkF m pc L (.int x :: .ref y :: st)) := by
  obtain ⟨d, rfl⟩ := d
  refine own_by (fun _ q => ?_) k
  show Steps p.tables e below (T.setTop (mkF m pc L (.int x :: .ref y :: st))) _
  jvm_step X.here [X.here.top, X.ex, (hb X.cd d), Value.category]
  exact q
theorem own_anull (X : own_St p l e R s m args below meth c Z n0 bs maxL own T h cells slots)  (d : own_ix bs pc .aconst_null 1 pc')  (k : own_Wins p e below A T (mkF m pc' L (.null :: st))) : own_Wins p e below A T (mkF m pc L st) := by
  obtain ⟨d, rfl⟩ := d
  exact own_by (fun _ q => XS.aconstNull X.here X.ex rfl (hb X.cd d) q) k
theorem own_ipush (X : own_St p l e R s m args below meth c Z n0 bs maxL own T h cells slots) {v : Int32} (d : own_ik bs pc v pc')  (k : own_Wins p e below A T (mkF m pc' L (.int v :: st))) : own_Wins p e below A T (mkF m pc L st) := by
  obtain ⟨i, ⟨d, rfl, rfl⟩ | ⟨d, rfl, rfl⟩ | ⟨d, rfl, rfl⟩⟩ := d
  · exact own_by (fun _ q => XS.iconst X.here X.ex rfl (hb X.cd d) q) k
  · exact own_by (fun _ q => XS.bipush X.here X.ex rfl (hb X.cd d) q) k
  · exact own_by (fun _ q => XS.sipush X.here X.ex rfl (hb X.cd d) q) k
theorem own_lpush (X : own_St p l e R s m args below meth c Z n0 bs maxL own T h cells slots) {v : Int64} (d : own_lk bs pc v pc')  (k : own_Wins p e below A T (mkF m pc' L (.long v :: st))) : own_Wins p e below A T (mkF m pc L st) := by
  obtain ⟨i, d, rfl, rfl⟩ := d
  exact own_by (fun _ q => XS.lconst X.here X.ex rfl (hb X.cd d) q) k
theorem own_iload (X : own_St p l e R s m args below meth c Z n0 bs maxL own T h cells slots) {i : Nat} {v : Int32} (d : own_il bs pc i pc') (hl : L[i]? = some (.val (.int v))) (k : own_Wins p e below A T (mkF m pc' L (.int v :: st))) : own_Wins p e below A T (mkF m pc L st) := by
  obtain ⟨i', d, rfl, rfl⟩ | ⟨d, rfl⟩ := d
  · exact own_by (fun _ q => XS.iloadN X.here X.ex rfl (hb X.cd d) hl q) k
  · exact own_by (fun _ q => XS.iload X.here X.ex rfl (hb X.cd d) hl q) k
theorem own_lload (X : own_St p l e R s m args below meth c Z n0 bs maxL own T h cells slots) {i : Nat} {v : Int64} (d : own_ll bs pc i pc') (hl : L[i]? = some (.val (.long v))) (k : own_Wins p e below A T (mkF m pc' L (.long v :: st))) : own_Wins p e below A T (mkF m pc L st) := by
  obtain ⟨i', d, rfl, rfl⟩ | ⟨d, rfl⟩ := d
  · exact own_by (fun _ q => XS.lloadN X.here X.ex rfl (hb X.cd d) hl q) k
  · exact own_by (fun _ q => XS.lload X.here X.ex rfl (hb X.cd d) hl q) k
theorem own_aload (X : own_St p l e R s m args below meth c Z n0 bs maxL own T h cells slots) {i : Nat} {v : Addr} (d : own_al bs pc i pc') (hl : L[i]? = some (.val (.ref v))) (k : own_Wins p e below A T (mkF m pc' L (.ref v :: st))) : own_Wins p e below A T (mkF m pc L st) := by
  obtain ⟨i', d, rfl, rfl⟩ | ⟨d, rfl⟩ := d
  · exact own_by (fun _ q => XS.aloadN X.here X.ex rfl (hb X.cd d) hl rfl q) k
  · exact own_by (fun _ q => XS.aload X.here X.ex rfl (hb X.cd d) hl rfl q) k
theorem own_aloadN (X : own_St p l e R s m args below meth c Z n0 bs maxL own T h cells slots) {i : Nat} (d : own_al bs pc i pc') (hl : L[i]? = some (.val .null)) (k : own_Wins p e below A T (mkF m pc' L (.null :: st))) : own_Wins p e below A T (mkF m pc L st) := by
  obtain ⟨i', d, rfl, rfl⟩ | ⟨d, rfl⟩ := d
  · exact own_by (fun _ q => XS.aloadN X.here X.ex rfl (hb X.cd d) hl rfl q) k
  · exact own_by (fun _ q => XS.aload X.here X.ex rfl (hb X.cd d) hl rfl q) k
theorem own_istore (X : own_St p l e R s m args below meth c Z n0 bs maxL own T h cells slots) {i : Nat} {v : Int32} (L' : Array Slot) (d : own_si bs pc i pc') (hl : storeLocals L i (.int v) = some L') (k : own_Wins p e below A T (mkF m pc' L' st)) : own_Wins p e below A T (mkF m pc L (.int v :: st)) := by
  obtain ⟨i', d, rfl, rfl⟩ | ⟨d, rfl⟩ := d
  · exact own_by (fun _ q => XS.istoreN X.here X.ex rfl (hb X.cd d) rfl hl q) k
  · exact own_by (fun _ q => XS.istore X.here X.ex rfl (hb X.cd d) rfl hl q) k
theorem own_lstore (X : own_St p l e R s m args below meth c Z n0 bs maxL own T h cells slots) {i : Nat} {v : Int64} (L' : Array Slot) (d : own_sl bs pc i pc') (hl : storeLocals L i (.long v) = some L') (k : own_Wins p e below A T (mkF m pc' L' st)) : own_Wins p e below A T (mkF m pc L (.long v :: st)) := by
  obtain ⟨i', d, rfl, rfl⟩ | ⟨d, rfl⟩ := d
  · exact own_by (fun _ q => XS.lstoreN X.here X.ex rfl (hb X.cd d) rfl hl q) k
  · exact own_by (fun _ q => XS.lstore X.here X.ex rfl (hb X.cd d) rfl hl q) k
theorem own_astore (X : own_St p l e R s m args below meth c Z n0 bs maxL own T h cells slots) {i : Nat} {v : Addr} (L' : Array Slot) (d : own_sa bs pc i pc') (hl : storeLocals L i (.ref v) = some L') (k : own_Wins p e below A T (mkF m pc' L' st)) : own_Wins p e below A T (mkF m pc L (.ref v :: st)) := by
  obtain ⟨i', d, rfl, rfl⟩ | ⟨d, rfl⟩ := d
  · exact own_by (fun _ q => XS.astoreN X.here X.ex rfl (hb X.cd d) rfl rfl hl q) k
  · exact own_by (fun _ q => XS.astore X.here X.ex rfl (hb X.cd d) rfl rfl hl q) k
theorem own_iinc (X : own_St p l e R s m args below meth c Z n0 bs maxL own T h cells slots) {i : Nat} {x w : Int32} (L' : Array Slot) (d : own_ii bs pc i w pc') (hl : L[i]? = some (.val (.int x))) (hl' : storeLocals L i (.int (x + w)) = some L') (k : own_Wins p e below A T (mkF m pc' L' st)) : own_Wins p e below A T (mkF m pc L st) := by
  obtain ⟨i', d, rfl, rfl⟩ := d
  exact own_by (fun _ q => XS.iinc X.here X.ex rfl (hb X.cd d) hl hl' q) k
theorem own_goto (X : own_St p l e R s m args below meth c Z n0 bs maxL own T h cells slots) (d : own_gt bs pc pc') (k : own_Wins p e below A T (mkF m pc' L st)) : own_Wins p e below A T (mkF m pc L st) := by
  obtain ⟨o, d, h1, h2⟩ := d
  exact own_by (fun _ q => XS.goto X.here X.ex rfl rfl (hb X.cd d) h1 h2 q) k
theorem own_ifYes (X : own_St p l e R s m args below meth c Z n0 bs maxL own T h cells slots) {cd : ClassFile.Cond} {x : Int32} {nx : Nat} (d : own_ifc bs pc cd nx pc') (hc : ifCond.holds cd x = true) (k : own_Wins p e below A T (mkF m pc' L st)) : own_Wins p e below A T (mkF m pc L (.int x :: st)) := by
  obtain ⟨o, d, -, h1, h2⟩ := d
  exact own_by (fun _ q => XS.ifYes X.here X.ex rfl rfl (hb X.cd d) rfl hc h1 h2 q) k
theorem own_ifNo (X : own_St p l e R s m args below meth c Z n0 bs maxL own T h cells slots) {cd : ClassFile.Cond} {x : Int32} {tg : Nat} (d : own_ifc bs pc cd pc' tg) (hc : ifCond.holds cd x = false) (k : own_Wins p e below A T (mkF m pc' L st)) : own_Wins p e below A T (mkF m pc L (.int x :: st)) := by
  obtain ⟨o, d, rfl, h1, h2⟩ := d
  exact own_by (fun _ q => XS.ifNo X.here X.ex rfl (hb X.cd d) rfl hc q) k
theorem own_icYes (X : own_St p l e R s m args below meth c Z n0 bs maxL own T h cells slots) {cd : ClassFile.Cond} {x y : Int32} {nx : Nat} (d : own_icm bs pc cd nx pc') (hc : if_icmp.holds cd x y = true) (k : own_Wins p e below A T (mkF m pc' L st)) : own_Wins p e below A T (mkF m pc L (.int y :: .int x :: st)) := by
  obtain ⟨o, d, -, h1, h2⟩ := d
  exact own_by (fun _ q => XS.icmpYes X.here X.ex rfl rfl (hb X.cd d) rfl hc h1 h2 q) k
theorem own_icNo (X : own_St p l e R s m args below meth c Z n0 bs maxL own T h cells slots) {cd : ClassFile.Cond} {x y : Int32} {tg : Nat} (d : own_icm bs pc cd pc' tg) (hc : if_icmp.holds cd x y = false) (k : own_Wins p e below A T (mkF m pc' L st)) : own_Wins p e below A T (mkF m pc L (.int y :: .int x :: st)) := by
  obtain ⟨o, d, rfl, h1, h2⟩ := d
  exact own_by (fun _ q => XS.icmpNo X.here X.ex rfl (hb X.cd d) rfl hc q) k
theorem own_inlYes (X : own_St p l e R s m args below meth c Z n0 bs maxL own T h cells slots) {nx : Nat} (d : own_inl bs pc nx pc') (k : own_Wins p e below A T (mkF m pc' L st)) : own_Wins p e below A T (mkF m pc L (.null :: st)) := by
  obtain ⟨o, d, -, h1, h2⟩ := d
  exact own_by (fun _ q => XS.ifnullYes X.here X.ex rfl rfl (hb X.cd d) rfl h1 h2 q) k
theorem own_inlNo (X : own_St p l e R s m args below meth c Z n0 bs maxL own T h cells slots) {a : Addr} {tg : Nat} (d : own_inl bs pc pc' tg) (k : own_Wins p e below A T (mkF m pc' L st)) : own_Wins p e below A T (mkF m pc L (.ref a :: st)) := by
  obtain ⟨o, d, rfl, h1, h2⟩ := d
  exact own_by (fun _ q => XS.ifnullNo X.here X.ex rfl (hb X.cd d) rfl q) k
theorem own_innYes (X : own_St p l e R s m args below meth c Z n0 bs maxL own T h cells slots) {a : Addr} {nx : Nat} (d : own_inn bs pc nx pc') (k : own_Wins p e below A T (mkF m pc' L st)) : own_Wins p e below A T (mkF m pc L (.ref a :: st)) := by
  obtain ⟨o, d, -, h1, h2⟩ := d
  exact own_by (fun _ q => XS.ifnonnullYes X.here X.ex rfl rfl (hb X.cd d) rfl h1 h2 q) k
theorem own_innNo (X : own_St p l e R s m args below meth c Z n0 bs maxL own T h cells slots) {tg : Nat} (d : own_inn bs pc pc' tg) (k : own_Wins p e below A T (mkF m pc' L st)) : own_Wins p e below A T (mkF m pc L (.null :: st)) := by
  obtain ⟨o, d, rfl, h1, h2⟩ := d
  exact own_by (fun _ q => XS.ifnonnullNo X.here X.ex rfl (hb X.cd d) rfl q) k
theorem own_ldc (X : own_St p l e R s m args below meth c Z n0 bs maxL own T h cells slots) {i : Nat} {v : Int32} (w : (Jvm.Cond.constant own i v).before a0 Z = true) (d : own_ix bs pc (.ldc i) 2 pc') (k : own_Wins p e below A T (mkF m pc' L (.int v :: st))) : own_Wins p e below A T (mkF m pc L st) := by
  obtain ⟨locs, Y, eT, N, hn, hx, hby, hml, hown, hZ, hlk⟩ := X
  obtain ⟨d, rfl⟩ := d
  exact own_by (Y.ldcInt hx hown (mvT hZ w) (g := mkF m pc L st) rfl (hb hby d)) k
theorem own_ldc2 (X : own_St p l e R s m args below meth c Z n0 bs maxL own T h cells slots) {i : Nat} {v : Int64} (w : (Jvm.Cond.constantLong own i v).before a0 Z = true) (d : own_ix bs pc (.ldc2_w i) 3 pc') (k : own_Wins p e below A T (mkF m pc' L (.long v :: st))) : own_Wins p e below A T (mkF m pc L st) := by
  obtain ⟨locs, Y, eT, N, hn, hx, hby, hml, hown, hZ, hlk⟩ := X
  obtain ⟨d, rfl⟩ := d
  exact own_by (Y.ldc2Long hx hown (mvT hZ w) (g := mkF m pc L st) rfl (hb hby d)) k
/-- an array of primitives: its values as a list -/
def own_AL (Z : State) (h : Heap) (a : Addr) (ty : FieldType) (vs : List Value) : Prop := ∃ c : Cell, Arr Z h a c ty ∧ c.slots = vs.toArray ∧ vs.length < 2147483648
theorem own_AL.lt {a : Addr} {ty : FieldType} {vs : List Value} (V : own_AL Z h a ty vs) : a < h.size := by obtain ⟨c, A, -⟩ := V; exact A.lt
theorem own_AL.ext {a : Addr} {ty : FieldType} {vs : List Value} (V : own_AL Z h a ty vs) (E : Ext h h') : own_AL Z h' a ty vs := by obtain ⟨c, A, r⟩ := V; exact ⟨c, A.ext E, r⟩
theorem own_AL.other {a b : Addr} {sl : Nat} {v : Value} {ty : FieldType} {vs : List Value} (V : own_AL Z h b ty vs) (W : Wr h h' a sl v) (q : b ≠ a) : own_AL Z h' b ty vs := by obtain ⟨c, A, r⟩ := V; exact ⟨c, A.other W q, r⟩
theorem own_AL.keep {a : Addr} {ws : List Addr} {ty : FieldType} {vs : List Value} (V : own_AL Z h a ty vs) (K : Keep h h' ws) (q : a ∉ ws) : own_AL Z h' a ty vs := by obtain ⟨c, A, r⟩ := V; exact ⟨c, ⟨K.2.1 a c A.1 q, A.2⟩, r⟩
theorem own_AL.new {a : Addr} {k : ClassId} {ty : FieldType} {z : Int32} {n : Nat} (A : Arr Z h a (newA k ty z) ty) (hz : z.toNatClampNeg = n) (hn : n < 2147483648) : own_AL Z h a ty (List.replicate n (defaultValue ty)) :=
  ⟨_, A, by simp [newA, hz], by simpa using hn⟩
theorem own_AL.same {a : Addr} {k : Nat} {v : Value} {ty : FieldType} {vs : List Value} (V : own_AL Z h a ty vs) (W : Wr h h' a k v) : own_AL Z h' a ty (vs.set k v) := by
  obtain ⟨c, A, q, r⟩ := V
  exact ⟨_, A.same W, by simp [Cell.setSlot, q], by simpa using r⟩
/-- an index in its two forms -/
def own_idx (j : Int32) (k : Nat) : Prop := ¬ j < 0 ∧ j.toNatClampNeg = k
theorem own_in {j : Int32} {k : Nat} {cl : Cell} {vs : List Value} (hj : own_idx j k) (q : cl.slots = vs.toArray) (hk : k < vs.length) : ¬ (j < 0 ∨ cl.slots.size ≤ j.toNatClampNeg) := by
  rw [q, hj.2]; simp only [List.size_toArray]
  intro z; rcases z with z | z
  · exact hj.1 z
  · omega
theorem own_len {cl : Cell} {vs : List Value} (q : cl.slots = vs.toArray) : cl.slots.size.toInt32 = Int32.ofNat vs.length := by rw [q]; simp [Nat.toInt32]
theorem own_iaload (X : own_St p l e R s m args below meth c Z n0 bs maxL own T h cells slots) {a : Addr} {vs : List Value} (V : own_AL Z h a .int vs) {j : Int32} {i : Nat} {v : Value} (hj : own_idx j i) (hv : vs[i]? = some v) (d : own_ix bs pc .iaload 1 pc') (k : own_Wins p e below A T (mkF m pc' L (v :: st))) : own_Wins p e below A T (mkF m pc L (.int j :: .ref a :: st)) := by
  obtain ⟨locs, Y, eT, N, hn, hx, hby, hml, hown, hZ, hlk⟩ := X
  obtain ⟨d, rfl⟩ := d
  obtain ⟨cl, Ar, q, r⟩ := V
  have hk : i < vs.length := (List.getElem?_eq_some_iff.mp hv).1
  exact own_by (fun t kk => Y.iaload hx (j := j) (v := v) (by rw [eT]; exact Ar.1) (State.isArrayOf_alike hZ.alike Ar.2.1) Ar.2.2 (own_in hj q hk) (by rw [q, hj.2]; simpa using hv) (g := mkF m pc L (.int j :: .ref a :: st)) rfl rfl (hb hby d) t kk) k
theorem own_laload (X : own_St p l e R s m args below meth c Z n0 bs maxL own T h cells slots) {a : Addr} {vs : List Value} (V : own_AL Z h a .long vs) {j : Int32} {i : Nat} {v : Value} (hj : own_idx j i) (hv : vs[i]? = some v) (d : own_ix bs pc .laload 1 pc') (k : own_Wins p e below A T (mkF m pc' L (v :: st))) : own_Wins p e below A T (mkF m pc L (.int j :: .ref a :: st)) := by
  obtain ⟨locs, Y, eT, N, hn, hx, hby, hml, hown, hZ, hlk⟩ := X
  obtain ⟨d, rfl⟩ := d
  obtain ⟨cl, Ar, q, r⟩ := V
  have hk : i < vs.length := (List.getElem?_eq_some_iff.mp hv).1
  exact own_by (fun t kk => Y.laload hx (j := j) (v := v) (by rw [eT]; exact Ar.1) (State.isArrayOf_alike hZ.alike Ar.2.1) Ar.2.2 (own_in hj q hk) (by rw [q, hj.2]; simpa using hv) (g := mkF m pc L (.int j :: .ref a :: st)) rfl rfl (hb hby d) t kk) k
theorem own_baload (X : own_St p l e R s m args below meth c Z n0 bs maxL own T h cells slots) {a : Addr} {vs : List Value} (V : own_AL Z h a .byte vs) {j : Int32} {i : Nat} {v : Value} (hj : own_idx j i) (hv : vs[i]? = some v) (d : own_ix bs pc .baload 1 pc') (k : own_Wins p e below A T (mkF m pc' L (v :: st))) : own_Wins p e below A T (mkF m pc L (.int j :: .ref a :: st)) := by
  obtain ⟨locs, Y, eT, N, hn, hx, hby, hml, hown, hZ, hlk⟩ := X
  obtain ⟨d, rfl⟩ := d
  obtain ⟨cl, Ar, q, r⟩ := V
  have hk : i < vs.length := (List.getElem?_eq_some_iff.mp hv).1
  exact own_by (fun t kk => Y.baloadBytes hx (j := j) (v := v) (by rw [eT]; exact Ar.1) (State.isArrayOf_alike hZ.alike Ar.2.1) Ar.2.2 (own_in hj q hk) (by rw [q, hj.2]; simpa using hv) (g := mkF m pc L (.int j :: .ref a :: st)) rfl rfl (hb hby d) t kk) k
theorem own_alen (X : own_St p l e R s m args below meth c Z n0 bs maxL own T h cells slots) {a : Addr} {ty : FieldType} {vs : List Value} (V : own_AL Z h a ty vs) (d : own_ix bs pc .arraylength 1 pc') (k : own_Wins p e below A T (mkF m pc' L (.int (Int32.ofNat vs.length) :: st))) : own_Wins p e below A T (mkF m pc L (.ref a :: st)) := by
  obtain ⟨locs, Y, eT, N, hn, hx, hby, hml, hown, hZ, hlk⟩ := X
  obtain ⟨d, rfl⟩ := d
  obtain ⟨cl, Ar, q, r⟩ := V
  exact own_by (fun t kk => Y.arraylength hx (by rw [eT]; exact Ar.1) (State.isArrayOf_alike hZ.alike Ar.2.1) (g := mkF m pc L (.ref a :: st)) rfl rfl (hb hby d) t (by rw [own_len q]; exact kk)) k
theorem own_iastore (X : own_St p l e R s m args below meth c Z n0 bs maxL own T h cells slots) {a : Addr} {vs : List Value} (V : own_AL Z h a .int vs) (ga : n0 ≤ a) {j : Int32} {x : Int32} {i : Nat} (hj : own_idx j i) (hk : i < vs.length) (d : own_ix bs pc .iastore 1 pc') (k : ∀ T' h', own_St p l e R s m args below meth c Z n0 bs maxL own T' h' cells slots → Wr h h' a i (.int x) → own_AL Z h' a .int (vs.set i (.int x)) → own_Wins p e below A T' (mkF m pc' L st)) : own_Wins p e below A T (mkF m pc L (.int x :: .int j :: .ref a :: st)) := by
  obtain ⟨locs, Y, eT, N, hn, hx, hby, hml, hown, hZ, hlk⟩ := X
  obtain ⟨d, rfl⟩ := d
  have V0 := V
  obtain ⟨cl, Ar, q, r⟩ := V
  obtain ⟨T', h', Y', e', W', st'⟩ := stI Y hx hZ eT Ar (j := j) (x := x) (own_in hj q hk) (g := mkF m pc L (.int x :: .int j :: .ref a :: st)) rfl rfl (hb hby d)
  have W2 : Wr h h' a i (.int x) := hj.2 ▸ W'
  exact own_by st' (k T' h' ⟨_, Y', e', Fr.snoc Y' N ga, W'.size ▸ hn, hx, hby, hml, hown, hZ, hlk⟩ W2 (V0.same W2))
theorem own_lastore (X : own_St p l e R s m args below meth c Z n0 bs maxL own T h cells slots) {a : Addr} {vs : List Value} (V : own_AL Z h a .long vs) (ga : n0 ≤ a) {j : Int32} {x : Int64} {i : Nat} (hj : own_idx j i) (hk : i < vs.length) (d : own_ix bs pc .lastore 1 pc') (k : ∀ T' h', own_St p l e R s m args below meth c Z n0 bs maxL own T' h' cells slots → Wr h h' a i (.long x) → own_AL Z h' a .long (vs.set i (.long x)) → own_Wins p e below A T' (mkF m pc' L st)) : own_Wins p e below A T (mkF m pc L (.long x :: .int j :: .ref a :: st)) := by
  obtain ⟨locs, Y, eT, N, hn, hx, hby, hml, hown, hZ, hlk⟩ := X
  obtain ⟨d, rfl⟩ := d
  have V0 := V
  obtain ⟨cl, Ar, q, r⟩ := V
  obtain ⟨T', h', Y', e', W', st'⟩ := stJ Y hx hZ eT Ar (j := j) (x := x) (own_in hj q hk) (g := mkF m pc L (.long x :: .int j :: .ref a :: st)) rfl rfl (hb hby d)
  have W2 : Wr h h' a i (.long x) := hj.2 ▸ W'
  exact own_by st' (k T' h' ⟨_, Y', e', Fr.snoc Y' N ga, W'.size ▸ hn, hx, hby, hml, hown, hZ, hlk⟩ W2 (V0.same W2))
theorem own_bastore (X : own_St p l e R s m args below meth c Z n0 bs maxL own T h cells slots) {a : Addr} {vs : List Value} (V : own_AL Z h a .byte vs) (ga : n0 ≤ a) {j : Int32} {x : Int32} {i : Nat} (hj : own_idx j i) (hk : i < vs.length) (d : own_ix bs pc .bastore 1 pc') (k : ∀ T' h', own_St p l e R s m args below meth c Z n0 bs maxL own T' h' cells slots → Wr h h' a i (.int x.toInt8.toInt32) → own_AL Z h' a .byte (vs.set i (.int x.toInt8.toInt32)) → own_Wins p e below A T' (mkF m pc' L st)) : own_Wins p e below A T (mkF m pc L (.int x :: .int j :: .ref a :: st)) := by
  obtain ⟨locs, Y, eT, N, hn, hx, hby, hml, hown, hZ, hlk⟩ := X
  obtain ⟨d, rfl⟩ := d
  have V0 := V
  obtain ⟨cl, Ar, q, r⟩ := V
  obtain ⟨T', h', Y', e', W', st'⟩ := stB Y hx hZ eT Ar (j := j) (x := x) (own_in hj q hk) (g := mkF m pc L (.int x :: .int j :: .ref a :: st)) rfl rfl (hb hby d)
  have W2 : Wr h h' a i (.int x.toInt8.toInt32) := hj.2 ▸ W'
  exact own_by st' (k T' h' ⟨_, Y', e', Fr.snoc Y' N ga, W'.size ▸ hn, hx, hby, hml, hown, hZ, hlk⟩ W2 (V0.same W2))
theorem own_newarr (X : own_St p l e R s m args below meth c Z n0 bs maxL own T h cells slots) {aty : ArrayType} (w : (Jvm.Cond.arrayClass (newarray.typeOf aty)).before a0 Z = true) (d : own_ix bs pc (.newarray aty) 2 pc') {z : Int32} {n : Nat} (hz : own_idx z n) (cap : Nat) (hcap : n ≤ cap) (hb1 : cap * 8 ≤ 536870912) (hc : cells + 1 ≤ R.cells) (hl : slots + cap ≤ R.slots)
    (k : ∀ T' h' a, own_St p l e R s m args below meth c Z n0 bs maxL own T' h' (cells + 1) (slots + cap) → Ext h h' → a = h.size → n0 ≤ a → own_AL Z h' a (newarray.typeOf aty) (List.replicate n (defaultValue (newarray.typeOf aty))) → own_Wins p e below A T' (mkF m pc' L (.ref a :: st))) : own_Wins p e below A T (mkF m pc L (.int z :: st)) := by
  obtain ⟨locs, Y, eT, N, hn, hx, hby, hml, hown, hZ, hlk⟩ := X
  obtain ⟨d, rfl⟩ := d
  obtain ⟨T', h', cA, Y', e', E', A', st'⟩ := newP Y hx hZ w eT (g := mkF m pc L (.int z :: st)) rfl (hb hby d) rfl hz.1 (cap := cap) (by rw [hz.2]; exact hcap) hb1 hc hl
  exact own_by st' (k T' h' _ ⟨_, Y', e', N, Nat.le_trans hn E'.1, hx, hby, hml, hown, hZ, hlk⟩ E' rfl hn (own_AL.new A' hz.2 (by omega)))
def own_up (g : Nat → Value) (k : Nat) (v : Value) : Nat → Value := fun j => if j = k then v else g j
theorem own_up_same (g : Nat → Value) (k : Nat) (v : Value) : own_up g k v k = v := if_pos rfl
theorem own_up_ne (g : Nat → Value) {k j : Nat} (v : Value) (h : j ≠ k) : own_up g k v j = g j := if_neg h
def own_AF (Z : State) (h : Heap) (a : Addr) (ty : FieldType) (n : Nat) (g : Nat → Value) : Prop := ∃ vs, own_AL Z h a ty vs ∧ vs.length = n ∧ ∀ j, j < n → vs[j]? = some (g j)
theorem own_AF.lt {a : Addr} {ty : FieldType} {n : Nat} {g : Nat → Value} (V : own_AF Z h a ty n g) : a < h.size := by obtain ⟨vs, V, -⟩ := V; exact V.lt
theorem own_AF.ext {a : Addr} {ty : FieldType} {n : Nat} {g : Nat → Value} (V : own_AF Z h a ty n g) (E : Ext h h') : own_AF Z h' a ty n g := by obtain ⟨vs, V, r⟩ := V; exact ⟨vs, V.ext E, r⟩
theorem own_AF.other {a b : Addr} {sl : Nat} {v : Value} {ty : FieldType} {n : Nat} {g : Nat → Value} (V : own_AF Z h b ty n g) (W : Wr h h' a sl v) (q : b ≠ a) : own_AF Z h' b ty n g := by obtain ⟨vs, V, r⟩ := V; exact ⟨vs, V.other W q, r⟩
theorem own_AF.keep {a : Addr} {ws : List Addr} {ty : FieldType} {n : Nat} {g : Nat → Value} (V : own_AF Z h a ty n g) (K : Keep h h' ws) (q : a ∉ ws) : own_AF Z h' a ty n g := by obtain ⟨vs, V, r⟩ := V; exact ⟨vs, V.keep K q, r⟩
theorem own_AF.same {a : Addr} {i : Nat} {v : Value} {ty : FieldType} {n : Nat} {g : Nat → Value} (V : own_AF Z h a ty n g) (W : Wr h h' a i v) : own_AF Z h' a ty n (own_up g i v) := by
  obtain ⟨vs, V, hn, hg⟩ := V
  refine ⟨_, V.same W, by simpa using hn, fun j hj => ?_⟩
  by_cases hij : j = i
  · subst hij; rw [own_up_same, List.getElem?_set_self (by omega)]
  · rw [own_up_ne _ _ hij, List.getElem?_set_ne (Ne.symm hij)]; exact hg j hj
theorem own_AF.len {a : Addr} {ty : FieldType} {n : Nat} {g : Nat → Value} (V : own_AF Z h a ty n g) : n < 2147483648 := by obtain ⟨vs, ⟨c, -, -, q⟩, hn, -⟩ := V; omega
theorem own_AL.fn {a : Addr} {ty : FieldType} {vs : List Value} (V : own_AL Z h a ty vs) (n : Nat) (hn : vs.length = n) (d : Value) : own_AF Z h a ty n (fun j => vs.getD j d) := ⟨vs, V, hn, fun j hj => by simp only [List.getD_eq_getElem?_getD]; rw [List.getElem?_eq_getElem (by omega)]; rfl⟩
theorem own_AF.to {a : Addr} {ty : FieldType} {n : Nat} {g g' : Nat → Value} (V : own_AF Z h a ty n g) (e : ∀ j, j < n → g j = g' j) : own_AF Z h a ty n g' := by obtain ⟨vs, V, hn, hg⟩ := V; exact ⟨vs, V, hn, fun j hj => by rw [hg j hj, e j hj]⟩
theorem own_ialoadF (X : own_St p l e R s m args below meth c Z n0 bs maxL own T h cells slots) {a : Addr} {n : Nat} {g : Nat → Value} (V : own_AF Z h a .int n g) {j : Int32} {i : Nat} {v : Value} (hj : own_idx j i) (hi : i < n) (hv : g i = v) (d : own_ix bs pc .iaload 1 pc') (k : own_Wins p e below A T (mkF m pc' L (v :: st))) : own_Wins p e below A T (mkF m pc L (.int j :: .ref a :: st)) := by
  obtain ⟨vs, V, hn, hg⟩ := V
  exact own_iaload X V hj (by rw [hg i hi, hv]) d k
theorem own_laloadF (X : own_St p l e R s m args below meth c Z n0 bs maxL own T h cells slots) {a : Addr} {n : Nat} {g : Nat → Value} (V : own_AF Z h a .long n g) {j : Int32} {i : Nat} {v : Value} (hj : own_idx j i) (hi : i < n) (hv : g i = v) (d : own_ix bs pc .laload 1 pc') (k : own_Wins p e below A T (mkF m pc' L (v :: st))) : own_Wins p e below A T (mkF m pc L (.int j :: .ref a :: st)) := by
  obtain ⟨vs, V, hn, hg⟩ := V
  exact own_laload X V hj (by rw [hg i hi, hv]) d k
theorem own_baloadF (X : own_St p l e R s m args below meth c Z n0 bs maxL own T h cells slots) {a : Addr} {n : Nat} {g : Nat → Value} (V : own_AF Z h a .byte n g) {j : Int32} {i : Nat} {v : Value} (hj : own_idx j i) (hi : i < n) (hv : g i = v) (d : own_ix bs pc .baload 1 pc') (k : own_Wins p e below A T (mkF m pc' L (v :: st))) : own_Wins p e below A T (mkF m pc L (.int j :: .ref a :: st)) := by
  obtain ⟨vs, V, hn, hg⟩ := V
  exact own_baload X V hj (by rw [hg i hi, hv]) d k
theorem own_alenF (X : own_St p l e R s m args below meth c Z n0 bs maxL own T h cells slots) {a : Addr} {ty : FieldType} {n : Nat} {g : Nat → Value} (V : own_AF Z h a ty n g) (d : own_ix bs pc .arraylength 1 pc') (k : own_Wins p e below A T (mkF m pc' L (.int (Int32.ofNat n) :: st))) : own_Wins p e below A T (mkF m pc L (.ref a :: st)) := by
  obtain ⟨vs, V, rfl, hg⟩ := V
  exact own_alen X V d k
theorem own_iastoreF (X : own_St p l e R s m args below meth c Z n0 bs maxL own T h cells slots) {a : Addr} {n : Nat} {g : Nat → Value} (V : own_AF Z h a .int n g) (ga : n0 ≤ a) {j : Int32} {x : Int32} {i : Nat} (hj : own_idx j i) (hi : i < n) (d : own_ix bs pc .iastore 1 pc') (k : ∀ T' h', own_St p l e R s m args below meth c Z n0 bs maxL own T' h' cells slots → Wr h h' a i (.int x) → own_AF Z h' a .int n (own_up g i (.int x)) → own_Wins p e below A T' (mkF m pc' L st)) : own_Wins p e below A T (mkF m pc L (.int x :: .int j :: .ref a :: st)) := by
  have V0 := V
  obtain ⟨vs, V, hn, hg⟩ := V
  exact own_iastore X V ga hj (by omega) d (fun T' h' X' W' _ => k T' h' X' W' (V0.same W'))
theorem own_lastoreF (X : own_St p l e R s m args below meth c Z n0 bs maxL own T h cells slots) {a : Addr} {n : Nat} {g : Nat → Value} (V : own_AF Z h a .long n g) (ga : n0 ≤ a) {j : Int32} {x : Int64} {i : Nat} (hj : own_idx j i) (hi : i < n) (d : own_ix bs pc .lastore 1 pc') (k : ∀ T' h', own_St p l e R s m args below meth c Z n0 bs maxL own T' h' cells slots → Wr h h' a i (.long x) → own_AF Z h' a .long n (own_up g i (.long x)) → own_Wins p e below A T' (mkF m pc' L st)) : own_Wins p e below A T (mkF m pc L (.long x :: .int j :: .ref a :: st)) := by
  have V0 := V
  obtain ⟨vs, V, hn, hg⟩ := V
  exact own_lastore X V ga hj (by omega) d (fun T' h' X' W' _ => k T' h' X' W' (V0.same W'))
theorem own_bastoreF (X : own_St p l e R s m args below meth c Z n0 bs maxL own T h cells slots) {a : Addr} {n : Nat} {g : Nat → Value} (V : own_AF Z h a .byte n g) (ga : n0 ≤ a) {j : Int32} {x : Int32} {i : Nat} (hj : own_idx j i) (hi : i < n) (d : own_ix bs pc .bastore 1 pc') (k : ∀ T' h', own_St p l e R s m args below meth c Z n0 bs maxL own T' h' cells slots → Wr h h' a i (.int x.toInt8.toInt32) → own_AF Z h' a .byte n (own_up g i (.int x.toInt8.toInt32)) → own_Wins p e below A T' (mkF m pc' L st)) : own_Wins p e below A T (mkF m pc L (.int x :: .int j :: .ref a :: st)) := by
  have V0 := V
  obtain ⟨vs, V, hn, hg⟩ := V
  exact own_bastore X V ga hj (by omega) d (fun T' h' X' W' _ => k T' h' X' W' (V0.same W'))
/-- an object of a class with these fields (names and descriptors), holding these values -/
def own_Obj (Z : State) (h : Heap) (a : Addr) (C : String) (ns : List (String × String)) (vs : List Value) : Prop := Exa Z h a C ∧ ns.length = vs.length ∧ ∀ (i : Nat) (n d : String) (v : Value), ns[i]? = some (n, d) → vs[i]? = some v → Fld Z h a C n d v
theorem own_Obj.lt {a : Addr} {C : String} {ns : List (String × String)} {vs : List Value} (O : own_Obj Z h a C ns vs) : a < h.size := O.1.lt
theorem own_Obj.ext {a : Addr} {C : String} {ns : List (String × String)} {vs : List Value} (O : own_Obj Z h a C ns vs) (E : Ext h h') : own_Obj Z h' a C ns vs := ⟨O.1.ext E, O.2.1, fun i n d v h1 h2 => (O.2.2 i n d v h1 h2).ext E⟩
theorem own_Obj.other {a b : Addr} {sl : Nat} {w : Value} {C : String} {ns : List (String × String)} {vs : List Value} (O : own_Obj Z h b C ns vs) (W : Wr h h' a sl w) (q : b ≠ a) : own_Obj Z h' b C ns vs := ⟨O.1.wr W, O.2.1, fun i n d v h1 h2 => (O.2.2 i n d v h1 h2).other W (Or.inl q)⟩
theorem own_Obj.keep {a : Addr} {ws : List Addr} {C : String} {ns : List (String × String)} {vs : List Value} (O : own_Obj Z h a C ns vs) (K : Keep h h' ws) (q : a ∉ ws) : own_Obj Z h' a C ns vs := ⟨O.1.keep K, O.2.1, fun i n d v h1 h2 => (O.2.2 i n d v h1 h2).keep K q⟩
def own_Laid (Z : State) (a0 : Array Value) (C : String) (ns : List (String × String)) : Prop := (∀ q ∈ ns, Laid Z a0 C C q.1 q.2 ∧ ∃ t, parseFieldDescriptor q.2 = some t) ∧ (ns.map (·.1)).Nodup
theorem own_Obj.put {a : Addr} {C n d : String} {ns : List (String × String)} {vs : List Value} {i : Nat} {v : Value} (O : own_Obj Z h a C ns vs) (La : own_Laid Z a0 C ns) (hi : ns[i]? = some (n, d)) (W : Wr h h' a (Jvm.RoadKit.slotOf Z C n d) v) : own_Obj Z h' a C ns (vs.set i v) := by
  refine ⟨O.1.wr W, by simpa using O.2.1, fun j n' d' v' h1 h2 => ?_⟩
  by_cases hij : i = j
  · subst hij
    rw [hi] at h1
    obtain ⟨rfl, rfl⟩ : n = n' ∧ d = d' := by simpa using h1
    have hlt : i < vs.length := by rw [← O.2.1]; exact (List.getElem?_eq_some_iff.mp hi).1
    rw [List.getElem?_set_self hlt] at h2
    cases h2
    exact (O.2.2 i n d vs[i] hi (List.getElem?_eq_getElem hlt)).same W
  · rw [List.getElem?_set_ne hij] at h2
    refine (O.2.2 j n' d' v' h1 h2).other W (Or.inr ?_)
    obtain ⟨L1, t1, e1⟩ := La.1 _ (List.mem_of_getElem? hi)
    obtain ⟨L2, t2, e2⟩ := La.1 _ (List.mem_of_getElem? h1)
    refine slot_ne L2 L1 ?_ e2 e1
    intro hnn
    obtain ⟨li, ei⟩ := List.getElem?_eq_some_iff.mp hi
    obtain ⟨lj, ej⟩ := List.getElem?_eq_some_iff.mp h1
    have hp := List.pairwise_iff_getElem.mp La.2
    rcases Nat.lt_or_gt_of_ne hij with hlt | hlt
    · exact hp i j (by simpa using li) (by simpa using lj) hlt (by simp [ei, ej, hnn])
    · exact hp j i (by simpa using lj) (by simpa using li) hlt (by simp [ei, ej, hnn])
theorem own_getF (X : own_St p l e R s m args below meth c Z n0 bs maxL own T h cells slots) {i k : Nat} {a : Addr} {C n dd host : String} {ns : List (String × String)} {vs : List Value} {v : Value} (w : (Jvm.Cond.fieldLink own i C n dd).before a0 Z = true) (O : own_Obj Z h a C ns vs) (hi : ns[k]? = some (n, dd)) (hv : vs[k]? = some v) (d : own_ix bs pc (.getfield i) 3 pc')
    (kk : ∀ T', own_St p l e R s m args below meth c Z n0 bs maxL own T' h cells slots → own_Wins p e below A T' (mkF m pc' L (v :: st))) : own_Wins p e below A T (mkF m pc L (.ref a :: st)) := by
  obtain ⟨locs, Y, eT, N, hn, hx, hby, hml, hown, hZ, hlk⟩ := X
  obtain ⟨d, rfl⟩ := d
  obtain ⟨T', Y', e', st'⟩ := getF Y hx hZ hown (host := "") (Or.inl w) Via.refl eT (O.2.2 k n dd v hi hv) (g := mkF m pc L (.ref a :: st)) rfl rfl (hb hby d)
  exact own_by st' (kk T' ⟨_, Y', e', N, hn, hx, hby, hml, hown, hZ, hlk⟩)
theorem own_putF (X : own_St p l e R s m args below meth c Z n0 bs maxL own T h cells slots) {i k kc : Nat} {a : Addr} {C n dd : String} {ns : List (String × String)} {vs : List Value} {v v' : Value} {ty : FieldType} (w : (Jvm.Cond.fieldLink own i C n dd).before a0 Z = true) (O : own_Obj Z h a C ns vs) (La : own_Laid Z a0 C ns) (hi : ns[k]? = some (n, dd))
    (Ly : (Jvm.Cond.lays C C n dd).before a0 Z = true ∨ ((Jvm.Cond.laysFinal C C n dd).before a0 Z = true ∧ own = C ∧ meth.name = "<init>")) (wi : (Jvm.Cond.instantiable C kc).before a0 Z = true) (hty : parseFieldDescriptor dd = some ty) (hnr : narrow ty v = v') (hf : fits ty v' = true) (ga : n0 ≤ a) (d : own_ix bs pc (.putfield i) 3 pc')
    (kk : ∀ T' h', own_St p l e R s m args below meth c Z n0 bs maxL own T' h' cells slots → Wr h h' a (Jvm.RoadKit.slotOf Z C n dd) v' → own_Obj Z h' a C ns (vs.set k v') → own_Wins p e below A T' (mkF m pc' L st)) : own_Wins p e below A T (mkF m pc L (v :: .ref a :: st)) := by
  obtain ⟨locs, Y, eT, N, hn, hx, hby, hml, hown, hZ, hlk⟩ := X
  obtain ⟨d, rfl⟩ := d
  have hlt : k < vs.length := by rw [← O.2.1]; exact (List.getElem?_eq_some_iff.mp hi).1
  obtain ⟨T', h', Y', e', W', st'⟩ := putFN Y hx hZ hown w Via.refl eT (O.2.2 k n dd vs[k] hi (List.getElem?_eq_getElem hlt)) O.1 Ly wi hty hnr hf (g := mkF m pc L (v :: .ref a :: st)) rfl rfl (hb hby d)
  exact own_by st' (kk T' h' ⟨_, Y', e', Fr.snoc Y' N ga, W'.size ▸ hn, hx, hby, hml, hown, hZ, hlk⟩ W' (O.put La hi W'))
theorem own_new (X : own_St p l e R s m args below meth c Z n0 bs maxL own T h cells slots) {i nn : Nat} {C : String} {ns : List (String × String)} (w1 : (Jvm.Cond.classLink own i C).before a0 Z = true) (w2 : (Jvm.Cond.instantiable C nn).before a0 Z = true) (w3 : (Jvm.Cond.initialized C).before a0 Z = true) (La : own_Laid Z a0 C ns) (vs : List Value) (hvs : vs = ns.map fun q => match parseFieldDescriptor q.2 with | some t => defaultValue t | none => .null) (d : own_ix bs pc (.new i) 3 pc') (hc : cells + 1 ≤ R.cells) (hl : slots + nn ≤ R.slots)
    (kk : ∀ T' h' a, own_St p l e R s m args below meth c Z n0 bs maxL own T' h' (cells + 1) (slots + nn) → Ext h h' → a = h.size → n0 ≤ a → own_Obj Z h' a C ns vs → own_Wins p e below A T' (mkF m pc' L (.ref a :: st))) : own_Wins p e below A T (mkF m pc L st) := by
  obtain ⟨locs, Y, eT, N, hn, hx, hby, hml, hown, hZ, hlk⟩ := X
  obtain ⟨d, rfl⟩ := d
  obtain ⟨T', h', Y', e', E', A', D', -, st'⟩ := newO Y hx hZ hown w1 w2 w3 eT (g := mkF m pc L st) rfl (hb hby d) hc hl
  refine own_by st' (kk T' h' _ ⟨_, Y', e', N, Nat.le_trans hn E'.1, hx, hby, hml, hown, hZ, hlk⟩ E' rfl hn ⟨A', by simp [hvs], fun j n dd v h1 h2 => ?_⟩)
  obtain ⟨Lq, t, et⟩ := La.1 _ (List.mem_of_getElem? h1)
  rw [hvs, List.getElem?_map, h1] at h2
  simp only [Option.map_some, et, Option.some.injEq] at h2
  subst h2
  exact D' Lq et
theorem own_initO (X : own_St p l e R s m args below meth c Z n0 bs maxL own T h cells slots) {i : Nat} {a : Addr} (w1 : (Jvm.Cond.methodLink own i Lib.objectInit).before a0 Z = true) (w2 : (Jvm.Cond.instanceMethod Lib.objectInit).before a0 Z = true) (w3 : (Jvm.Cond.code Lib.objectInit ⟨#[0xb1]⟩ 1 none).before a0 Z = true) (d : own_ix bs pc (.invokespecial i) 3 pc') (hsz : L.size = maxL) (hf : 1 ≤ R.frames) (Wt : Nat) (hW : 2 * 0 + (st.map fun v => v.category).sum ≤ Wt) (hl : Wt + 12 ≤ R.locals)
    (kk : ∀ T', own_St p l e R s m args below meth c Z n0 bs maxL own T' h cells slots → own_Wins p e below A T' (mkF m pc' L st)) : own_Wins p e below A T (mkF m pc L (.ref a :: st)) := by
  obtain ⟨locs, Y, eT, N, hn, hx, hby, hml, hown, hZ, hlk⟩ := X
  obtain ⟨d, rfl⟩ := d
  obtain ⟨T', Y', e', st'⟩ := initO Y hx hZ hown w1 w2 w3 eT (g := mkF m pc L (.ref a :: st)) rfl (by rw [hml]; exact hsz) rfl (hb hby d) hf (W := Wt) hW hl
  exact own_by st' (kk T' ⟨_, Y', e', N, hn, hx, hby, hml, hown, hZ, hlk⟩)
/-- what a body does, called with these arguments over this heap: it returns v and leaves a heap with P v h' -/
def own_Con (l : Launch) (Z : State) (n0 : Nat) (y : MethodName) (bs : ByteArray) (maxL : Nat) (ret : Option FieldType) (rm : Room) (ws : List Jvm.Cond) (av : Array Value) (h0 : Heap) (P : Option Value → Heap → Prop) : Prop :=
  MetFree l y (head1 (Jvm.Cond.code y bs maxL ret :: ws) rm) (fun a U => a = av ∧ Z.Warmed39 U.vm ∧ U.heap = h0) (fun _ _ _ _ _ => True) (fun _ U o U' => ∃ v L, o = .returned v ∧ (Fr n0 L ∧ n0 ≤ U'.heap.size ∧ P v U'.heap) ∧ FrameEnd U o U' L rm.cells rm.slots)
def own_G (s : State) (below : List Frame) (n0 : Nat) (rm : Room) (P : Option Value → Heap → Prop) (U : State) (o : Outcome) : Prop :=
  U.status = .running ∧ Ended U below o ∧ ∃ v L, o = .returned v ∧ (Fr n0 L ∧ n0 ≤ U.heap.size ∧ P v U.heap) ∧ FrameEnd s o U L rm.cells rm.slots
theorem own_enter {l : Launch} {Z : State} {n0 : Nat} {y : MethodName} {bs : ByteArray} {maxL : Nat} {ret : Option FieldType} {rm : Room} {ws : List Jvm.Cond} {av : Array Value} {h0 : Heap} {P : Option Value → Heap → Prop} (hpl : plainFor y = true) (Z0 : n0 ≤ h0.size) (L0 : Array Slot) (ef : ∀ m, entryFrame m av maxL = mkF m 0 L0 [])
    (body : ∀ (p : Program) (e : Env) (s : State) (m : MethodId) (below : List Frame) (meth : Method) (c : Code) (T : State) (A : State → Outcome → Prop), own_St p l e rm s m av below meth c Z n0 bs maxL y.cls T h0 0 0 → meth.sig.returnType = ret → meth.name = y.name → (∀ U o, own_G s below n0 rm P U o → A U o) → own_Wins p e below A T (mkF m 0 L0 [])) :
    own_Con l Z n0 y bs maxL ret rm ws av h0 P := by
  refine MetFree.of_bodySF hpl hisR ?_
  intro p e s m args below meth c s₁ Bd hml0 hP hK
  obtain ⟨rfl, hZ, hh⟩ := hP
  have hnm := (name_of_methodNamed Bd.named Bd.method).1
  have X0 : own_St p l e rm s m _ below meth c Z n0 bs maxL y.cls s₁ h0 0 0 := ⟨[], Stand.of_body Bd, by rw [← hh, Bd.state]; rfl, Fr.nil n0, Z0, Bd.exec, Bd.bytes, hml0, findClass_of_methodNamed Bd.named, hZ, BodyLoose.notSynchronized Bd⟩
  obtain ⟨U, o, h1, h2⟩ := body p e s m below meth c s₁ (own_G s below n0 rm P) X0 Bd.returns hnm (fun _ _ g => g)
  exact ⟨U, o, castTop (ef m) h1, h2⟩
theorem own_ret0 (X : own_St p l e R s m args below meth c Z n0 bs maxL own T h cells slots) (hret : meth.sig.returnType = none) {P : Option Value → Heap → Prop} (fin : ∀ U o, own_G s below n0 R P U o → A U o) (hc : cells ≤ R.cells) (hs : slots ≤ R.slots) (hP : P none h) (d : own_ix bs pc .return_ 1 pc') : own_Wins p e below A T (mkF m pc L []) := by
  obtain ⟨locs, Y, eT, N, hn, hx, hby, hml, hown, hZ, hlk⟩ := X
  obtain ⟨fs, hr, hrun, hended, hW, hsame⟩ := Y.leave (v := none) (fun _ => rfl) hlk
  have eF : (T.setFrames fs).heap = h := eT
  exact ⟨_, _, Y.returnOut hx hret (hb hby d.1) hr, fin _ _ ⟨hrun, hended, _, _, rfl, ⟨N, by rw [eF]; exact hn, by rw [eF]; exact hP⟩, ⟨_, rfl⟩, hW, hsame.mono hc hs⟩⟩
theorem own_retJ (X : own_St p l e R s m args below meth c Z n0 bs maxL own T h cells slots) {z : Int64} (hret : meth.sig.returnType = some .long) {P : Option Value → Heap → Prop} (fin : ∀ U o, own_G s below n0 R P U o → A U o) (hc : cells ≤ R.cells) (hs : slots ≤ R.slots) (hP : P (some (.long z)) h) (d : own_ix bs pc .lreturn 1 pc') : own_Wins p e below A T (mkF m pc L (.long z :: st)) := by
  obtain ⟨locs, Y, eT, N, hn, hx, hby, hml, hown, hZ, hlk⟩ := X
  obtain ⟨fs, hr, hrun, hended, hW, hsame⟩ := Y.leave (v := (some (.long z))) (fun q => by rw [hret] at q; cases q) hlk
  have eF : (T.setFrames fs).heap = h := eT
  exact ⟨_, _, retOut Y hx hret rfl (Or.inr (Or.inl ⟨rfl, rfl, z, rfl⟩)) (hb hby d.1) hr, fin _ _ ⟨hrun, hended, _, _, rfl, ⟨N, by rw [eF]; exact hn, by rw [eF]; exact hP⟩, ⟨_, rfl⟩, hW, hsame.mono hc hs⟩⟩
theorem own_retI (X : own_St p l e R s m args below meth c Z n0 bs maxL own T h cells slots) {z : Int32} (hret : meth.sig.returnType = some .int) {P : Option Value → Heap → Prop} (fin : ∀ U o, own_G s below n0 R P U o → A U o) (hc : cells ≤ R.cells) (hs : slots ≤ R.slots) (hP : P (some (.int z)) h) (d : own_ix bs pc .ireturn 1 pc') : own_Wins p e below A T (mkF m pc L (.int z :: st)) := by
  obtain ⟨locs, Y, eT, N, hn, hx, hby, hml, hown, hZ, hlk⟩ := X
  obtain ⟨fs, hr, hrun, hended, hW, hsame⟩ := Y.leave (v := (some (.int z))) (fun q => by rw [hret] at q; cases q) hlk
  have eF : (T.setFrames fs).heap = h := eT
  exact ⟨_, _, retOut Y hx hret rfl (Or.inl ⟨rfl, Or.inl rfl, z, rfl⟩) (hb hby d.1) hr, fin _ _ ⟨hrun, hended, _, _, rfl, ⟨N, by rw [eF]; exact hn, by rw [eF]; exact hP⟩, ⟨_, rfl⟩, hW, hsame.mono hc hs⟩⟩
theorem own_retZ (X : own_St p l e R s m args below meth c Z n0 bs maxL own T h cells slots) {z : Int32} (hret : meth.sig.returnType = some .boolean) (hz : narrow .boolean (.int z) = .int z) {P : Option Value → Heap → Prop} (fin : ∀ U o, own_G s below n0 R P U o → A U o) (hc : cells ≤ R.cells) (hs : slots ≤ R.slots) (hP : P (some (.int z)) h) (d : own_ix bs pc .ireturn 1 pc') : own_Wins p e below A T (mkF m pc L (.int z :: st)) := by
  obtain ⟨locs, Y, eT, N, hn, hx, hby, hml, hown, hZ, hlk⟩ := X
  obtain ⟨fs, hr, hrun, hended, hW, hsame⟩ := Y.leave (v := (some (.int z))) (fun q => by rw [hret] at q; cases q) hlk
  have eF : (T.setFrames fs).heap = h := eT
  exact ⟨_, _, retOut Y hx hret hz (Or.inl ⟨rfl, Or.inr (Or.inl rfl), z, rfl⟩) (hb hby d.1) hr, fin _ _ ⟨hrun, hended, _, _, rfl, ⟨N, by rw [eF]; exact hn, by rw [eF]; exact hP⟩, ⟨_, rfl⟩, hW, hsame.mono hc hs⟩⟩
theorem own_retB (X : own_St p l e R s m args below meth c Z n0 bs maxL own T h cells slots) {z : Int32} (hret : meth.sig.returnType = some .byte) (hz : narrow .byte (.int z) = .int z) {P : Option Value → Heap → Prop} (fin : ∀ U o, own_G s below n0 R P U o → A U o) (hc : cells ≤ R.cells) (hs : slots ≤ R.slots) (hP : P (some (.int z)) h) (d : own_ix bs pc .ireturn 1 pc') : own_Wins p e below A T (mkF m pc L (.int z :: st)) := by
  obtain ⟨locs, Y, eT, N, hn, hx, hby, hml, hown, hZ, hlk⟩ := X
  obtain ⟨fs, hr, hrun, hended, hW, hsame⟩ := Y.leave (v := (some (.int z))) (fun q => by rw [hret] at q; cases q) hlk
  have eF : (T.setFrames fs).heap = h := eT
  exact ⟨_, _, retOut Y hx hret hz (Or.inl ⟨rfl, Or.inr (Or.inr (Or.inl rfl)), z, rfl⟩) (hb hby d.1) hr, fin _ _ ⟨hrun, hended, _, _, rfl, ⟨N, by rw [eF]; exact hn, by rw [eF]; exact hP⟩, ⟨_, rfl⟩, hW, hsame.mono hc hs⟩⟩
theorem own_retA (X : own_St p l e R s m args below meth c Z n0 bs maxL own T h cells slots) {z : Addr} {t : FieldType} (hret : meth.sig.returnType = some t) (ht : t.isReference = true) (hn' : narrow t (.ref z) = .ref z) {P : Option Value → Heap → Prop} (fin : ∀ U o, own_G s below n0 R P U o → A U o) (hc : cells ≤ R.cells) (hs : slots ≤ R.slots) (hP : P (some (.ref z)) h) (d : own_ix bs pc .areturn 1 pc') : own_Wins p e below A T (mkF m pc L (.ref z :: st)) := by
  obtain ⟨locs, Y, eT, N, hn, hx, hby, hml, hown, hZ, hlk⟩ := X
  obtain ⟨fs, hr, hrun, hended, hW, hsame⟩ := Y.leave (v := (some (.ref z))) (fun q => by rw [hret] at q; cases q) hlk
  have eF : (T.setFrames fs).heap = h := eT
  exact ⟨_, _, retOut Y hx hret hn' (Or.inr (Or.inr (Or.inr (Or.inr ⟨rfl, ht, rfl⟩)))) (hb hby d.1) hr, fin _ _ ⟨hrun, hended, _, _, rfl, ⟨N, by rw [eF]; exact hn, by rw [eF]; exact hP⟩, ⟨_, rfl⟩, hW, hsame.mono hc hs⟩⟩
theorem own_callS (X : own_St p l e R s m args below meth c Z n0 bs maxL own T h cells slots) {y : MethodName} {bs' : ByteArray} {maxL' : Nat} {ret' : Option FieldType} {rm : Room} {P : Option Value → Heap → Prop} {i : Nat} (argsL rest : List Value) {ps : List FieldType} {r : Option FieldType} (Wt : Nat) (hstk : st = argsL.reverse ++ rest) (w1 : (Jvm.Cond.methodLink own i y).before a0 Z = true) (w2 : (Jvm.Cond.static y).before a0 Z = true) (w3 : (Jvm.Cond.initialized y.cls).before a0 Z = true) (w4 : (Jvm.Cond.code y bs' maxL' ret').before a0 Z = true) (hy : y.cls ≠ "java/lang/invoke/MethodHandle" ∧ y.cls ≠ "java/lang/invoke/VarHandle")
    (C : own_Con l Z n0 y bs' maxL' ret' rm [] argsL.toArray h P) (d : own_ix bs pc (.invokestatic i) 3 pc') (hlen : parseMethodDescriptor y.desc = some ⟨ps, r⟩) (hl2 : argsL.length = ps.length) (hsz : L.size = maxL) (hW : 2 * 0 + (rest.map fun v => v.category).sum ≤ Wt) (hf : rm.frames + 1 ≤ R.frames) (hl : Wt + (maxL' + 11) + rm.locals ≤ R.locals) (hc : cells + rm.cells ≤ R.cells) (hs : slots + rm.slots ≤ R.slots)
    (kk : ∀ T' h' v, own_St p l e R s m args below meth c Z n0 bs maxL own T' h' (cells + rm.cells) (slots + rm.slots) → P v h' → own_Wins p e below A T' (mkF m pc' L (v.toList ++ rest))) : own_Wins p e below A T (mkF m pc L st) := by
  obtain ⟨locs, Y, eT, N, hn, hx, hby, hml, hown, hZ, hlk⟩ := X
  obtain ⟨d, rfl⟩ := d
  obtain ⟨v, _, ⟨T1, L1, k1, n1⟩, -, X1, ⟨Lc, hQ, l1, y1, z1⟩, st1⟩ := Jvm.LawKit.callS Y hx (y := y) hown (mvT hZ w1) (mvT hZ w2) (mvT hZ w3) (mvT hZ w4) hy (backOf (W := Wt) (bytes := bs') (maxL := maxL') (rm := rm) (Q := fun v h' L => Fr n0 L ∧ n0 ≤ h'.size ∧ P v h') C hZ w4 w3 hf hl) (g := mkF m pc L st) rfl (by rw [hml]; exact hsz) (argsL := argsL) (rest := rest) (lenOf hlen hl2) hstk hW (hb hby d) (fun _ _ => ⟨rfl, eT, hc, hs⟩)
  dsimp only [Pt.U, Pt.locs, Pt.cells, Pt.slots] at X1 l1 y1 z1 st1 hQ
  subst l1 y1 z1
  obtain ⟨N1, n1, hP⟩ := hQ
  exact own_by st1 (kk T1 _ v ⟨_, X1, rfl, Fr.app N N1, n1, hx, hby, hml, hown, hZ, hlk⟩ hP)
theorem own_callI (X : own_St p l e R s m args below meth c Z n0 bs maxL own T h cells slots) {y : MethodName} {bs' : ByteArray} {maxL' : Nat} {rm : Room} {P : Option Value → Heap → Prop} {i : Nat} (argsL rest : List Value) {ps : List FieldType} {r : Option FieldType} (Wt : Nat) {a : Addr} (hstk : st = argsL.reverse ++ .ref a :: rest) (hy1 : y.name = "<init>") (w1 : (Jvm.Cond.methodLink own i y).before a0 Z = true) (w2 : (Jvm.Cond.instanceMethod y).before a0 Z = true) (w3 : (Jvm.Cond.initialized y.cls).before a0 Z = true) (w4 : (Jvm.Cond.code y bs' maxL' none).before a0 Z = true) (hy : y.cls ≠ "java/lang/invoke/MethodHandle" ∧ y.cls ≠ "java/lang/invoke/VarHandle")
    (C : own_Con l Z n0 y bs' maxL' none rm [] (.ref a :: argsL).toArray h P) (d : own_ix bs pc (.invokespecial i) 3 pc') (hlen : parseMethodDescriptor y.desc = some ⟨ps, r⟩) (hl2 : argsL.length = ps.length) (hsz : L.size = maxL) (hW : 2 * 0 + (rest.map fun v => v.category).sum ≤ Wt) (hf : rm.frames + 1 ≤ R.frames) (hl : Wt + (maxL' + 11) + rm.locals ≤ R.locals) (hc : cells + rm.cells ≤ R.cells) (hs : slots + rm.slots ≤ R.slots)
    (kk : ∀ T' h' v, own_St p l e R s m args below meth c Z n0 bs maxL own T' h' (cells + rm.cells) (slots + rm.slots) → P v h' → own_Wins p e below A T' (mkF m pc' L (v.toList ++ rest))) : own_Wins p e below A T (mkF m pc L st) := by
  obtain ⟨locs, Y, eT, N, hn, hx, hby, hml, hown, hZ, hlk⟩ := X
  obtain ⟨d, rfl⟩ := d
  obtain ⟨v, _, ⟨T1, L1, k1, n1⟩, -, X1, ⟨Lc, hQ, l1, y1, z1⟩, st1⟩ := Y.specialBack hx (y := y) hy1 hown (mvT hZ w1) (mvT hZ w2) (mvT hZ w4) hy (backOf (W := Wt) (bytes := bs') (maxL := maxL') (rm := rm) (Q := fun v h' L => Fr n0 L ∧ n0 ≤ h'.size ∧ P v h') C hZ w4 w3 hf hl) (g := mkF m pc L st) rfl (by rw [hml]; exact hsz) (Steps.refl _) (a := a) (argsL := argsL) (rest := rest) (lenOf hlen hl2) hstk hW (hb hby d) (fun _ _ => ⟨rfl, eT, hc, hs⟩)
  dsimp only [Pt.U, Pt.locs, Pt.cells, Pt.slots] at X1 l1 y1 z1 st1 hQ
  subst l1 y1 z1
  obtain ⟨N1, n1, hP⟩ := hQ
  exact own_by (fun _ q => st1.trans q) (kk T1 _ v ⟨_, X1, rfl, Fr.app N N1, n1, hx, hby, hml, hown, hZ, hlk⟩ hP)
theorem own_callV (X : own_St p l e R s m args below meth c Z n0 bs maxL own T h cells slots) {y : MethodName} {bs' : ByteArray} {maxL' : Nat} {ret' : Option FieldType} {rm : Room} {P : Option Value → Heap → Prop} {i : Nat} (argsL rest : List Value) {ps : List FieldType} {r : Option FieldType} (Wt : Nat) {a : Addr} (hstk : st = argsL.reverse ++ .ref a :: rest) (w1 : (Jvm.Cond.methodLink own i y).before a0 Z = true) (w2 : (Jvm.Cond.declares y).before a0 Z = true) (w5 : (Jvm.Cond.selects y.cls y y).before a0 Z = true) (w6 : (Jvm.Cond.instanceMethod y).before a0 Z = true) (w3 : (Jvm.Cond.initialized y.cls).before a0 Z = true) (w4 : (Jvm.Cond.code y bs' maxL' ret').before a0 Z = true) (hy : y.cls ≠ "java/lang/invoke/MethodHandle" ∧ y.cls ≠ "java/lang/invoke/VarHandle") (E : Exa Z h a y.cls)
    (C : own_Con l Z n0 y bs' maxL' ret' rm [] (.ref a :: argsL).toArray h P) (d : own_ix bs pc (.invokevirtual i) 3 pc') (hlen : parseMethodDescriptor y.desc = some ⟨ps, r⟩) (hl2 : argsL.length = ps.length) (hsz : L.size = maxL) (hW : 2 * 0 + (rest.map fun v => v.category).sum ≤ Wt) (hf : rm.frames + 1 ≤ R.frames) (hl : Wt + (maxL' + 11) + rm.locals ≤ R.locals) (hc : cells + rm.cells ≤ R.cells) (hs : slots + rm.slots ≤ R.slots)
    (kk : ∀ T' h' v, own_St p l e R s m args below meth c Z n0 bs maxL own T' h' (cells + rm.cells) (slots + rm.slots) → P v h' → own_Wins p e below A T' (mkF m pc' L (v.toList ++ rest))) : own_Wins p e below A T (mkF m pc L st) := by
  obtain ⟨locs, Y, eT, N, hn, hx, hby, hml, hown, hZ, hlk⟩ := X
  obtain ⟨d, rfl⟩ := d
  obtain ⟨cq, kq, qa, qb, qc⟩ := isOf hZ eT E
  obtain ⟨v, _, ⟨T1, L1, k1, n1⟩, -, X1, ⟨Lc, hQ, l1, y1, z1⟩, st1⟩ := Y.virtualBack hx (y := y) (z := y) hown (mvT hZ w1) (mvT hZ w2) (notFace_of_selects (args := #[]) (mvT hZ w5)) (mvT hZ w5) (mvT hZ w6) hy (backOf (W := Wt) (bytes := bs') (maxL := maxL') (rm := rm) (Q := fun v h' L => Fr n0 L ∧ n0 ≤ h'.size ∧ P v h') C hZ w4 w3 hf hl) qa qc (g := mkF m pc L st) rfl (by rw [hml]; exact hsz) (Steps.refl _) (argsL := argsL) (rest := rest) (lenOf hlen hl2) hstk hW (hb hby d) (fun _ _ => ⟨rfl, eT, hc, hs⟩)
  dsimp only [Pt.U, Pt.locs, Pt.cells, Pt.slots] at X1 l1 y1 z1 st1 hQ
  subst l1 y1 z1
  obtain ⟨N1, n1, hP⟩ := hQ
  exact own_by (fun _ q => st1.trans q) (kk T1 _ v ⟨_, X1, rfl, Fr.app N N1, n1, hx, hby, hml, hown, hZ, hlk⟩ hP)
theorem own_callP (X : own_St p l e R s m args below meth c Z n0 bs maxL own T h cells slots) {y : MethodName} {bs' : ByteArray} {maxL' : Nat} {ret' : Option FieldType} {rm : Room} {P : Option Value → Heap → Prop} {i : Nat} (argsL rest : List Value) {ps : List FieldType} {r : Option FieldType} (Wt : Nat) {a : Addr} {kk' : Nat} (hstk : st = argsL.reverse ++ .ref a :: rest) (w1 : (Jvm.Cond.methodLink own i y).before a0 Z = true) (w2 : (Jvm.Cond.privateMethod y).before a0 Z = true) (w6 : (Jvm.Cond.instanceMethod y).before a0 Z = true) (w3 : (Jvm.Cond.initialized y.cls).before a0 Z = true) (w4 : (Jvm.Cond.code y bs' maxL' ret').before a0 Z = true) (wi : (Jvm.Cond.instantiable y.cls kk').before a0 Z = true) (hy : y.cls ≠ "java/lang/invoke/MethodHandle" ∧ y.cls ≠ "java/lang/invoke/VarHandle") (E : Exa Z h a y.cls)
    (C : own_Con l Z n0 y bs' maxL' ret' rm [] (.ref a :: argsL).toArray h P) (d : own_ix bs pc (.invokevirtual i) 3 pc') (hlen : parseMethodDescriptor y.desc = some ⟨ps, r⟩) (hl2 : argsL.length = ps.length) (hsz : L.size = maxL) (hW : 2 * 0 + (rest.map fun v => v.category).sum ≤ Wt) (hf : rm.frames + 1 ≤ R.frames) (hl : Wt + (maxL' + 11) + rm.locals ≤ R.locals) (hc : cells + rm.cells ≤ R.cells) (hs : slots + rm.slots ≤ R.slots)
    (kk : ∀ T' h' v, own_St p l e R s m args below meth c Z n0 bs maxL own T' h' (cells + rm.cells) (slots + rm.slots) → P v h' → own_Wins p e below A T' (mkF m pc' L (v.toList ++ rest))) : own_Wins p e below A T (mkF m pc L st) := by
  obtain ⟨locs, Y, eT, N, hn, hx, hby, hml, hown, hZ, hlk⟩ := X
  obtain ⟨d, rfl⟩ := d
  obtain ⟨cq, q1, q2⟩ := E.cell
  have hpr : s.PrivateAt y := Cond.privateMethod_at (mvP hZ w2 (args := #[]))
  obtain ⟨cI, kI, e1, e2, -, e3, -⟩ := Cond.instantiable_spec (mv (args := #[]) hZ wi)
  have hsel : (Jvm.Cond.selects y.cls y y).before args s = true := Jvm.Stand.selects_self_of_private e1 e2 (by cases hq : kI.isInterface <;> simp_all) hpr (mvT hZ w6) hy
  obtain ⟨v, _, ⟨T1, L1, k1, n1⟩, -, X1, ⟨Lc, hQ, l1, y1, z1⟩, st1⟩ := Y.privateBack hx (y := y) hown (mvT hZ w1) (mvT hZ w6) hsel hpr (mvT hZ w4) hy (backOf (W := Wt) (bytes := bs') (maxL := maxL') (rm := rm) (Q := fun v h' L => Fr n0 L ∧ n0 ≤ h'.size ∧ P v h') C hZ w4 w3 hf hl) (g := mkF m pc L st) rfl (by rw [hml]; exact hsz) (Steps.refl _) (a := a) (by rw [eT]; exact q1) q2 (argsL := argsL) (rest := rest) (lenOf hlen hl2) hstk hW (hb hby d) (fun _ _ => ⟨rfl, eT, hc, hs⟩)
  dsimp only [Pt.U, Pt.locs, Pt.cells, Pt.slots] at X1 l1 y1 z1 st1 hQ
  subst l1 y1 z1
  obtain ⟨N1, n1, hP⟩ := hQ
  exact own_by (fun _ q => st1.trans q) (kk T1 _ v ⟨_, X1, rfl, Fr.app N N1, n1, hx, hby, hml, hown, hZ, hlk⟩ hP)
end OwnLayer
theorem own_Lushr_bv (x : Int64) (q : Int32) (k : Nat) (hk : q.toBitVec.toNat % 64 = k) : (own_Lushr x q).toBitVec = x.toBitVec >>> k := by
  have h5 := (sm64 q k hk).2
  show x.toBitVec >>> ((q &&& 0x3f).toInt64.toBitVec % 64) = _
  rw [BitVec.ushiftRight_eq', BitVec.toNat_umod, (sm64 q k hk).1, BitVec.toNat_ofNat]
  congr 1
  show k % 2 ^ 64 % 64 = k
  omega
theorem own_Lshl_bv (x : Int64) (q : Int32) (k : Nat) (hk : q.toBitVec.toNat % 64 = k) : (own_Lshl x q).toBitVec = x.toBitVec <<< k := by
  show x.toBitVec <<< ((q &&& 0x3f).toInt64.toBitVec.smod 64) = _
  rw [BitVec.shiftLeft_eq', (sm64 q k hk).1, smod64 k (sm64 q k hk).2]
theorem own_Iushr_bv (x q : Int32) (k : Nat) (hk : q.toBitVec.toNat % 32 = k) : (own_Iushr x q).toBitVec = x.toBitVec >>> k := by
  have h1 : (q &&& 31).toBitVec.toNat = k := by
    show (q.toBitVec &&& (31 : Int32).toBitVec).toNat = _
    rw [BitVec.toNat_and, show (31 : Int32).toBitVec.toNat = 2 ^ 5 - 1 from by decide, Nat.and_two_pow_sub_one_eq_mod]; exact hk
  show x.toBitVec >>> ((q &&& 31).toBitVec % 32) = _
  rw [BitVec.ushiftRight_eq', BitVec.toNat_umod, h1]
  congr 1
  show k % 32 = k
  omega

theorem own_idx_iff {j : Int32} {k : Nat} : own_idx j k ↔ j.toInt = (k : Int) := by
  have h0 : (0 : Int32).toInt = 0 := by decide
  have h1 : j.toNatClampNeg = j.toInt.toNat := rfl
  rw [own_idx, Int32.lt_iff_toInt_lt, h0, h1]
  omega
theorem own_idx_nat {k : Nat} (h : k < 2147483648) : own_idx (Int32.ofNat k) k := own_idx_iff.mpr (Int32.toInt_ofNat_of_lt h)
theorem own_idx_add {a b : Int32} {m n : Nat} (ha : own_idx a m) (hb : own_idx b n) (h : m + n < 2147483648) : own_idx (a + b) (m + n) := by
  rw [own_idx_iff] at *
  have h1 := c_iadd a b
  have h2 := rng32 (a + b)
  omega
theorem own_idx_sub {a b : Int32} {m n : Nat} (ha : own_idx a m) (hb : own_idx b n) (h : n ≤ m) : own_idx (a - b) (m - n) := by
  rw [own_idx_iff] at *
  have h1 := c_isub a b
  have h2 := rng32 (a - b)
  have h3 := rng32 a
  omega
theorem own_idx_lt {a b : Int32} {m n : Nat} (ha : own_idx a m) (hb : own_idx b n) : a < b ↔ m < n := by
  rw [own_idx_iff] at *
  rw [Int32.lt_iff_toInt_lt]
  omega
theorem own_idx_eq {a b : Int32} {m n : Nat} (ha : own_idx a m) (hb : own_idx b n) : a = b ↔ m = n := by
  rw [own_idx_iff] at *
  rw [← Int32.toInt_inj]
  omega
theorem own_idx_range {a : Int32} {m : Nat} (ha : own_idx a m) : m < 2147483648 := by
  rw [own_idx_iff] at ha
  have := rng32 a
  omega
theorem own_idx_val {a : Int32} {m : Nat} (ha : own_idx a m) : a = Int32.ofNat m := (own_idx_eq ha (own_idx_nat (own_idx_range ha))).mpr rfl
theorem own_succ (i : Nat) : Int32.ofNat i + 1 = Int32.ofNat (i + 1) := by
  rw [Int32.ofNat_add]; rfl
theorem own_mod_idx (z : Int32) (d : Int32) (n : Nat) (hd : own_idx d n) (hn : 0 < n) : ∃ k, k < n ∧ own_idx ((z &&& 2147483647) % d) k := by
  have h1 := c_mask z 2147483647 31 (by decide) (by decide)
  have hd' := own_idx_iff.mp hd
  have h2 := (c_irem (z &&& 2147483647) d n hd').1 (by rw [h1]; omega)
  refine ⟨((z &&& 2147483647).toInt % (n : Int)).toNat, ?_, ?_⟩
  · have := Int.emod_lt_of_pos (z &&& 2147483647).toInt (show (0 : Int) < n by omega)
    have := Int.emod_nonneg (z &&& 2147483647).toInt (show (n : Int) ≠ 0 by omega)
    omega
  · rw [own_idx_iff, h2]
    have := Int.emod_nonneg (z &&& 2147483647).toInt (show (n : Int) ≠ 0 by omega)
    omega

theorem own_idx_bv {j : Int32} {k : Nat} (h : own_idx j k) : j.toBitVec.toNat = k := by
  have h1 := own_idx_iff.mp h
  have h2 := own_idx_range h
  have h3 : j.toInt = j.toBitVec.toInt := rfl
  rw [h3, BitVec.toInt_eq_toNat_cond] at h1
  split at h1 <;> omega
theorem own_idx_sh {j : Int32} {k : Nat} (h : own_idx j k) (hk : k < 64) : j.toBitVec.toNat % 64 = k := by rw [own_idx_bv h]; omega
theorem own_not (x : Int64) : (x ^^^ (-1 : Int64)).toBitVec = ~~~ x.toBitVec := by
  rw [Int64.toBitVec_xor, show (-1 : Int64).toBitVec = BitVec.allOnes 64 by decide, BitVec.xor_allOnes]
/-- one bit of a long, as a long -/
theorem own_bit1 (x : Int64) (j : Int32) (k : Nat) (h : own_idx j k) (hk : k < 64) : (own_Lushr x j) &&& (1 : Int64) = if x.toBitVec.getLsbD k then 1 else 0 := by
  apply Int64.toBitVec_inj.mp
  rw [Int64.toBitVec_and, own_Lushr_bv x j k (own_idx_sh h hk), show (1 : Int64).toBitVec = 1#64 by decide]
  have e : (if x.toBitVec.getLsbD k then (1 : Int64) else 0).toBitVec = if x.toBitVec.getLsbD k then 1#64 else 0#64 := by split <;> rfl
  rw [e]
  apply BitVec.eq_of_getLsbD_eq
  intro i hi
  rw [BitVec.getLsbD_and, BitVec.getLsbD_ushiftRight, BitVec.getLsbD_one]
  by_cases h0 : i = 0
  · subst h0; cases hx : x.toBitVec.getLsbD k <;> simp [hx]
  · cases hx : x.toBitVec.getLsbD k <;> simp [h0]
theorem own_div64 {j : Int32} {k : Nat} (h : own_idx j k) : own_idx (j / (64 : Int32)) (k / 64) ∧ own_idx (j % (64 : Int32)) (k % 64) := by
  have h1 := own_idx_iff.mp h
  have h2 := (c_idiv j 64 64 (by decide) (by decide)).1 (by omega)
  have h3 := (c_irem j 64 64 (by decide)).1 (by omega)
  exact ⟨own_idx_iff.mpr (by omega), own_idx_iff.mpr (by omega)⟩
theorem own_and_idx (z m : Int32) (b : Nat) (hb : b ≤ 31) (hm : m.toBitVec.toNat = 2 ^ b - 1) : ∃ k, k < 2 ^ b ∧ own_idx (z &&& m) k := by
  have h1 := c_mask z m b hb hm
  have h2 : (0 : Int) < ((2 ^ b : Nat) : Int) := by have := Nat.two_pow_pos b; omega
  have h3 := Int.emod_nonneg z.toInt (show ((2 ^ b : Nat) : Int) ≠ 0 by omega)
  have h4 := Int.emod_lt_of_pos z.toInt h2
  exact ⟨(z &&& m).toInt.toNat, by omega, own_idx_iff.mpr (by omega)⟩
theorem own_ushr_idx {j q : Int32} {k : Nat} (n : Nat) (h : own_idx j k) (hq : q.toBitVec.toNat % 32 = n) (hn : 0 < n) : own_idx (own_Iushr j q) (k / 2 ^ n) := by
  have h1 := own_idx_iff.mp h
  have h2 := own_idx_range h
  have h3 := c_iushr j q n hq hn
  rw [own_idx_iff]
  show ((j.toUInt32 >>> (q &&& 31).toUInt32).toInt32).toInt = _
  rw [h3, h1, show (k : Int) % 4294967296 = (k : Int) by omega]
  exact (Int.natCast_ediv _ _).symm
theorem own_mul64 {j : Int32} {k : Nat} (h : own_idx j k) (hk : 64 * k < 2147483648) : own_idx (j * (64 : Int32)) (64 * k) := by
  rw [own_idx_iff] at *
  have h1 := c_imul j 64
  have h2 := rng32 (j * 64)
  have h3 : (64 : Int32).toInt = 64 := by decide
  rw [h3, h] at h1
  omega

theorem own_low6 (j : Int32) (k : Nat) (h : own_idx j k) : own_idx (j &&& (63 : Int32)) (k % 64) := by
  have h1 := c_mask j 63 6 (by decide) (by decide)
  have h2 := own_idx_iff.mp h
  rw [own_idx_iff, h1, h2]
  exact (Int.natCast_emod _ _).symm
def own_Fz (F : Nat → Int64) (len j : Nat) : Int64 := if j < len then F j else 0
def own_lo (F : Nat → Int64) (len w : Nat) (sh : Int32) : Int64 := own_Lushr (own_Fz F len w) sh
def own_hi (F : Nat → Int64) (len w : Nat) (sh : Int32) : Int64 := if sh = 0 then 0 else own_Lshl (own_Fz F len (w + 1)) (64 - sh)
def own_cps (g F : Nat → Int64) (len tw W : Nat) (sh : Int32) : Nat → Nat → Int64
  | 0 => g
  | i + 1 => fun j => if j = tw + i then own_lo F len (W + i) sh ||| own_hi F len (W + i) sh else own_cps g F len tw W sh i j
theorem own_up_long (g : Nat → Int64) (p : Nat) (x : Int64) : (own_up (fun j => .long (g j)) p (.long x)) = (fun j => .long (if j = p then x else g j)) := by
  funext j; simp only [own_up]; split <;> rfl
theorem own_lz (sh : Int32) : own_Lushr 0 sh = 0 := by
  apply Int64.toBitVec_inj.mp
  rw [own_Lushr_bv 0 sh _ rfl]
  simp
theorem own_lz' (sh : Int32) : own_Lshl 0 sh = 0 := by
  apply Int64.toBitVec_inj.mp
  rw [own_Lshl_bv 0 sh _ rfl]
  simp
def own_sb (F : Nat → Int64) (len m : Nat) : Int64 := if (own_Fz F len (m / 64)).toBitVec.getLsbD (m % 64) then 1 else 0
theorem own_cps_at (g F : Nat → Int64) (len tw W : Nat) (sh : Int32) (j : Nat) : ∀ n, own_cps g F len tw W sh n j = if tw ≤ j ∧ j < tw + n then own_lo F len (W + (j - tw)) sh ||| own_hi F len (W + (j - tw)) sh else g j := by
  intro n
  induction n with
  | zero => rw [if_neg (by omega)]; rfl
  | succ n ih =>
    show (if j = tw + n then own_lo F len (W + n) sh ||| own_hi F len (W + n) sh else own_cps g F len tw W sh n j) = _
    by_cases h : j = tw + n
    · rw [if_pos h, if_pos (by omega), show j - tw = n by omega]
    · rw [if_neg h, ih]
      by_cases h2 : tw ≤ j ∧ j < tw + n
      · rw [if_pos h2, if_pos (by omega)]
      · rw [if_neg h2, if_neg (by omega)]
/-- a bit of a copied word is the bit of the source -/
theorem own_word (F : Nat → Int64) (len W S k : Nat) (sh kk : Int32) (h : own_idx sh S) (hS : S < 64) (hk : own_idx kk k) (hk64 : k < 64) (w : Nat) : (own_Lushr (own_lo F len (W + w) sh ||| own_hi F len (W + w) sh) kk) &&& (1 : Int64) = own_sb F len (64 * W + S + 64 * w + k) := by
  rw [own_bit1 _ kk k hk hk64, own_sb, Int64.toBitVec_or, BitVec.getLsbD_or, own_lo, own_hi, own_Lushr_bv _ sh S (own_idx_sh h hS), BitVec.getLsbD_ushiftRight]
  have e1 : (64 * W + S + 64 * w + k) / 64 = W + w + (S + k) / 64 := by omega
  have e2 : (64 * W + S + 64 * w + k) % 64 = (S + k) % 64 := by omega
  rw [e1, e2]
  by_cases h0 : sh = 0
  · have hS0 : S = 0 := (own_idx_eq h (n := 0) ⟨by decide, by decide⟩).mp h0
    subst hS0
    rw [if_pos h0, show (0 + k) / 64 = 0 by omega, show (0 + k) % 64 = k by omega]
    simp
  · have hS0 : S ≠ 0 := fun q => h0 ((own_idx_eq h (n := 0) ⟨by decide, by decide⟩).mpr q)
    rw [if_neg h0, own_Lshl_bv _ _ (64 - S) (own_idx_sh (own_idx_sub (m := 64) ⟨by decide, by decide⟩ h (by omega)) (by omega)), BitVec.getLsbD_shiftLeft]
    by_cases c : S + k < 64
    · rw [show (S + k) / 64 = 0 by omega, show (S + k) % 64 = S + k by omega]
      simp [hk64, show k < 64 - S by omega]
    · rw [show (S + k) / 64 = 1 by omega, show (S + k) % 64 = k - (64 - S) by omega]
      have : (own_Fz F len (W + w)).toBitVec.getLsbD (S + k) = false := BitVec.getLsbD_of_ge _ _ (by omega)
      rw [this]
      simp [hk64, show ¬ k < 64 - S by omega]
theorem own_d_prog_37_method_9_code_0 : own_il prog_37_method_9_code 0 1 1 := Or.inl ⟨1, by decide +kernel, rfl, rfl⟩
theorem own_d_prog_37_method_9_code_1 : own_ik prog_37_method_9_code 1 64 3 := ⟨64, Or.inr (Or.inl ⟨by decide +kernel, by decide, rfl⟩)⟩
theorem own_d_prog_37_method_9_code_3 : own_ix prog_37_method_9_code 3 .irem 1 4 := ⟨by decide +kernel, rfl⟩
theorem own_d_prog_37_method_9_code_4 : own_si prog_37_method_9_code 4 5 6 := Or.inr ⟨by decide +kernel, rfl⟩
theorem own_d_prog_37_method_9_code_6 : own_ik prog_37_method_9_code 6 0 7 := ⟨0, Or.inl ⟨by decide +kernel, by decide, rfl⟩⟩
theorem own_d_prog_37_method_9_code_7 : own_si prog_37_method_9_code 7 6 9 := Or.inr ⟨by decide +kernel, rfl⟩
theorem own_d_prog_37_method_9_code_9 : own_il prog_37_method_9_code 9 6 11 := Or.inr ⟨by decide +kernel, rfl⟩
theorem own_d_prog_37_method_9_code_11 : own_il prog_37_method_9_code 11 4 13 := Or.inr ⟨by decide +kernel, rfl⟩
theorem own_d_prog_37_method_9_code_13 : own_icm prog_37_method_9_code 13 .ge 16 94 := ⟨81, by decide +kernel, rfl, by decide, by decide⟩
theorem own_d_prog_37_method_9_code_16 : own_il prog_37_method_9_code 16 1 17 := Or.inl ⟨1, by decide +kernel, rfl, rfl⟩
theorem own_d_prog_37_method_9_code_17 : own_ik prog_37_method_9_code 17 64 19 := ⟨64, Or.inr (Or.inl ⟨by decide +kernel, by decide, rfl⟩)⟩
theorem own_d_prog_37_method_9_code_19 : own_ix prog_37_method_9_code 19 .idiv 1 20 := ⟨by decide +kernel, rfl⟩
theorem own_d_prog_37_method_9_code_20 : own_il prog_37_method_9_code 20 6 22 := Or.inr ⟨by decide +kernel, rfl⟩
theorem own_d_prog_37_method_9_code_22 : own_ix prog_37_method_9_code 22 .iadd 1 23 := ⟨by decide +kernel, rfl⟩
theorem own_d_prog_37_method_9_code_23 : own_si prog_37_method_9_code 23 7 25 := Or.inr ⟨by decide +kernel, rfl⟩
theorem own_d_prog_37_method_9_code_25 : own_il prog_37_method_9_code 25 7 27 := Or.inr ⟨by decide +kernel, rfl⟩
theorem own_d_prog_37_method_9_code_27 : own_al prog_37_method_9_code 27 0 28 := Or.inl ⟨0, by decide +kernel, rfl, rfl⟩
theorem own_d_prog_37_method_9_code_28 : own_ix prog_37_method_9_code 28 .arraylength 1 29 := ⟨by decide +kernel, rfl⟩
theorem own_d_prog_37_method_9_code_29 : own_icm prog_37_method_9_code 29 .ge 32 42 := ⟨13, by decide +kernel, rfl, by decide, by decide⟩
theorem own_d_prog_37_method_9_code_32 : own_al prog_37_method_9_code 32 0 33 := Or.inl ⟨0, by decide +kernel, rfl, rfl⟩
theorem own_d_prog_37_method_9_code_33 : own_il prog_37_method_9_code 33 7 35 := Or.inr ⟨by decide +kernel, rfl⟩
theorem own_d_prog_37_method_9_code_35 : own_ix prog_37_method_9_code 35 .laload 1 36 := ⟨by decide +kernel, rfl⟩
theorem own_d_prog_37_method_9_code_36 : own_il prog_37_method_9_code 36 5 38 := Or.inr ⟨by decide +kernel, rfl⟩
theorem own_d_prog_37_method_9_code_38 : own_ix prog_37_method_9_code 38 .lushr 1 39 := ⟨by decide +kernel, rfl⟩
theorem own_d_prog_37_method_9_code_39 : own_gt prog_37_method_9_code 39 43 := ⟨4, by decide +kernel, by decide, by decide⟩
theorem own_d_prog_37_method_9_code_42 : own_lk prog_37_method_9_code 42 0 43 := ⟨0, by decide +kernel, by decide, rfl⟩
theorem own_d_prog_37_method_9_code_43 : own_sl prog_37_method_9_code 43 8 45 := Or.inr ⟨by decide +kernel, rfl⟩
theorem own_d_prog_37_method_9_code_45 : own_il prog_37_method_9_code 45 5 47 := Or.inr ⟨by decide +kernel, rfl⟩
theorem own_d_prog_37_method_9_code_47 : own_ifc prog_37_method_9_code 47 .eq 50 59 := ⟨12, by decide +kernel, rfl, by decide, by decide⟩
theorem own_d_prog_37_method_9_code_59 : own_lk prog_37_method_9_code 59 0 60 := ⟨0, by decide +kernel, by decide, rfl⟩
theorem own_d_prog_37_method_9_code_60 : own_gt prog_37_method_9_code 60 75 := ⟨15, by decide +kernel, by decide, by decide⟩
theorem own_d_prog_37_method_9_code_50 : own_il prog_37_method_9_code 50 7 52 := Or.inr ⟨by decide +kernel, rfl⟩
theorem own_d_prog_37_method_9_code_52 : own_ik prog_37_method_9_code 52 1 53 := ⟨1, Or.inl ⟨by decide +kernel, by decide, rfl⟩⟩
theorem own_d_prog_37_method_9_code_53 : own_ix prog_37_method_9_code 53 .iadd 1 54 := ⟨by decide +kernel, rfl⟩
theorem own_d_prog_37_method_9_code_54 : own_al prog_37_method_9_code 54 0 55 := Or.inl ⟨0, by decide +kernel, rfl, rfl⟩
theorem own_d_prog_37_method_9_code_55 : own_ix prog_37_method_9_code 55 .arraylength 1 56 := ⟨by decide +kernel, rfl⟩
theorem own_d_prog_37_method_9_code_56 : own_icm prog_37_method_9_code 56 .lt 59 63 := ⟨7, by decide +kernel, rfl, by decide, by decide⟩
theorem own_d_prog_37_method_9_code_63 : own_al prog_37_method_9_code 63 0 64 := Or.inl ⟨0, by decide +kernel, rfl, rfl⟩
theorem own_d_prog_37_method_9_code_64 : own_il prog_37_method_9_code 64 7 66 := Or.inr ⟨by decide +kernel, rfl⟩
theorem own_d_prog_37_method_9_code_66 : own_ik prog_37_method_9_code 66 1 67 := ⟨1, Or.inl ⟨by decide +kernel, by decide, rfl⟩⟩
theorem own_d_prog_37_method_9_code_67 : own_ix prog_37_method_9_code 67 .iadd 1 68 := ⟨by decide +kernel, rfl⟩
theorem own_d_prog_37_method_9_code_68 : own_ix prog_37_method_9_code 68 .laload 1 69 := ⟨by decide +kernel, rfl⟩
theorem own_d_prog_37_method_9_code_69 : own_ik prog_37_method_9_code 69 64 71 := ⟨64, Or.inr (Or.inl ⟨by decide +kernel, by decide, rfl⟩)⟩
theorem own_d_prog_37_method_9_code_71 : own_il prog_37_method_9_code 71 5 73 := Or.inr ⟨by decide +kernel, rfl⟩
theorem own_d_prog_37_method_9_code_73 : own_ix prog_37_method_9_code 73 .isub 1 74 := ⟨by decide +kernel, rfl⟩
theorem own_d_prog_37_method_9_code_74 : own_ix prog_37_method_9_code 74 .lshl 1 75 := ⟨by decide +kernel, rfl⟩
theorem own_d_prog_37_method_9_code_75 : own_sl prog_37_method_9_code 75 10 77 := Or.inr ⟨by decide +kernel, rfl⟩
theorem own_d_prog_37_method_9_code_77 : own_al prog_37_method_9_code 77 2 78 := Or.inl ⟨2, by decide +kernel, rfl, rfl⟩
theorem own_d_prog_37_method_9_code_78 : own_il prog_37_method_9_code 78 3 79 := Or.inl ⟨3, by decide +kernel, rfl, rfl⟩
theorem own_d_prog_37_method_9_code_79 : own_il prog_37_method_9_code 79 6 81 := Or.inr ⟨by decide +kernel, rfl⟩
theorem own_d_prog_37_method_9_code_81 : own_ix prog_37_method_9_code 81 .iadd 1 82 := ⟨by decide +kernel, rfl⟩
theorem own_d_prog_37_method_9_code_82 : own_ll prog_37_method_9_code 82 8 84 := Or.inr ⟨by decide +kernel, rfl⟩
theorem own_d_prog_37_method_9_code_84 : own_ll prog_37_method_9_code 84 10 86 := Or.inr ⟨by decide +kernel, rfl⟩
theorem own_d_prog_37_method_9_code_86 : own_ix prog_37_method_9_code 86 .lor 1 87 := ⟨by decide +kernel, rfl⟩
theorem own_d_prog_37_method_9_code_87 : own_ix prog_37_method_9_code 87 .lastore 1 88 := ⟨by decide +kernel, rfl⟩
theorem own_d_prog_37_method_9_code_88 : own_ii prog_37_method_9_code 88 6 1 91 := ⟨1, by decide +kernel, by decide, rfl⟩
theorem own_d_prog_37_method_9_code_91 : own_gt prog_37_method_9_code 91 9 := ⟨(-82), by decide +kernel, by decide, by decide⟩
theorem own_d_prog_37_method_9_code_94 : own_ix prog_37_method_9_code 94 .return_ 1 95 := ⟨by decide +kernel, rfl⟩
theorem own_pn_com_example_levelweave_levelweave_cli_WordBits : plainName "com/example/levelweave/levelweave/cli/WordBits" = true := by first | (simp [plainName, overriddenIn]; done) | decide +kernel
theorem own_d_method_4_code_0 : own_il method_4_code 0 7 2 := Or.inr ⟨by decide +kernel, rfl⟩
theorem own_d_method_4_code_2 : own_ik method_4_code 2 64 4 := ⟨64, Or.inr (Or.inl ⟨by decide +kernel, by decide, rfl⟩)⟩
theorem own_d_method_4_code_4 : own_ix method_4_code 4 .idiv 1 5 := ⟨by decide +kernel, rfl⟩
theorem own_d_method_4_code_5 : own_si method_4_code 5 8 7 := Or.inr ⟨by decide +kernel, rfl⟩
theorem own_d_method_4_code_7 : own_il method_4_code 7 8 9 := Or.inr ⟨by decide +kernel, rfl⟩
theorem own_d_method_4_code_9 : own_il method_4_code 9 6 11 := Or.inr ⟨by decide +kernel, rfl⟩
theorem own_d_method_4_code_11 : own_icm method_4_code 11 .lt 14 16 := ⟨5, by decide +kernel, rfl, by decide, by decide⟩
theorem own_d_method_4_code_16 : own_il method_4_code 16 8 18 := Or.inr ⟨by decide +kernel, rfl⟩
theorem own_d_method_4_code_18 : own_ifc method_4_code 18 .ne 21 25 := ⟨7, by decide +kernel, rfl, by decide, by decide⟩
theorem own_d_method_4_code_21 : own_ll method_4_code 21 0 22 := Or.inl ⟨0, by decide +kernel, rfl, rfl⟩
theorem own_d_method_4_code_22 : own_gt method_4_code 22 37 := ⟨15, by decide +kernel, by decide, by decide⟩
theorem own_d_method_4_code_25 : own_il method_4_code 25 8 27 := Or.inr ⟨by decide +kernel, rfl⟩
theorem own_d_method_4_code_27 : own_ik method_4_code 27 1 28 := ⟨1, Or.inl ⟨by decide +kernel, by decide, rfl⟩⟩
theorem own_d_method_4_code_28 : own_icm method_4_code 28 .ne 31 35 := ⟨7, by decide +kernel, rfl, by decide, by decide⟩
theorem own_d_method_4_code_31 : own_ll method_4_code 31 2 32 := Or.inl ⟨2, by decide +kernel, rfl, rfl⟩
theorem own_d_method_4_code_32 : own_gt method_4_code 32 37 := ⟨5, by decide +kernel, by decide, by decide⟩
theorem own_d_method_4_code_35 : own_ll method_4_code 35 4 37 := Or.inr ⟨by decide +kernel, rfl⟩
theorem own_d_method_4_code_37 : own_sl method_4_code 37 9 39 := Or.inr ⟨by decide +kernel, rfl⟩
theorem own_d_method_4_code_39 : own_ll method_4_code 39 9 41 := Or.inr ⟨by decide +kernel, rfl⟩
theorem own_d_method_4_code_41 : own_il method_4_code 41 7 43 := Or.inr ⟨by decide +kernel, rfl⟩
theorem own_d_method_4_code_43 : own_ik method_4_code 43 64 45 := ⟨64, Or.inr (Or.inl ⟨by decide +kernel, by decide, rfl⟩)⟩
theorem own_d_method_4_code_45 : own_ix method_4_code 45 .irem 1 46 := ⟨by decide +kernel, rfl⟩
theorem own_d_method_4_code_46 : own_ix method_4_code 46 .lushr 1 47 := ⟨by decide +kernel, rfl⟩
theorem own_d_method_4_code_47 : own_lk method_4_code 47 1 48 := ⟨1, by decide +kernel, by decide, rfl⟩
theorem own_d_method_4_code_48 : own_ix method_4_code 48 .land 1 49 := ⟨by decide +kernel, rfl⟩
theorem own_d_method_4_code_49 : own_ix method_4_code 49 .lreturn 1 50 := ⟨by decide +kernel, rfl⟩
theorem own_d_method_4_code_14 : own_lk method_4_code 14 0 15 := ⟨0, by decide +kernel, by decide, rfl⟩
theorem own_d_method_4_code_15 : own_ix method_4_code 15 .lreturn 1 16 := ⟨by decide +kernel, rfl⟩
theorem own_pn_com_example_levelweave_levelweave_cli_WordBitsCopyPinLaw : plainName "com/example/levelweave/levelweave/cli/WordBitsCopyPinLaw" = true := by first | (simp [plainName, overriddenIn]; done) | decide +kernel
theorem own_d_method_3_code_0 : own_il method_3_code 0 1 1 := Or.inl ⟨1, by decide +kernel, rfl, rfl⟩
theorem own_d_method_3_code_1 : own_il method_3_code 1 2 2 := Or.inl ⟨2, by decide +kernel, rfl, rfl⟩
theorem own_d_method_3_code_2 : own_icm method_3_code 2 .lt 5 12 := ⟨10, by decide +kernel, rfl, by decide, by decide⟩
theorem own_d_method_3_code_12 : own_al method_3_code 12 0 13 := Or.inl ⟨0, by decide +kernel, rfl, rfl⟩
theorem own_d_method_3_code_13 : own_il method_3_code 13 1 14 := Or.inl ⟨1, by decide +kernel, rfl, rfl⟩
theorem own_d_method_3_code_14 : own_ix method_3_code 14 .laload 1 15 := ⟨by decide +kernel, rfl⟩
theorem own_d_method_3_code_15 : own_ll method_3_code 15 4 17 := Or.inr ⟨by decide +kernel, rfl⟩
theorem own_d_method_3_code_17 : own_ix method_3_code 17 .lcmp 1 18 := ⟨by decide +kernel, rfl⟩
theorem own_d_method_3_code_18 : own_ifc method_3_code 18 .ne 21 25 := ⟨7, by decide +kernel, rfl, by decide, by decide⟩
theorem own_d_method_3_code_21 : own_ik method_3_code 21 1 22 := ⟨1, Or.inl ⟨by decide +kernel, by decide, rfl⟩⟩
theorem own_d_method_3_code_22 : own_gt method_3_code 22 26 := ⟨4, by decide +kernel, by decide, by decide⟩
theorem own_d_method_3_code_26 : own_ix method_3_code 26 .ireturn 1 27 := ⟨by decide +kernel, rfl⟩
theorem own_d_method_3_code_5 : own_il method_3_code 5 1 6 := Or.inl ⟨1, by decide +kernel, rfl, rfl⟩
theorem own_d_method_3_code_6 : own_il method_3_code 6 2 7 := Or.inl ⟨2, by decide +kernel, rfl, rfl⟩
theorem own_d_method_3_code_7 : own_il method_3_code 7 3 8 := Or.inl ⟨3, by decide +kernel, rfl, rfl⟩
theorem own_d_method_3_code_8 : own_ix method_3_code 8 .iadd 1 9 := ⟨by decide +kernel, rfl⟩
theorem own_d_method_3_code_9 : own_icm method_3_code 9 .lt 12 27 := ⟨18, by decide +kernel, rfl, by decide, by decide⟩
theorem own_d_method_3_code_27 : own_il method_3_code 27 1 28 := Or.inl ⟨1, by decide +kernel, rfl, rfl⟩
theorem own_d_method_3_code_28 : own_il method_3_code 28 2 29 := Or.inl ⟨2, by decide +kernel, rfl, rfl⟩
theorem own_d_method_3_code_29 : own_ix method_3_code 29 .isub 1 30 := ⟨by decide +kernel, rfl⟩
theorem own_d_method_3_code_30 : own_si method_3_code 30 15 32 := Or.inr ⟨by decide +kernel, rfl⟩
theorem own_d_method_3_code_32 : own_al method_3_code 32 0 33 := Or.inl ⟨0, by decide +kernel, rfl, rfl⟩
theorem own_d_method_3_code_33 : own_il method_3_code 33 1 34 := Or.inl ⟨1, by decide +kernel, rfl, rfl⟩
theorem own_d_method_3_code_34 : own_ix method_3_code 34 .laload 1 35 := ⟨by decide +kernel, rfl⟩
theorem own_d_method_3_code_35 : own_il method_3_code 35 6 37 := Or.inr ⟨by decide +kernel, rfl⟩
theorem own_d_method_3_code_37 : own_ix method_3_code 37 .lushr 1 38 := ⟨by decide +kernel, rfl⟩
theorem own_d_method_3_code_38 : own_lk method_3_code 38 1 39 := ⟨1, by decide +kernel, by decide, rfl⟩
theorem own_d_method_3_code_39 : own_ix method_3_code 39 .land 1 40 := ⟨by decide +kernel, rfl⟩
theorem own_d_method_3_code_40 : own_sl method_3_code 40 16 42 := Or.inr ⟨by decide +kernel, rfl⟩
theorem own_d_method_3_code_42 : own_ll method_3_code 42 16 44 := Or.inr ⟨by decide +kernel, rfl⟩
theorem own_d_method_3_code_44 : own_ll method_3_code 44 7 46 := Or.inr ⟨by decide +kernel, rfl⟩
theorem own_d_method_3_code_46 : own_ll method_3_code 46 9 48 := Or.inr ⟨by decide +kernel, rfl⟩
theorem own_d_method_3_code_48 : own_ll method_3_code 48 11 50 := Or.inr ⟨by decide +kernel, rfl⟩
theorem own_d_method_3_code_50 : own_il method_3_code 50 13 52 := Or.inr ⟨by decide +kernel, rfl⟩
theorem own_d_method_3_code_52 : own_il method_3_code 52 14 54 := Or.inr ⟨by decide +kernel, rfl⟩
theorem own_d_method_3_code_54 : own_ik method_3_code 54 64 56 := ⟨64, Or.inr (Or.inl ⟨by decide +kernel, by decide, rfl⟩)⟩
theorem own_d_method_3_code_56 : own_il method_3_code 56 15 58 := Or.inr ⟨by decide +kernel, rfl⟩
theorem own_d_method_3_code_58 : own_ix method_3_code 58 .imul 1 59 := ⟨by decide +kernel, rfl⟩
theorem own_d_method_3_code_59 : own_ix method_3_code 59 .iadd 1 60 := ⟨by decide +kernel, rfl⟩
theorem own_d_method_3_code_60 : own_il method_3_code 60 6 62 := Or.inr ⟨by decide +kernel, rfl⟩
theorem own_d_method_3_code_62 : own_ix method_3_code 62 .iadd 1 63 := ⟨by decide +kernel, rfl⟩
theorem own_pd__JJJII_J : parseMethodDescriptor "(JJJII)J" = some ⟨[.long, .long, .long, .int, .int], some .long⟩ := by decide +kernel
theorem own_d_method_3_code_63 : own_ix method_3_code 63 (.invokestatic 19) 3 66 := ⟨by decide +kernel, rfl⟩
theorem own_d_method_3_code_66 : own_ix method_3_code 66 .lcmp 1 67 := ⟨by decide +kernel, rfl⟩
theorem own_d_method_3_code_67 : own_ifc method_3_code 67 .ne 70 74 := ⟨7, by decide +kernel, rfl, by decide, by decide⟩
theorem own_d_method_3_code_70 : own_ik method_3_code 70 1 71 := ⟨1, Or.inl ⟨by decide +kernel, by decide, rfl⟩⟩
theorem own_d_method_3_code_71 : own_gt method_3_code 71 75 := ⟨4, by decide +kernel, by decide, by decide⟩
theorem own_d_method_3_code_75 : own_ix method_3_code 75 .ireturn 1 76 := ⟨by decide +kernel, rfl⟩
theorem own_d_code_0 : own_il code 0 9 2 := Or.inr ⟨by decide +kernel, rfl⟩
theorem own_d_code_2 : own_ik code 2 9 4 := ⟨9, Or.inr (Or.inl ⟨by decide +kernel, by decide, rfl⟩)⟩
theorem own_d_code_4 : own_ix code 4 .iushr 1 5 := ⟨by decide +kernel, rfl⟩
theorem own_d_code_5 : own_ik code 5 3 6 := ⟨3, Or.inl ⟨by decide +kernel, by decide, rfl⟩⟩
theorem own_d_code_6 : own_ix code 6 .iand 1 7 := ⟨by decide +kernel, rfl⟩
theorem own_d_code_7 : own_si code 7 10 9 := Or.inr ⟨by decide +kernel, rfl⟩
theorem own_d_code_9 : own_il code 9 10 11 := Or.inr ⟨by decide +kernel, rfl⟩
theorem own_d_code_11 : own_ix code 11 (.newarray .long) 2 13 := ⟨by decide +kernel, rfl⟩
theorem own_d_code_13 : own_sa code 13 11 15 := Or.inr ⟨by decide +kernel, rfl⟩
theorem own_d_code_15 : own_il code 15 10 17 := Or.inr ⟨by decide +kernel, rfl⟩
theorem own_d_code_17 : own_ifc code 17 .le 20 25 := ⟨8, by decide +kernel, rfl, by decide, by decide⟩
theorem own_d_code_20 : own_al code 20 11 22 := Or.inr ⟨by decide +kernel, rfl⟩
theorem own_d_code_22 : own_ik code 22 0 23 := ⟨0, Or.inl ⟨by decide +kernel, by decide, rfl⟩⟩
theorem own_d_code_23 : own_ll code 23 0 24 := Or.inl ⟨0, by decide +kernel, rfl, rfl⟩
theorem own_d_code_24 : own_ix code 24 .lastore 1 25 := ⟨by decide +kernel, rfl⟩
theorem own_d_code_25 : own_il code 25 10 27 := Or.inr ⟨by decide +kernel, rfl⟩
theorem own_d_code_27 : own_ik code 27 1 28 := ⟨1, Or.inl ⟨by decide +kernel, by decide, rfl⟩⟩
theorem own_d_code_28 : own_icm code 28 .le 31 36 := ⟨8, by decide +kernel, rfl, by decide, by decide⟩
theorem own_d_code_31 : own_al code 31 11 33 := Or.inr ⟨by decide +kernel, rfl⟩
theorem own_d_code_33 : own_ik code 33 1 34 := ⟨1, Or.inl ⟨by decide +kernel, by decide, rfl⟩⟩
theorem own_d_code_34 : own_ll code 34 2 35 := Or.inl ⟨2, by decide +kernel, rfl, rfl⟩
theorem own_d_code_35 : own_ix code 35 .lastore 1 36 := ⟨by decide +kernel, rfl⟩
theorem own_d_code_36 : own_il code 36 10 38 := Or.inr ⟨by decide +kernel, rfl⟩
theorem own_d_code_38 : own_ik code 38 2 39 := ⟨2, Or.inl ⟨by decide +kernel, by decide, rfl⟩⟩
theorem own_d_code_39 : own_icm code 39 .le 42 48 := ⟨9, by decide +kernel, rfl, by decide, by decide⟩
theorem own_d_code_42 : own_al code 42 11 44 := Or.inr ⟨by decide +kernel, rfl⟩
theorem own_d_code_44 : own_ik code 44 2 45 := ⟨2, Or.inl ⟨by decide +kernel, by decide, rfl⟩⟩
theorem own_d_code_45 : own_ll code 45 4 47 := Or.inr ⟨by decide +kernel, rfl⟩
theorem own_d_code_47 : own_ix code 47 .lastore 1 48 := ⟨by decide +kernel, rfl⟩
theorem own_d_code_48 : own_il code 48 8 50 := Or.inr ⟨by decide +kernel, rfl⟩
theorem own_d_code_50 : own_ik code 50 255 53 := ⟨255, Or.inr (Or.inr ⟨by decide +kernel, by decide, rfl⟩)⟩
theorem own_d_code_53 : own_ix code 53 .iand 1 54 := ⟨by decide +kernel, rfl⟩
theorem own_d_code_54 : own_si code 54 12 56 := Or.inr ⟨by decide +kernel, rfl⟩
theorem own_d_code_56 : own_il code 56 9 58 := Or.inr ⟨by decide +kernel, rfl⟩
theorem own_d_code_58 : own_ik code 58 3 59 := ⟨3, Or.inl ⟨by decide +kernel, by decide, rfl⟩⟩
theorem own_d_code_59 : own_ix code 59 .iand 1 60 := ⟨by decide +kernel, rfl⟩
theorem own_d_code_60 : own_si code 60 13 62 := Or.inr ⟨by decide +kernel, rfl⟩
theorem own_d_code_62 : own_il code 62 9 64 := Or.inr ⟨by decide +kernel, rfl⟩
theorem own_d_code_64 : own_ik code 64 2 65 := ⟨2, Or.inl ⟨by decide +kernel, by decide, rfl⟩⟩
theorem own_d_code_65 : own_ix code 65 .iushr 1 66 := ⟨by decide +kernel, rfl⟩
theorem own_d_code_66 : own_ik code 66 1 67 := ⟨1, Or.inl ⟨by decide +kernel, by decide, rfl⟩⟩
theorem own_d_code_67 : own_ix code 67 .iand 1 68 := ⟨by decide +kernel, rfl⟩
theorem own_d_code_68 : own_si code 68 14 70 := Or.inr ⟨by decide +kernel, rfl⟩
theorem own_d_code_70 : own_il code 70 9 72 := Or.inr ⟨by decide +kernel, rfl⟩
theorem own_d_code_72 : own_ik code 72 3 73 := ⟨3, Or.inl ⟨by decide +kernel, by decide, rfl⟩⟩
theorem own_d_code_73 : own_ix code 73 .iushr 1 74 := ⟨by decide +kernel, rfl⟩
theorem own_d_code_74 : own_ik code 74 63 76 := ⟨63, Or.inr (Or.inl ⟨by decide +kernel, by decide, rfl⟩)⟩
theorem own_d_code_76 : own_ix code 76 .iand 1 77 := ⟨by decide +kernel, rfl⟩
theorem own_d_code_77 : own_si code 77 15 79 := Or.inr ⟨by decide +kernel, rfl⟩
theorem own_d_code_79 : own_ik code 79 4 80 := ⟨4, Or.inl ⟨by decide +kernel, by decide, rfl⟩⟩
theorem own_d_code_80 : own_ix code 80 (.newarray .long) 2 82 := ⟨by decide +kernel, rfl⟩
theorem own_d_code_82 : own_ix code 82 .dup 1 83 := ⟨by decide +kernel, rfl⟩
theorem own_d_code_83 : own_ik code 83 0 84 := ⟨0, Or.inl ⟨by decide +kernel, by decide, rfl⟩⟩
theorem own_d_code_84 : own_ll code 84 6 86 := Or.inr ⟨by decide +kernel, rfl⟩
theorem own_d_code_86 : own_ix code 86 .lastore 1 87 := ⟨by decide +kernel, rfl⟩
theorem own_d_code_87 : own_ix code 87 .dup 1 88 := ⟨by decide +kernel, rfl⟩
theorem own_d_code_88 : own_ik code 88 1 89 := ⟨1, Or.inl ⟨by decide +kernel, by decide, rfl⟩⟩
theorem own_d_code_89 : own_ll code 89 6 91 := Or.inr ⟨by decide +kernel, rfl⟩
theorem own_d_code_91 : own_ix code 91 .lastore 1 92 := ⟨by decide +kernel, rfl⟩
theorem own_d_code_92 : own_ix code 92 .dup 1 93 := ⟨by decide +kernel, rfl⟩
theorem own_d_code_93 : own_ik code 93 2 94 := ⟨2, Or.inl ⟨by decide +kernel, by decide, rfl⟩⟩
theorem own_d_code_94 : own_ll code 94 6 96 := Or.inr ⟨by decide +kernel, rfl⟩
theorem own_d_code_96 : own_ix code 96 .lastore 1 97 := ⟨by decide +kernel, rfl⟩
theorem own_d_code_97 : own_ix code 97 .dup 1 98 := ⟨by decide +kernel, rfl⟩
theorem own_d_code_98 : own_ik code 98 3 99 := ⟨3, Or.inl ⟨by decide +kernel, by decide, rfl⟩⟩
theorem own_d_code_99 : own_ll code 99 6 101 := Or.inr ⟨by decide +kernel, rfl⟩
theorem own_d_code_101 : own_ix code 101 .lastore 1 102 := ⟨by decide +kernel, rfl⟩
theorem own_d_code_102 : own_sa code 102 16 104 := Or.inr ⟨by decide +kernel, rfl⟩
theorem own_d_code_104 : own_al code 104 11 106 := Or.inr ⟨by decide +kernel, rfl⟩
theorem own_d_code_106 : own_il code 106 12 108 := Or.inr ⟨by decide +kernel, rfl⟩
theorem own_d_code_108 : own_al code 108 16 110 := Or.inr ⟨by decide +kernel, rfl⟩
theorem own_d_code_110 : own_il code 110 14 112 := Or.inr ⟨by decide +kernel, rfl⟩
theorem own_d_code_112 : own_il code 112 13 114 := Or.inr ⟨by decide +kernel, rfl⟩
theorem own_pd___JI_JII_V : parseMethodDescriptor "([JI[JII)V" = some ⟨[(.array .long), .int, (.array .long), .int, .int], none⟩ := by decide +kernel
theorem own_d_code_114 : own_ix code 114 (.invokestatic 7) 3 117 := ⟨by decide +kernel, rfl⟩
theorem own_d_code_117 : own_al code 117 16 119 := Or.inr ⟨by decide +kernel, rfl⟩
theorem own_d_code_119 : own_ik code 119 0 120 := ⟨0, Or.inl ⟨by decide +kernel, by decide, rfl⟩⟩
theorem own_d_code_120 : own_il code 120 14 122 := Or.inr ⟨by decide +kernel, rfl⟩
theorem own_d_code_122 : own_il code 122 13 124 := Or.inr ⟨by decide +kernel, rfl⟩
theorem own_d_code_124 : own_ll code 124 6 126 := Or.inr ⟨by decide +kernel, rfl⟩
theorem own_d_code_126 : own_il code 126 15 128 := Or.inr ⟨by decide +kernel, rfl⟩
theorem own_d_code_128 : own_ll code 128 0 129 := Or.inl ⟨0, by decide +kernel, rfl, rfl⟩
theorem own_d_code_129 : own_ll code 129 2 130 := Or.inl ⟨2, by decide +kernel, rfl, rfl⟩
theorem own_d_code_130 : own_ll code 130 4 132 := Or.inr ⟨by decide +kernel, rfl⟩
theorem own_d_code_132 : own_il code 132 10 134 := Or.inr ⟨by decide +kernel, rfl⟩
theorem own_d_code_134 : own_il code 134 12 136 := Or.inr ⟨by decide +kernel, rfl⟩
theorem own_pd___JIIIJIJJJII_Z : parseMethodDescriptor "([JIIIJIJJJII)Z" = some ⟨[(.array .long), .int, .int, .int, .long, .int, .long, .long, .long, .int, .int], some .boolean⟩ := by decide +kernel
theorem own_d_code_136 : own_ix code 136 (.invokestatic 13) 3 139 := ⟨by decide +kernel, rfl⟩
theorem own_d_code_139 : own_ifc code 139 .eq 142 221 := ⟨82, by decide +kernel, rfl, by decide, by decide⟩
theorem own_d_code_142 : own_al code 142 16 144 := Or.inr ⟨by decide +kernel, rfl⟩
theorem own_d_code_144 : own_ik code 144 1 145 := ⟨1, Or.inl ⟨by decide +kernel, by decide, rfl⟩⟩
theorem own_d_code_145 : own_il code 145 14 147 := Or.inr ⟨by decide +kernel, rfl⟩
theorem own_d_code_147 : own_il code 147 13 149 := Or.inr ⟨by decide +kernel, rfl⟩
theorem own_d_code_149 : own_ll code 149 6 151 := Or.inr ⟨by decide +kernel, rfl⟩
theorem own_d_code_151 : own_il code 151 15 153 := Or.inr ⟨by decide +kernel, rfl⟩
theorem own_d_code_153 : own_ll code 153 0 154 := Or.inl ⟨0, by decide +kernel, rfl, rfl⟩
theorem own_d_code_154 : own_ll code 154 2 155 := Or.inl ⟨2, by decide +kernel, rfl, rfl⟩
theorem own_d_code_155 : own_ll code 155 4 157 := Or.inr ⟨by decide +kernel, rfl⟩
theorem own_d_code_157 : own_il code 157 10 159 := Or.inr ⟨by decide +kernel, rfl⟩
theorem own_d_code_159 : own_il code 159 12 161 := Or.inr ⟨by decide +kernel, rfl⟩
theorem own_d_code_161 : own_ix code 161 (.invokestatic 13) 3 164 := ⟨by decide +kernel, rfl⟩
theorem own_d_code_164 : own_ifc code 164 .eq 167 221 := ⟨57, by decide +kernel, rfl, by decide, by decide⟩
theorem own_d_code_167 : own_al code 167 16 169 := Or.inr ⟨by decide +kernel, rfl⟩
theorem own_d_code_169 : own_ik code 169 2 170 := ⟨2, Or.inl ⟨by decide +kernel, by decide, rfl⟩⟩
theorem own_d_code_170 : own_il code 170 14 172 := Or.inr ⟨by decide +kernel, rfl⟩
theorem own_d_code_172 : own_il code 172 13 174 := Or.inr ⟨by decide +kernel, rfl⟩
theorem own_d_code_174 : own_ll code 174 6 176 := Or.inr ⟨by decide +kernel, rfl⟩
theorem own_d_code_176 : own_il code 176 15 178 := Or.inr ⟨by decide +kernel, rfl⟩
theorem own_d_code_178 : own_ll code 178 0 179 := Or.inl ⟨0, by decide +kernel, rfl, rfl⟩
theorem own_d_code_179 : own_ll code 179 2 180 := Or.inl ⟨2, by decide +kernel, rfl, rfl⟩
theorem own_d_code_180 : own_ll code 180 4 182 := Or.inr ⟨by decide +kernel, rfl⟩
theorem own_d_code_182 : own_il code 182 10 184 := Or.inr ⟨by decide +kernel, rfl⟩
theorem own_d_code_184 : own_il code 184 12 186 := Or.inr ⟨by decide +kernel, rfl⟩
theorem own_d_code_186 : own_ix code 186 (.invokestatic 13) 3 189 := ⟨by decide +kernel, rfl⟩
theorem own_d_code_189 : own_ifc code 189 .eq 192 221 := ⟨32, by decide +kernel, rfl, by decide, by decide⟩
theorem own_d_code_192 : own_al code 192 16 194 := Or.inr ⟨by decide +kernel, rfl⟩
theorem own_d_code_194 : own_ik code 194 3 195 := ⟨3, Or.inl ⟨by decide +kernel, by decide, rfl⟩⟩
theorem own_d_code_195 : own_il code 195 14 197 := Or.inr ⟨by decide +kernel, rfl⟩
theorem own_d_code_197 : own_il code 197 13 199 := Or.inr ⟨by decide +kernel, rfl⟩
theorem own_d_code_199 : own_ll code 199 6 201 := Or.inr ⟨by decide +kernel, rfl⟩
theorem own_d_code_201 : own_il code 201 15 203 := Or.inr ⟨by decide +kernel, rfl⟩
theorem own_d_code_203 : own_ll code 203 0 204 := Or.inl ⟨0, by decide +kernel, rfl, rfl⟩
theorem own_d_code_204 : own_ll code 204 2 205 := Or.inl ⟨2, by decide +kernel, rfl, rfl⟩
theorem own_d_code_205 : own_ll code 205 4 207 := Or.inr ⟨by decide +kernel, rfl⟩
theorem own_d_code_207 : own_il code 207 10 209 := Or.inr ⟨by decide +kernel, rfl⟩
theorem own_d_code_209 : own_il code 209 12 211 := Or.inr ⟨by decide +kernel, rfl⟩
theorem own_d_code_211 : own_ix code 211 (.invokestatic 13) 3 214 := ⟨by decide +kernel, rfl⟩
theorem own_d_code_214 : own_ifc code 214 .eq 217 221 := ⟨7, by decide +kernel, rfl, by decide, by decide⟩
theorem own_d_code_217 : own_ik code 217 1 218 := ⟨1, Or.inl ⟨by decide +kernel, by decide, rfl⟩⟩
theorem own_d_code_218 : own_gt code 218 222 := ⟨4, by decide +kernel, by decide, by decide⟩
theorem own_d_code_222 : own_ix code 222 .ireturn 1 223 := ⟨by decide +kernel, rfl⟩
set_option maxRecDepth 65536 in
set_option maxHeartbeats 40000000 in
theorem own_copy (l : Launch) (Z : State) (a0 : Array Value) (hw : ∀ d ∈ tables_1, d.before a0 Z = true) (a b : Addr) (nf ti : Int32) (n W S tw len : Nat) (g F : Nat → Int64) (h0 : Heap) (n0 : Nat) (Z0 : n0 ≤ h0.size) (hn : n < 4) (hlen : len < 4) (hti : own_idx ti tw) (htn : tw + n ≤ 4) (hW4 : W < 100) (hW : own_idx (nf / (64 : Int32)) W) (hS : own_idx (nf % (64 : Int32)) S) (hab : a ≠ b) (Va : own_AF Z h0 a .long 4 (fun j => .long (g j))) (Vb : own_AF Z h0 b .long len (fun j => .long (F j))) (ga : n0 ≤ a) :
    own_Con l Z n0 (⟨"com/example/levelweave/levelweave/cli/WordBits", "copy", "([JI[JII)V"⟩ : MethodName) prog_37_method_9_code 12 none ({ frames := 0, cells := 0, slots := 0, locals := 0 } : Room) [] #[(.ref b), (.int nf), (.ref a), (.int ti), (.int (Int32.ofNat n))] h0 (fun v h' => v = none ∧ Keep h0 h' [a] ∧ own_AF Z h' a .long 4 (fun j => .long (own_cps g F len tw W (nf % (64 : Int32)) n j))) := by
  refine own_enter (plainFor_of_name own_pn_com_example_levelweave_levelweave_cli_WordBits) Z0 #[.val (.ref b), .val (.int nf), .val (.ref a), .val (.int ti), .val (.int (Int32.ofNat n)), .unset, .unset, .unset, .unset, .unset, .unset, .unset] (fun m => by first | (simp [entryFrame, mkF, argsToLocals, Value.category]; done) | rfl) ?_
  intro p e s m below meth c T A X0 hret hnm fin
  refine own_iload X0 own_d_prog_37_method_9_code_0 rfl ?_
  refine own_ipush X0 own_d_prog_37_method_9_code_1 ?_
  refine own_irem X0 own_d_prog_37_method_9_code_3 (by decide) ?_
  generalize hsh : (nf % (64 : Int32)) = sh
  rw [hsh] at hS
  have hn_ : own_idx (Int32.ofNat n) n := own_idx_nat (by omega)
  have hl_ : own_idx (Int32.ofNat len) len := own_idx_nat (by omega)
  replace Va : own_AF Z h0 a .long 4 (fun j => .long (own_cps g F len tw W sh 0 j)) := Va
  refine own_istore X0 #[.val (.ref b), .val (.int nf), .val (.ref a), .val (.int ti), .val (.int (Int32.ofNat n)), .val (.int sh), .unset, .unset, .unset, .unset, .unset, .unset] own_d_prog_37_method_9_code_4 rfl ?_
  refine own_ipush X0 own_d_prog_37_method_9_code_6 ?_
  refine own_istore X0 #[.val (.ref b), .val (.int nf), .val (.ref a), .val (.int ti), .val (.int (Int32.ofNat n)), .val (.int sh), .val (.int (0 : Int32)), .unset, .unset, .unset, .unset, .unset] own_d_prog_37_method_9_code_7 rfl ?_
  refine own_iload X0 own_d_prog_37_method_9_code_9 rfl ?_
  refine own_iload X0 own_d_prog_37_method_9_code_11 rfl ?_
  by_cases c0 : (0 : Int32) < (Int32.ofNat n)
  · skip
    refine own_icNo X0 own_d_prog_37_method_9_code_13 (tlt c0).2.1 ?_
    have lt0 : 0 < n := (own_idx_lt (m := 0) ⟨by decide, by decide⟩ hn_).mp c0
    refine own_iload X0 own_d_prog_37_method_9_code_16 rfl ?_
    refine own_ipush X0 own_d_prog_37_method_9_code_17 ?_
    refine own_idiv X0 own_d_prog_37_method_9_code_19 (by decide) ?_
    refine own_iload X0 own_d_prog_37_method_9_code_20 rfl ?_
    refine own_iadd X0 own_d_prog_37_method_9_code_22 ?_
    generalize hwd0 : ((nf / (64 : Int32)) + (0 : Int32)) = wd0
    have hwd0_ : own_idx wd0 (W + 0) := by rw [← hwd0]; exact own_idx_add hW (n := 0) ⟨by decide, by decide⟩ (by omega)
    refine own_istore X0 #[.val (.ref b), .val (.int nf), .val (.ref a), .val (.int ti), .val (.int (Int32.ofNat n)), .val (.int sh), .val (.int (0 : Int32)), .val (.int wd0), .unset, .unset, .unset, .unset] own_d_prog_37_method_9_code_23 rfl ?_
    refine own_iload X0 own_d_prog_37_method_9_code_25 rfl ?_
    refine own_aload X0 own_d_prog_37_method_9_code_27 rfl ?_
    refine own_alenF X0 Vb own_d_prog_37_method_9_code_28 ?_
    suffices J1 : ∀ lo0 : Int64, lo0 = own_lo F len (W + 0) sh → own_Wins p e below A T (mkF m 43 #[.val (.ref b), .val (.int nf), .val (.ref a), .val (.int ti), .val (.int (Int32.ofNat n)), .val (.int sh), .val (.int (0 : Int32)), .val (.int wd0), .unset, .unset, .unset, .unset] [(.long lo0)]) by
      by_cases e0 : wd0 < (Int32.ofNat len)
      · skip
        refine own_icNo X0 own_d_prog_37_method_9_code_29 (tlt e0).2.1 ?_
        refine own_aload X0 own_d_prog_37_method_9_code_32 rfl ?_
        refine own_iload X0 own_d_prog_37_method_9_code_33 rfl ?_
        refine own_laloadF X0 Vb (i := (W + 0)) hwd0_ ((own_idx_lt hwd0_ hl_).mp e0) rfl own_d_prog_37_method_9_code_35 ?_
        refine own_iload X0 own_d_prog_37_method_9_code_36 rfl ?_
        refine own_lushr X0 own_d_prog_37_method_9_code_38 ?_
        refine own_goto X0 own_d_prog_37_method_9_code_39 ?_
        exact J1 _ (by rw [own_lo, own_Fz, if_pos ((own_idx_lt hwd0_ hl_).mp e0)])
      · skip
        refine own_icYes X0 own_d_prog_37_method_9_code_29 (flt e0).2.1 ?_
        refine own_lpush X0 own_d_prog_37_method_9_code_42 ?_
        exact J1 _ (by rw [own_lo, own_Fz, if_neg (mt (own_idx_lt hwd0_ hl_).mpr e0), own_lz])
    intro lo0 hlo0
    refine own_lstore X0 #[.val (.ref b), .val (.int nf), .val (.ref a), .val (.int ti), .val (.int (Int32.ofNat n)), .val (.int sh), .val (.int (0 : Int32)), .val (.int wd0), .val (.long lo0), .second, .unset, .unset] own_d_prog_37_method_9_code_43 rfl ?_
    refine own_iload X0 own_d_prog_37_method_9_code_45 rfl ?_
    suffices J2 : ∀ hi0 : Int64, hi0 = own_hi F len (W + 0) sh → own_Wins p e below A T (mkF m 75 #[.val (.ref b), .val (.int nf), .val (.ref a), .val (.int ti), .val (.int (Int32.ofNat n)), .val (.int sh), .val (.int (0 : Int32)), .val (.int wd0), .val (.long lo0), .second, .unset, .unset] [(.long hi0)]) by
      by_cases f0 : sh = (0 : Int32)
      · skip
        refine own_ifYes X0 own_d_prog_37_method_9_code_47 ((if0 _ _).trans (teq f0).1) ?_
        refine own_lpush X0 own_d_prog_37_method_9_code_59 ?_
        refine own_goto X0 own_d_prog_37_method_9_code_60 ?_
        exact J2 _ (by simp only [own_hi, f0, if_true])
      · skip
        refine own_ifNo X0 own_d_prog_37_method_9_code_47 ((if0 _ _).trans (feq f0).1) ?_
        refine own_iload X0 own_d_prog_37_method_9_code_50 rfl ?_
        refine own_ipush X0 own_d_prog_37_method_9_code_52 ?_
        refine own_iadd X0 own_d_prog_37_method_9_code_53 ?_
        refine own_aload X0 own_d_prog_37_method_9_code_54 rfl ?_
        refine own_alenF X0 Vb own_d_prog_37_method_9_code_55 ?_
        have hwn0 : own_idx (wd0 + (1 : Int32)) (W + 0 + 1) := own_idx_add hwd0_ (n := 1) ⟨by decide, by decide⟩ (by omega)
        by_cases q0 : (wd0 + (1 : Int32)) < (Int32.ofNat len)
        · skip
          refine own_icYes X0 own_d_prog_37_method_9_code_56 (tlt q0).1 ?_
          refine own_aload X0 own_d_prog_37_method_9_code_63 rfl ?_
          refine own_iload X0 own_d_prog_37_method_9_code_64 rfl ?_
          refine own_ipush X0 own_d_prog_37_method_9_code_66 ?_
          refine own_iadd X0 own_d_prog_37_method_9_code_67 ?_
          refine own_laloadF X0 Vb (i := (W + 0 + 1)) hwn0 ((own_idx_lt hwn0 hl_).mp q0) rfl own_d_prog_37_method_9_code_68 ?_
          refine own_ipush X0 own_d_prog_37_method_9_code_69 ?_
          refine own_iload X0 own_d_prog_37_method_9_code_71 rfl ?_
          refine own_isub X0 own_d_prog_37_method_9_code_73 ?_
          refine own_lshl X0 own_d_prog_37_method_9_code_74 ?_
          exact J2 _ (by rw [own_hi, if_neg f0, own_Fz, if_pos ((own_idx_lt hwn0 hl_).mp q0)])
        · skip
          refine own_icNo X0 own_d_prog_37_method_9_code_56 (flt q0).1 ?_
          refine own_lpush X0 own_d_prog_37_method_9_code_59 ?_
          refine own_goto X0 own_d_prog_37_method_9_code_60 ?_
          exact J2 _ (by rw [own_hi, if_neg f0, own_Fz, if_neg (mt (own_idx_lt hwn0 hl_).mpr q0), own_lz'])
    intro hi0 hhi0
    refine own_lstore X0 #[.val (.ref b), .val (.int nf), .val (.ref a), .val (.int ti), .val (.int (Int32.ofNat n)), .val (.int sh), .val (.int (0 : Int32)), .val (.int wd0), .val (.long lo0), .second, .val (.long hi0), .second] own_d_prog_37_method_9_code_75 rfl ?_
    refine own_aload X0 own_d_prog_37_method_9_code_77 rfl ?_
    refine own_iload X0 own_d_prog_37_method_9_code_78 rfl ?_
    refine own_iload X0 own_d_prog_37_method_9_code_79 rfl ?_
    refine own_iadd X0 own_d_prog_37_method_9_code_81 ?_
    refine own_lload X0 own_d_prog_37_method_9_code_82 rfl ?_
    refine own_lload X0 own_d_prog_37_method_9_code_84 rfl ?_
    refine own_lor X0 own_d_prog_37_method_9_code_86 ?_
    refine own_lastoreF X0 Va ga (i := (tw + 0)) (own_idx_add hti (n := 0) ⟨by decide, by decide⟩ (by omega)) (by omega) own_d_prog_37_method_9_code_87 ?_
    intro T3 h3 X3 W3 V3
    have K3 : Keep h0 h3 [a] := (Keep.refl h0 [a]).wr W3 (Or.inl (by simp))
    replace V3 : own_AF Z h3 a .long 4 (own_up (fun j => .long (own_cps g F len tw W sh 0 j)) (tw + 0) (.long (lo0 ||| hi0))) := V3
    have F4_b : own_AF Z h3 b .long len (fun j => .long (F j)) := Vb.other W3 (Ne.symm hab)
    rw [own_up_long, hlo0, hhi0] at V3
    replace V3 : own_AF Z h3 a .long 4 (fun j => .long (own_cps g F len tw W sh 1 j)) := V3
    refine own_iinc X3 #[.val (.ref b), .val (.int nf), .val (.ref a), .val (.int ti), .val (.int (Int32.ofNat n)), .val (.int sh), .val (.int (1 : Int32)), .val (.int wd0), .val (.long lo0), .second, .val (.long hi0), .second] own_d_prog_37_method_9_code_88 rfl rfl ?_
    refine own_goto X3 own_d_prog_37_method_9_code_91 ?_
    refine own_iload X3 own_d_prog_37_method_9_code_9 rfl ?_
    refine own_iload X3 own_d_prog_37_method_9_code_11 rfl ?_
    by_cases c1 : (1 : Int32) < (Int32.ofNat n)
    · skip
      refine own_icNo X3 own_d_prog_37_method_9_code_13 (tlt c1).2.1 ?_
      have lt1 : 1 < n := (own_idx_lt (m := 1) ⟨by decide, by decide⟩ hn_).mp c1
      refine own_iload X3 own_d_prog_37_method_9_code_16 rfl ?_
      refine own_ipush X3 own_d_prog_37_method_9_code_17 ?_
      refine own_idiv X3 own_d_prog_37_method_9_code_19 (by decide) ?_
      refine own_iload X3 own_d_prog_37_method_9_code_20 rfl ?_
      refine own_iadd X3 own_d_prog_37_method_9_code_22 ?_
      generalize hwd1 : ((nf / (64 : Int32)) + (1 : Int32)) = wd1
      have hwd1_ : own_idx wd1 (W + 1) := by rw [← hwd1]; exact own_idx_add hW (n := 1) ⟨by decide, by decide⟩ (by omega)
      refine own_istore X3 #[.val (.ref b), .val (.int nf), .val (.ref a), .val (.int ti), .val (.int (Int32.ofNat n)), .val (.int sh), .val (.int (1 : Int32)), .val (.int wd1), .val (.long lo0), .second, .val (.long hi0), .second] own_d_prog_37_method_9_code_23 rfl ?_
      refine own_iload X3 own_d_prog_37_method_9_code_25 rfl ?_
      refine own_aload X3 own_d_prog_37_method_9_code_27 rfl ?_
      refine own_alenF X3 F4_b own_d_prog_37_method_9_code_28 ?_
      suffices J5 : ∀ lo1 : Int64, lo1 = own_lo F len (W + 1) sh → own_Wins p e below A T3 (mkF m 43 #[.val (.ref b), .val (.int nf), .val (.ref a), .val (.int ti), .val (.int (Int32.ofNat n)), .val (.int sh), .val (.int (1 : Int32)), .val (.int wd1), .val (.long lo0), .second, .val (.long hi0), .second] [(.long lo1)]) by
        by_cases e1 : wd1 < (Int32.ofNat len)
        · skip
          refine own_icNo X3 own_d_prog_37_method_9_code_29 (tlt e1).2.1 ?_
          refine own_aload X3 own_d_prog_37_method_9_code_32 rfl ?_
          refine own_iload X3 own_d_prog_37_method_9_code_33 rfl ?_
          refine own_laloadF X3 F4_b (i := (W + 1)) hwd1_ ((own_idx_lt hwd1_ hl_).mp e1) rfl own_d_prog_37_method_9_code_35 ?_
          refine own_iload X3 own_d_prog_37_method_9_code_36 rfl ?_
          refine own_lushr X3 own_d_prog_37_method_9_code_38 ?_
          refine own_goto X3 own_d_prog_37_method_9_code_39 ?_
          exact J5 _ (by rw [own_lo, own_Fz, if_pos ((own_idx_lt hwd1_ hl_).mp e1)])
        · skip
          refine own_icYes X3 own_d_prog_37_method_9_code_29 (flt e1).2.1 ?_
          refine own_lpush X3 own_d_prog_37_method_9_code_42 ?_
          exact J5 _ (by rw [own_lo, own_Fz, if_neg (mt (own_idx_lt hwd1_ hl_).mpr e1), own_lz])
      intro lo1 hlo1
      refine own_lstore X3 #[.val (.ref b), .val (.int nf), .val (.ref a), .val (.int ti), .val (.int (Int32.ofNat n)), .val (.int sh), .val (.int (1 : Int32)), .val (.int wd1), .val (.long lo1), .second, .val (.long hi0), .second] own_d_prog_37_method_9_code_43 rfl ?_
      refine own_iload X3 own_d_prog_37_method_9_code_45 rfl ?_
      suffices J6 : ∀ hi1 : Int64, hi1 = own_hi F len (W + 1) sh → own_Wins p e below A T3 (mkF m 75 #[.val (.ref b), .val (.int nf), .val (.ref a), .val (.int ti), .val (.int (Int32.ofNat n)), .val (.int sh), .val (.int (1 : Int32)), .val (.int wd1), .val (.long lo1), .second, .val (.long hi0), .second] [(.long hi1)]) by
        by_cases f1 : sh = (0 : Int32)
        · skip
          refine own_ifYes X3 own_d_prog_37_method_9_code_47 ((if0 _ _).trans (teq f1).1) ?_
          refine own_lpush X3 own_d_prog_37_method_9_code_59 ?_
          refine own_goto X3 own_d_prog_37_method_9_code_60 ?_
          exact J6 _ (by simp only [own_hi, f1, if_true])
        · skip
          refine own_ifNo X3 own_d_prog_37_method_9_code_47 ((if0 _ _).trans (feq f1).1) ?_
          refine own_iload X3 own_d_prog_37_method_9_code_50 rfl ?_
          refine own_ipush X3 own_d_prog_37_method_9_code_52 ?_
          refine own_iadd X3 own_d_prog_37_method_9_code_53 ?_
          refine own_aload X3 own_d_prog_37_method_9_code_54 rfl ?_
          refine own_alenF X3 F4_b own_d_prog_37_method_9_code_55 ?_
          have hwn1 : own_idx (wd1 + (1 : Int32)) (W + 1 + 1) := own_idx_add hwd1_ (n := 1) ⟨by decide, by decide⟩ (by omega)
          by_cases q1 : (wd1 + (1 : Int32)) < (Int32.ofNat len)
          · skip
            refine own_icYes X3 own_d_prog_37_method_9_code_56 (tlt q1).1 ?_
            refine own_aload X3 own_d_prog_37_method_9_code_63 rfl ?_
            refine own_iload X3 own_d_prog_37_method_9_code_64 rfl ?_
            refine own_ipush X3 own_d_prog_37_method_9_code_66 ?_
            refine own_iadd X3 own_d_prog_37_method_9_code_67 ?_
            refine own_laloadF X3 F4_b (i := (W + 1 + 1)) hwn1 ((own_idx_lt hwn1 hl_).mp q1) rfl own_d_prog_37_method_9_code_68 ?_
            refine own_ipush X3 own_d_prog_37_method_9_code_69 ?_
            refine own_iload X3 own_d_prog_37_method_9_code_71 rfl ?_
            refine own_isub X3 own_d_prog_37_method_9_code_73 ?_
            refine own_lshl X3 own_d_prog_37_method_9_code_74 ?_
            exact J6 _ (by rw [own_hi, if_neg f1, own_Fz, if_pos ((own_idx_lt hwn1 hl_).mp q1)])
          · skip
            refine own_icNo X3 own_d_prog_37_method_9_code_56 (flt q1).1 ?_
            refine own_lpush X3 own_d_prog_37_method_9_code_59 ?_
            refine own_goto X3 own_d_prog_37_method_9_code_60 ?_
            exact J6 _ (by rw [own_hi, if_neg f1, own_Fz, if_neg (mt (own_idx_lt hwn1 hl_).mpr q1), own_lz'])
      intro hi1 hhi1
      refine own_lstore X3 #[.val (.ref b), .val (.int nf), .val (.ref a), .val (.int ti), .val (.int (Int32.ofNat n)), .val (.int sh), .val (.int (1 : Int32)), .val (.int wd1), .val (.long lo1), .second, .val (.long hi1), .second] own_d_prog_37_method_9_code_75 rfl ?_
      refine own_aload X3 own_d_prog_37_method_9_code_77 rfl ?_
      refine own_iload X3 own_d_prog_37_method_9_code_78 rfl ?_
      refine own_iload X3 own_d_prog_37_method_9_code_79 rfl ?_
      refine own_iadd X3 own_d_prog_37_method_9_code_81 ?_
      refine own_lload X3 own_d_prog_37_method_9_code_82 rfl ?_
      refine own_lload X3 own_d_prog_37_method_9_code_84 rfl ?_
      refine own_lor X3 own_d_prog_37_method_9_code_86 ?_
      refine own_lastoreF X3 V3 ga (i := (tw + 1)) (own_idx_add hti (n := 1) ⟨by decide, by decide⟩ (by omega)) (by omega) own_d_prog_37_method_9_code_87 ?_
      intro T7 h7 X7 W7 V7
      have K7 : Keep h0 h7 [a] := K3.wr W7 (Or.inl (by simp))
      replace V7 : own_AF Z h7 a .long 4 (own_up (fun j => .long (own_cps g F len tw W sh 1 j)) (tw + 1) (.long (lo1 ||| hi1))) := V7
      have F8_b : own_AF Z h7 b .long len (fun j => .long (F j)) := F4_b.other W7 (Ne.symm hab)
      rw [own_up_long, hlo1, hhi1] at V7
      replace V7 : own_AF Z h7 a .long 4 (fun j => .long (own_cps g F len tw W sh 2 j)) := V7
      refine own_iinc X7 #[.val (.ref b), .val (.int nf), .val (.ref a), .val (.int ti), .val (.int (Int32.ofNat n)), .val (.int sh), .val (.int (2 : Int32)), .val (.int wd1), .val (.long lo1), .second, .val (.long hi1), .second] own_d_prog_37_method_9_code_88 rfl rfl ?_
      refine own_goto X7 own_d_prog_37_method_9_code_91 ?_
      refine own_iload X7 own_d_prog_37_method_9_code_9 rfl ?_
      refine own_iload X7 own_d_prog_37_method_9_code_11 rfl ?_
      by_cases c2 : (2 : Int32) < (Int32.ofNat n)
      · skip
        refine own_icNo X7 own_d_prog_37_method_9_code_13 (tlt c2).2.1 ?_
        have lt2 : 2 < n := (own_idx_lt (m := 2) ⟨by decide, by decide⟩ hn_).mp c2
        refine own_iload X7 own_d_prog_37_method_9_code_16 rfl ?_
        refine own_ipush X7 own_d_prog_37_method_9_code_17 ?_
        refine own_idiv X7 own_d_prog_37_method_9_code_19 (by decide) ?_
        refine own_iload X7 own_d_prog_37_method_9_code_20 rfl ?_
        refine own_iadd X7 own_d_prog_37_method_9_code_22 ?_
        generalize hwd2 : ((nf / (64 : Int32)) + (2 : Int32)) = wd2
        have hwd2_ : own_idx wd2 (W + 2) := by rw [← hwd2]; exact own_idx_add hW (n := 2) ⟨by decide, by decide⟩ (by omega)
        refine own_istore X7 #[.val (.ref b), .val (.int nf), .val (.ref a), .val (.int ti), .val (.int (Int32.ofNat n)), .val (.int sh), .val (.int (2 : Int32)), .val (.int wd2), .val (.long lo1), .second, .val (.long hi1), .second] own_d_prog_37_method_9_code_23 rfl ?_
        refine own_iload X7 own_d_prog_37_method_9_code_25 rfl ?_
        refine own_aload X7 own_d_prog_37_method_9_code_27 rfl ?_
        refine own_alenF X7 F8_b own_d_prog_37_method_9_code_28 ?_
        suffices J9 : ∀ lo2 : Int64, lo2 = own_lo F len (W + 2) sh → own_Wins p e below A T7 (mkF m 43 #[.val (.ref b), .val (.int nf), .val (.ref a), .val (.int ti), .val (.int (Int32.ofNat n)), .val (.int sh), .val (.int (2 : Int32)), .val (.int wd2), .val (.long lo1), .second, .val (.long hi1), .second] [(.long lo2)]) by
          by_cases e2 : wd2 < (Int32.ofNat len)
          · skip
            refine own_icNo X7 own_d_prog_37_method_9_code_29 (tlt e2).2.1 ?_
            refine own_aload X7 own_d_prog_37_method_9_code_32 rfl ?_
            refine own_iload X7 own_d_prog_37_method_9_code_33 rfl ?_
            refine own_laloadF X7 F8_b (i := (W + 2)) hwd2_ ((own_idx_lt hwd2_ hl_).mp e2) rfl own_d_prog_37_method_9_code_35 ?_
            refine own_iload X7 own_d_prog_37_method_9_code_36 rfl ?_
            refine own_lushr X7 own_d_prog_37_method_9_code_38 ?_
            refine own_goto X7 own_d_prog_37_method_9_code_39 ?_
            exact J9 _ (by rw [own_lo, own_Fz, if_pos ((own_idx_lt hwd2_ hl_).mp e2)])
          · skip
            refine own_icYes X7 own_d_prog_37_method_9_code_29 (flt e2).2.1 ?_
            refine own_lpush X7 own_d_prog_37_method_9_code_42 ?_
            exact J9 _ (by rw [own_lo, own_Fz, if_neg (mt (own_idx_lt hwd2_ hl_).mpr e2), own_lz])
        intro lo2 hlo2
        refine own_lstore X7 #[.val (.ref b), .val (.int nf), .val (.ref a), .val (.int ti), .val (.int (Int32.ofNat n)), .val (.int sh), .val (.int (2 : Int32)), .val (.int wd2), .val (.long lo2), .second, .val (.long hi1), .second] own_d_prog_37_method_9_code_43 rfl ?_
        refine own_iload X7 own_d_prog_37_method_9_code_45 rfl ?_
        suffices J10 : ∀ hi2 : Int64, hi2 = own_hi F len (W + 2) sh → own_Wins p e below A T7 (mkF m 75 #[.val (.ref b), .val (.int nf), .val (.ref a), .val (.int ti), .val (.int (Int32.ofNat n)), .val (.int sh), .val (.int (2 : Int32)), .val (.int wd2), .val (.long lo2), .second, .val (.long hi1), .second] [(.long hi2)]) by
          by_cases f2 : sh = (0 : Int32)
          · skip
            refine own_ifYes X7 own_d_prog_37_method_9_code_47 ((if0 _ _).trans (teq f2).1) ?_
            refine own_lpush X7 own_d_prog_37_method_9_code_59 ?_
            refine own_goto X7 own_d_prog_37_method_9_code_60 ?_
            exact J10 _ (by simp only [own_hi, f2, if_true])
          · skip
            refine own_ifNo X7 own_d_prog_37_method_9_code_47 ((if0 _ _).trans (feq f2).1) ?_
            refine own_iload X7 own_d_prog_37_method_9_code_50 rfl ?_
            refine own_ipush X7 own_d_prog_37_method_9_code_52 ?_
            refine own_iadd X7 own_d_prog_37_method_9_code_53 ?_
            refine own_aload X7 own_d_prog_37_method_9_code_54 rfl ?_
            refine own_alenF X7 F8_b own_d_prog_37_method_9_code_55 ?_
            have hwn2 : own_idx (wd2 + (1 : Int32)) (W + 2 + 1) := own_idx_add hwd2_ (n := 1) ⟨by decide, by decide⟩ (by omega)
            by_cases q2 : (wd2 + (1 : Int32)) < (Int32.ofNat len)
            · skip
              refine own_icYes X7 own_d_prog_37_method_9_code_56 (tlt q2).1 ?_
              refine own_aload X7 own_d_prog_37_method_9_code_63 rfl ?_
              refine own_iload X7 own_d_prog_37_method_9_code_64 rfl ?_
              refine own_ipush X7 own_d_prog_37_method_9_code_66 ?_
              refine own_iadd X7 own_d_prog_37_method_9_code_67 ?_
              refine own_laloadF X7 F8_b (i := (W + 2 + 1)) hwn2 ((own_idx_lt hwn2 hl_).mp q2) rfl own_d_prog_37_method_9_code_68 ?_
              refine own_ipush X7 own_d_prog_37_method_9_code_69 ?_
              refine own_iload X7 own_d_prog_37_method_9_code_71 rfl ?_
              refine own_isub X7 own_d_prog_37_method_9_code_73 ?_
              refine own_lshl X7 own_d_prog_37_method_9_code_74 ?_
              exact J10 _ (by rw [own_hi, if_neg f2, own_Fz, if_pos ((own_idx_lt hwn2 hl_).mp q2)])
            · skip
              refine own_icNo X7 own_d_prog_37_method_9_code_56 (flt q2).1 ?_
              refine own_lpush X7 own_d_prog_37_method_9_code_59 ?_
              refine own_goto X7 own_d_prog_37_method_9_code_60 ?_
              exact J10 _ (by rw [own_hi, if_neg f2, own_Fz, if_neg (mt (own_idx_lt hwn2 hl_).mpr q2), own_lz'])
        intro hi2 hhi2
        refine own_lstore X7 #[.val (.ref b), .val (.int nf), .val (.ref a), .val (.int ti), .val (.int (Int32.ofNat n)), .val (.int sh), .val (.int (2 : Int32)), .val (.int wd2), .val (.long lo2), .second, .val (.long hi2), .second] own_d_prog_37_method_9_code_75 rfl ?_
        refine own_aload X7 own_d_prog_37_method_9_code_77 rfl ?_
        refine own_iload X7 own_d_prog_37_method_9_code_78 rfl ?_
        refine own_iload X7 own_d_prog_37_method_9_code_79 rfl ?_
        refine own_iadd X7 own_d_prog_37_method_9_code_81 ?_
        refine own_lload X7 own_d_prog_37_method_9_code_82 rfl ?_
        refine own_lload X7 own_d_prog_37_method_9_code_84 rfl ?_
        refine own_lor X7 own_d_prog_37_method_9_code_86 ?_
        refine own_lastoreF X7 V7 ga (i := (tw + 2)) (own_idx_add hti (n := 2) ⟨by decide, by decide⟩ (by omega)) (by omega) own_d_prog_37_method_9_code_87 ?_
        intro T11 h11 X11 W11 V11
        have K11 : Keep h0 h11 [a] := K7.wr W11 (Or.inl (by simp))
        replace V11 : own_AF Z h11 a .long 4 (own_up (fun j => .long (own_cps g F len tw W sh 2 j)) (tw + 2) (.long (lo2 ||| hi2))) := V11
        have F12_b : own_AF Z h11 b .long len (fun j => .long (F j)) := F8_b.other W11 (Ne.symm hab)
        rw [own_up_long, hlo2, hhi2] at V11
        replace V11 : own_AF Z h11 a .long 4 (fun j => .long (own_cps g F len tw W sh 3 j)) := V11
        refine own_iinc X11 #[.val (.ref b), .val (.int nf), .val (.ref a), .val (.int ti), .val (.int (Int32.ofNat n)), .val (.int sh), .val (.int (3 : Int32)), .val (.int wd2), .val (.long lo2), .second, .val (.long hi2), .second] own_d_prog_37_method_9_code_88 rfl rfl ?_
        refine own_goto X11 own_d_prog_37_method_9_code_91 ?_
        refine own_iload X11 own_d_prog_37_method_9_code_9 rfl ?_
        refine own_iload X11 own_d_prog_37_method_9_code_11 rfl ?_
        have c3 : ¬ (3 : Int32) < (Int32.ofNat n) := mt (own_idx_lt (m := 3) ⟨by decide, by decide⟩ hn_).mp (by omega)
        refine own_icYes X11 own_d_prog_37_method_9_code_13 (flt c3).2.1 ?_
        have hni : n = 3 := by have := mt (own_idx_lt (m := 3) ⟨by decide, by decide⟩ hn_).mpr c3; omega
        exact own_ret0 X11 hret fin (by decide) (by decide) ⟨rfl, K11, by rw [hsh, hni]; exact V11⟩ own_d_prog_37_method_9_code_94
      · skip
        refine own_icYes X7 own_d_prog_37_method_9_code_13 (flt c2).2.1 ?_
        have hni : n = 2 := by have := mt (own_idx_lt (m := 2) ⟨by decide, by decide⟩ hn_).mpr c2; omega
        exact own_ret0 X7 hret fin (by decide) (by decide) ⟨rfl, K7, by rw [hsh, hni]; exact V7⟩ own_d_prog_37_method_9_code_94
    · skip
      refine own_icYes X3 own_d_prog_37_method_9_code_13 (flt c1).2.1 ?_
      have hni : n = 1 := by have := mt (own_idx_lt (m := 1) ⟨by decide, by decide⟩ hn_).mpr c1; omega
      exact own_ret0 X3 hret fin (by decide) (by decide) ⟨rfl, K3, by rw [hsh, hni]; exact V3⟩ own_d_prog_37_method_9_code_94
  · skip
    refine own_icYes X0 own_d_prog_37_method_9_code_13 (flt c0).2.1 ?_
    have hni : n = 0 := by have := mt (own_idx_lt (m := 0) ⟨by decide, by decide⟩ hn_).mpr c0; omega
    exact own_ret0 X0 hret fin (by decide) (by decide) ⟨rfl, (Keep.refl h0 [a]), by rw [hsh, hni]; exact Va⟩ own_d_prog_37_method_9_code_94
set_option maxRecDepth 65536 in
set_option maxHeartbeats 40000000 in
theorem own_srcBit (l : Launch) (Z : State) (a0 : Array Value) (hw : ∀ d ∈ tables_1, d.before a0 Z = true) (x0 x1 x2 : Int64) (len m_ : Nat) (mi : Int32) (h0 : Heap) (n0 : Nat) (Z0 : n0 ≤ h0.size) (hlen : len < 4) (hm : own_idx mi m_) :
    own_Con l Z n0 (⟨"com/example/levelweave/levelweave/cli/WordBitsCopyPinLaw", "srcBit", "(JJJII)J"⟩ : MethodName) method_4_code 11 (some .long) ({ frames := 0, cells := 0, slots := 0, locals := 0 } : Room) [] #[(.long x0), (.long x1), (.long x2), (.int (Int32.ofNat len)), (.int mi)] h0 (fun v h' => v = some (.long (own_sb (fun j => ([x0, x1, x2] : List Int64).getD j 0) len m_)) ∧ h' = h0) := by
  refine own_enter (plainFor_of_name own_pn_com_example_levelweave_levelweave_cli_WordBitsCopyPinLaw) Z0 #[.val (.long x0), .second, .val (.long x1), .second, .val (.long x2), .second, .val (.int (Int32.ofNat len)), .val (.int mi), .unset, .unset, .unset] (fun m => by first | (simp [entryFrame, mkF, argsToLocals, Value.category]; done) | rfl) ?_
  intro p e s m below meth c T A X0 hret hnm fin
  have hdv := own_div64 hm
  have hl_ : own_idx (Int32.ofNat len) len := own_idx_nat (by omega)
  refine own_iload X0 own_d_method_4_code_0 rfl ?_
  refine own_ipush X0 own_d_method_4_code_2 ?_
  refine own_idiv X0 own_d_method_4_code_4 (by decide) ?_
  generalize hwd : (mi / (64 : Int32)) = wd
  rw [hwd] at hdv
  refine own_istore X0 #[.val (.long x0), .second, .val (.long x1), .second, .val (.long x2), .second, .val (.int (Int32.ofNat len)), .val (.int mi), .val (.int wd), .unset, .unset] own_d_method_4_code_5 rfl ?_
  refine own_iload X0 own_d_method_4_code_7 rfl ?_
  refine own_iload X0 own_d_method_4_code_9 rfl ?_
  by_cases c1 : wd < (Int32.ofNat len)
  · skip
    refine own_icYes X0 own_d_method_4_code_11 (tlt c1).1 ?_
    have hw_ := (own_idx_lt hdv.1 hl_).mp c1
    refine own_iload X0 own_d_method_4_code_16 rfl ?_
    suffices J1 : ∀ vv : Int64, vv = (fun j => ([x0, x1, x2] : List Int64).getD j 0) (m_ / 64) → own_Wins p e below A T (mkF m 37 #[.val (.long x0), .second, .val (.long x1), .second, .val (.long x2), .second, .val (.int (Int32.ofNat len)), .val (.int mi), .val (.int wd), .unset, .unset] [(.long vv)]) by
      by_cases c2 : wd = (0 : Int32)
      · skip
        refine own_ifNo X0 own_d_method_4_code_18 ((if0 _ _).trans (teq c2).2) ?_
        refine own_lload X0 own_d_method_4_code_21 rfl ?_
        refine own_goto X0 own_d_method_4_code_22 ?_
        exact J1 _ (by rw [show m_ / 64 = 0 from (own_idx_eq hdv.1 (n := 0) ⟨by decide, by decide⟩).mp c2]; rfl)
      · skip
        refine own_ifYes X0 own_d_method_4_code_18 ((if0 _ _).trans (feq c2).2) ?_
        refine own_iload X0 own_d_method_4_code_25 rfl ?_
        refine own_ipush X0 own_d_method_4_code_27 ?_
        by_cases c3 : wd = (1 : Int32)
        · skip
          refine own_icNo X0 own_d_method_4_code_28 (teq c3).2 ?_
          refine own_lload X0 own_d_method_4_code_31 rfl ?_
          refine own_goto X0 own_d_method_4_code_32 ?_
          exact J1 _ (by rw [show m_ / 64 = 1 from (own_idx_eq hdv.1 (n := 1) ⟨by decide, by decide⟩).mp c3]; rfl)
        · skip
          refine own_icYes X0 own_d_method_4_code_28 (feq c3).2 ?_
          refine own_lload X0 own_d_method_4_code_35 rfl ?_
          exact J1 _ (by rw [show m_ / 64 = 2 by have h1 := mt (own_idx_eq hdv.1 (n := 0) ⟨by decide, by decide⟩).mpr c2; have h2 := mt (own_idx_eq hdv.1 (n := 1) ⟨by decide, by decide⟩).mpr c3; omega]; rfl)
    intro vv hvv
    refine own_lstore X0 #[.val (.long x0), .second, .val (.long x1), .second, .val (.long x2), .second, .val (.int (Int32.ofNat len)), .val (.int mi), .val (.int wd), .val (.long vv), .second] own_d_method_4_code_37 rfl ?_
    refine own_lload X0 own_d_method_4_code_39 rfl ?_
    refine own_iload X0 own_d_method_4_code_41 rfl ?_
    refine own_ipush X0 own_d_method_4_code_43 ?_
    refine own_irem X0 own_d_method_4_code_45 (by decide) ?_
    refine own_lushr X0 own_d_method_4_code_46 ?_
    refine own_lpush X0 own_d_method_4_code_47 ?_
    refine own_land X0 own_d_method_4_code_48 ?_
    exact own_retJ X0 hret fin (by decide) (by decide) ⟨by rw [hvv, own_bit1 _ _ _ hdv.2 (by omega), own_sb, own_Fz, if_pos hw_], rfl⟩ own_d_method_4_code_49
  · skip
    refine own_icNo X0 own_d_method_4_code_11 (flt c1).1 ?_
    refine own_lpush X0 own_d_method_4_code_14 ?_
    exact own_retJ X0 hret fin (by decide) (by decide) ⟨by rw [own_sb, own_Fz, if_neg (mt (own_idx_lt hdv.1 hl_).mpr c1)]; simp, rfl⟩ own_d_method_4_code_15
set_option maxRecDepth 65536 in
set_option maxHeartbeats 40000000 in
theorem own_check (l : Launch) (Z : State) (a0 : Array Value) (hw : ∀ d ∈ tables_1, d.before a0 Z = true) (a : Addr) (pi ti : Int32) (n tw p_ k len m0 : Nat) (d_ x0 x1 x2 : Int64) (kk nf : Int32) (g : Nat → Int64) (h0 : Heap) (n0 : Nat) (Z0 : n0 ≤ h0.size) (hn : n < 4) (hlen : len < 4) (hpi : own_idx pi p_) (hp4 : p_ < 4) (hti : own_idx ti tw) (htw : tw < 4) (hkk : own_idx kk k) (hk : k < 64) (hnf : own_idx nf m0) (hm0 : m0 < 256) (Va : own_AF Z h0 a .long 4 (fun j => .long (g j))) (hA : ¬ (tw ≤ p_ ∧ p_ < tw + n) → g p_ = d_) (hB : tw ≤ p_ → p_ < tw + n → (own_Lushr (g p_) kk) &&& (1 : Int64) = own_sb (fun j => ([x0, x1, x2] : List Int64).getD j 0) len (m0 + 64 * (p_ - tw) + k)) :
    own_Con l Z n0 (⟨"com/example/levelweave/levelweave/cli/WordBitsCopyPinLaw", "check", "([JIIIJIJJJII)Z"⟩ : MethodName) method_3_code 18 (some .boolean) ({ frames := 1, cells := 0, slots := 0, locals := 24 } : Room) [] #[(.ref a), (.int pi), (.int ti), (.int (Int32.ofNat n)), (.long d_), (.int kk), (.long x0), (.long x1), (.long x2), (.int (Int32.ofNat len)), (.int nf)] h0 (fun v h' => v = some (.int 1) ∧ h' = h0) := by
  refine own_enter (plainFor_of_name own_pn_com_example_levelweave_levelweave_cli_WordBitsCopyPinLaw) Z0 #[.val (.ref a), .val (.int pi), .val (.int ti), .val (.int (Int32.ofNat n)), .val (.long d_), .second, .val (.int kk), .val (.long x0), .second, .val (.long x1), .second, .val (.long x2), .second, .val (.int (Int32.ofNat len)), .val (.int nf), .unset, .unset, .unset] (fun m => by first | (simp [entryFrame, mkF, argsToLocals, Value.category]; done) | rfl) ?_
  intro p e s m below meth c T A X0 hret hnm fin
  have htn_ : own_idx (ti + Int32.ofNat n) (tw + n) := own_idx_add hti (own_idx_nat (by omega)) (by omega)
  refine own_iload X0 own_d_method_3_code_0 rfl ?_
  refine own_iload X0 own_d_method_3_code_1 rfl ?_
  by_cases c1 : pi < ti
  · skip
    refine own_icYes X0 own_d_method_3_code_2 (tlt c1).1 ?_
    refine own_aload X0 own_d_method_3_code_12 rfl ?_
    refine own_iload X0 own_d_method_3_code_13 rfl ?_
    refine own_laloadF X0 Va (i := p_) hpi hp4 rfl own_d_method_3_code_14 ?_
    refine own_lload X0 own_d_method_3_code_15 rfl ?_
    refine own_lcmp X0 own_d_method_3_code_17 ?_
    refine own_ifNo X0 own_d_method_3_code_18 ((if0 _ _).trans (teq ((lw_eq (g p_) d_).2 (hA (fun q => by have := (own_idx_lt hpi hti).mp c1; omega)))).2) ?_
    refine own_ipush X0 own_d_method_3_code_21 ?_
    refine own_goto X0 own_d_method_3_code_22 ?_
    exact own_retZ X0 hret rfl fin (by decide) (by decide) ⟨rfl, rfl⟩ own_d_method_3_code_26
  · skip
    refine own_icNo X0 own_d_method_3_code_2 (flt c1).1 ?_
    refine own_iload X0 own_d_method_3_code_5 rfl ?_
    refine own_iload X0 own_d_method_3_code_6 rfl ?_
    refine own_iload X0 own_d_method_3_code_7 rfl ?_
    refine own_iadd X0 own_d_method_3_code_8 ?_
    by_cases c2 : pi < (ti + (Int32.ofNat n))
    · skip
      refine own_icYes X0 own_d_method_3_code_9 (tlt c2).1 ?_
      have hge : tw ≤ p_ := by have := mt (own_idx_lt hpi hti).mpr c1; omega
      have hlt : p_ < tw + n := (own_idx_lt hpi htn_).mp c2
      refine own_iload X0 own_d_method_3_code_27 rfl ?_
      refine own_iload X0 own_d_method_3_code_28 rfl ?_
      refine own_isub X0 own_d_method_3_code_29 ?_
      refine own_istore X0 #[.val (.ref a), .val (.int pi), .val (.int ti), .val (.int (Int32.ofNat n)), .val (.long d_), .second, .val (.int kk), .val (.long x0), .second, .val (.long x1), .second, .val (.long x2), .second, .val (.int (Int32.ofNat len)), .val (.int nf), .val (.int (pi - ti)), .unset, .unset] own_d_method_3_code_30 rfl ?_
      refine own_aload X0 own_d_method_3_code_32 rfl ?_
      refine own_iload X0 own_d_method_3_code_33 rfl ?_
      refine own_laloadF X0 Va (i := p_) hpi hp4 rfl own_d_method_3_code_34 ?_
      refine own_iload X0 own_d_method_3_code_35 rfl ?_
      refine own_lushr X0 own_d_method_3_code_37 ?_
      refine own_lpush X0 own_d_method_3_code_38 ?_
      refine own_land X0 own_d_method_3_code_39 ?_
      refine own_lstore X0 #[.val (.ref a), .val (.int pi), .val (.int ti), .val (.int (Int32.ofNat n)), .val (.long d_), .second, .val (.int kk), .val (.long x0), .second, .val (.long x1), .second, .val (.long x2), .second, .val (.int (Int32.ofNat len)), .val (.int nf), .val (.int (pi - ti)), .val (.long ((own_Lushr (g p_) kk) &&& (1 : Int64))), .second] own_d_method_3_code_40 rfl ?_
      refine own_lload X0 own_d_method_3_code_42 rfl ?_
      refine own_lload X0 own_d_method_3_code_44 rfl ?_
      refine own_lload X0 own_d_method_3_code_46 rfl ?_
      refine own_lload X0 own_d_method_3_code_48 rfl ?_
      refine own_iload X0 own_d_method_3_code_50 rfl ?_
      refine own_iload X0 own_d_method_3_code_52 rfl ?_
      refine own_ipush X0 own_d_method_3_code_54 ?_
      refine own_iload X0 own_d_method_3_code_56 rfl ?_
      refine own_imul X0 own_d_method_3_code_58 ?_
      refine own_iadd X0 own_d_method_3_code_59 ?_
      refine own_iload X0 own_d_method_3_code_60 rfl ?_
      refine own_iadd X0 own_d_method_3_code_62 ?_
      have hix : own_idx ((nf + ((64 : Int32) * (pi - ti))) + kk) (m0 + 64 * (p_ - tw) + k) := by
        have h1 := own_idx_sub hpi hti hge
        have h2 : own_idx ((64 : Int32) * (pi - ti)) (64 * (p_ - tw)) := by rw [Int32.mul_comm]; exact own_mul64 h1 (by omega)
        exact own_idx_add (own_idx_add hnf h2 (by omega)) hkk (by omega)
      refine own_callS X0 (y := (⟨"com/example/levelweave/levelweave/cli/WordBitsCopyPinLaw", "srcBit", "(JJJII)J"⟩ : MethodName)) [(.long x0), (.long x1), (.long x2), (.int (Int32.ofNat len)), (.int ((nf + ((64 : Int32) * (pi - ti))) + kk))] [(.long ((own_Lushr (g p_) kk) &&& (1 : Int64)))] 2 rfl (hw _ (List.mem_of_getElem? (i := 9) rfl)) (hw _ (List.mem_of_getElem? (i := 10) rfl)) (hw _ (List.mem_of_getElem? (i := 7) rfl)) (hw _ (List.mem_of_getElem? (i := 11) rfl)) (by decide) (own_srcBit l Z a0 hw x0 x1 x2 len (m0 + 64 * (p_ - tw) + k) ((nf + ((64 : Int32) * (pi - ti))) + kk) h0 n0 X0.sz hlen hix) own_d_method_3_code_63 own_pd__JJJII_J rfl rfl (by show 2 * 0 + _ ≤ _; exact Nat.le_of_eq rfl) (by decide) (by decide) (by decide) (by decide) ?_
      intro T1 h1 v1 X1 P1
      obtain ⟨rfl, eh1⟩ := P1
      rw [eh1] at X1
      show own_Wins p e below A T1 (mkF m 66 #[.val (.ref a), .val (.int pi), .val (.int ti), .val (.int (Int32.ofNat n)), .val (.long d_), .second, .val (.int kk), .val (.long x0), .second, .val (.long x1), .second, .val (.long x2), .second, .val (.int (Int32.ofNat len)), .val (.int nf), .val (.int (pi - ti)), .val (.long ((own_Lushr (g p_) kk) &&& (1 : Int64))), .second] [(.long (own_sb (fun j => ([x0, x1, x2] : List Int64).getD j 0) len (m0 + 64 * (p_ - tw) + k))), (.long ((own_Lushr (g p_) kk) &&& (1 : Int64)))])
      refine own_lcmp X1 own_d_method_3_code_66 ?_
      refine own_ifNo X1 own_d_method_3_code_67 ((if0 _ _).trans (teq ((lw_eq ((own_Lushr (g p_) kk) &&& (1 : Int64)) (own_sb (fun j => ([x0, x1, x2] : List Int64).getD j 0) len (m0 + 64 * (p_ - tw) + k))).2 (hB hge hlt))).2) ?_
      refine own_ipush X1 own_d_method_3_code_70 ?_
      refine own_goto X1 own_d_method_3_code_71 ?_
      exact own_retZ X1 hret rfl fin (by decide) (by decide) ⟨rfl, rfl⟩ own_d_method_3_code_75
    · skip
      refine own_icNo X0 own_d_method_3_code_9 (flt c2).1 ?_
      refine own_aload X0 own_d_method_3_code_12 rfl ?_
      refine own_iload X0 own_d_method_3_code_13 rfl ?_
      refine own_laloadF X0 Va (i := p_) hpi hp4 rfl own_d_method_3_code_14 ?_
      refine own_lload X0 own_d_method_3_code_15 rfl ?_
      refine own_lcmp X0 own_d_method_3_code_17 ?_
      refine own_ifNo X0 own_d_method_3_code_18 ((if0 _ _).trans (teq ((lw_eq (g p_) d_).2 (hA (fun q => by have := mt (own_idx_lt hpi htn_).mpr c2; omega)))).2) ?_
      refine own_ipush X0 own_d_method_3_code_21 ?_
      refine own_goto X0 own_d_method_3_code_22 ?_
      exact own_retZ X0 hret rfl fin (by decide) (by decide) ⟨rfl, rfl⟩ own_d_method_3_code_26
set_option maxRecDepth 65536 in
set_option maxHeartbeats 40000000 in
theorem own_law (l : Launch) (Z : State) (a0 : Array Value) (hw : ∀ d ∈ tables_1, d.before a0 Z = true) (i0 i1 i2 i3 : Int64) (i4 i5 : Int32) (h0 : Heap) (n0 : Nat) (Z0 : n0 ≤ h0.size)  :
    own_Con l Z n0 x code maxLocals ret room_1 tables_1 #[(.long i0), (.long i1), (.long i2), (.long i3), (.int i4), (.int i5)] h0 (fun v _ => v = some (.int 1)) := by
  refine own_enter (plainFor_of_name own_pn_com_example_levelweave_levelweave_cli_WordBitsCopyPinLaw) Z0 #[.val (.long i0), .second, .val (.long i1), .second, .val (.long i2), .second, .val (.long i3), .second, .val (.int i4), .val (.int i5), .unset, .unset, .unset, .unset, .unset, .unset, .unset] (fun m => by first | (simp [entryFrame, mkF, argsToLocals, Value.category, maxLocals]; done) | rfl) ?_
  intro p e s m below meth c T A X0 hret hnm fin
  refine own_iload X0 own_d_code_0 rfl ?_
  refine own_ipush X0 own_d_code_2 ?_
  refine own_iushr X0 own_d_code_4 ?_
  refine own_ipush X0 own_d_code_5 ?_
  refine own_iand X0 own_d_code_6 ?_
  generalize hle : ((own_Iushr i5 (9 : Int32)) &&& (3 : Int32)) = le
  obtain ⟨len, llen, le_⟩ := own_and_idx (own_Iushr i5 9) 3 2 (by decide) (by decide)
  rw [hle] at le_
  obtain rfl := own_idx_val le_
  have hlen : len < 4 := llen
  refine own_istore X0 #[.val (.long i0), .second, .val (.long i1), .second, .val (.long i2), .second, .val (.long i3), .second, .val (.int i4), .val (.int i5), .val (.int (Int32.ofNat len)), .unset, .unset, .unset, .unset, .unset, .unset] own_d_code_7 rfl ?_
  refine own_iload X0 own_d_code_9 rfl ?_
  refine own_newarr X0 (hw _ (List.mem_of_getElem? (i := 0) rfl)) own_d_code_11 (n := len) le_ 3 (by omega) (by decide) (by decide) (by decide) ?_
  intro T1 h1 b1 X1 E1 g1 ga_b1 V1
  replace V1 : own_AL Z h1 b1 .long (List.replicate len (.long (0 : Int64))) := V1
  refine own_astore X1 #[.val (.long i0), .second, .val (.long i1), .second, .val (.long i2), .second, .val (.long i3), .second, .val (.int i4), .val (.int i5), .val (.int (Int32.ofNat len)), .val (.ref b1), .unset, .unset, .unset, .unset, .unset] own_d_code_13 rfl ?_
  have Vf : own_AF Z h1 b1 .long len (fun _ => Value.long 0) := (V1.fn len (by simp) (.long 0)).to (fun j hj => by simp [List.getD_eq_getElem?_getD, hj])
  refine own_iload X1 own_d_code_15 rfl ?_
  suffices J2 : ∀ (T3 : State) (h3 : Heap) (gf0 : Nat → Value), own_St p l e room_1 s m #[(.long i0), (.long i1), (.long i2), (.long i3), (.int i4), (.int i5)] below meth c Z n0 code maxLocals "com/example/levelweave/levelweave/cli/WordBitsCopyPinLaw" T3 h3 1 3 → own_AF Z h3 b1 .long len gf0 → (∀ j, j < len → j < 1 → gf0 j = .long ((fun j => ([i0, i1, i2] : List Int64).getD j 0) j)) → own_Wins p e below A T3 (mkF m 25 #[.val (.long i0), .second, .val (.long i1), .second, .val (.long i2), .second, .val (.long i3), .second, .val (.int i4), .val (.int i5), .val (.int (Int32.ofNat len)), .val (.ref b1), .unset, .unset, .unset, .unset, .unset] []) by
    have hp : (∀ j, j < len → j < 0 → (fun _ => Value.long 0) j = .long ((fun j => ([i0, i1, i2] : List Int64).getD j 0) j)) := (fun j _ q => absurd q (Nat.not_lt_zero j))
    by_cases c0 : (0 : Int32) < (Int32.ofNat len)
    · skip
      refine own_ifNo X1 own_d_code_17 ((if0 _ _).trans (tlt c0).2.2.2) ?_
      have lt_ : 0 < len := (own_idx_lt (m := 0) ⟨by decide, by decide⟩ le_).mp c0
      refine own_aload X1 own_d_code_20 rfl ?_
      refine own_ipush X1 own_d_code_22 ?_
      refine own_lload X1 own_d_code_23 rfl ?_
      refine own_lastoreF X1 Vf ga_b1 (i := 0) ⟨by decide, by decide⟩ lt_ own_d_code_24 ?_
      intro T4 h4 X4 W4 V4
      replace V4 : own_AF Z h4 b1 .long len (own_up (fun _ => Value.long 0) 0 (.long i0)) := V4
      exact J2 T4 h4 _ X4 V4 (fun j h1 h2 => if q : j = 0 then (by subst q; exact own_up_same _ _ _) else (by rw [own_up_ne _ _ q]; exact hp j h1 (by omega)))
    · skip
      refine own_ifYes X1 own_d_code_17 ((if0 _ _).trans (flt c0).2.2.2) ?_
      exact J2 T1 h1 _ X1 Vf (fun j h1 h2 => hp j h1 (by have := mt (own_idx_lt (m := 0) ⟨by decide, by decide⟩ le_).mpr c0; omega))
  intro T3 h3 gf0 X3 F3_b1 hs3
  refine own_iload X3 own_d_code_25 rfl ?_
  refine own_ipush X3 own_d_code_27 ?_
  suffices J5 : ∀ (T6 : State) (h6 : Heap) (gf1 : Nat → Value), own_St p l e room_1 s m #[(.long i0), (.long i1), (.long i2), (.long i3), (.int i4), (.int i5)] below meth c Z n0 code maxLocals "com/example/levelweave/levelweave/cli/WordBitsCopyPinLaw" T6 h6 1 3 → own_AF Z h6 b1 .long len gf1 → (∀ j, j < len → j < 2 → gf1 j = .long ((fun j => ([i0, i1, i2] : List Int64).getD j 0) j)) → own_Wins p e below A T6 (mkF m 36 #[.val (.long i0), .second, .val (.long i1), .second, .val (.long i2), .second, .val (.long i3), .second, .val (.int i4), .val (.int i5), .val (.int (Int32.ofNat len)), .val (.ref b1), .unset, .unset, .unset, .unset, .unset] []) by
    have hp : (∀ j, j < len → j < 1 → gf0 j = .long ((fun j => ([i0, i1, i2] : List Int64).getD j 0) j)) := hs3
    by_cases c1 : (1 : Int32) < (Int32.ofNat len)
    · skip
      refine own_icNo X3 own_d_code_28 (tlt c1).2.2.2 ?_
      have lt_ : 1 < len := (own_idx_lt (m := 1) ⟨by decide, by decide⟩ le_).mp c1
      refine own_aload X3 own_d_code_31 rfl ?_
      refine own_ipush X3 own_d_code_33 ?_
      refine own_lload X3 own_d_code_34 rfl ?_
      refine own_lastoreF X3 F3_b1 ga_b1 (i := 1) ⟨by decide, by decide⟩ lt_ own_d_code_35 ?_
      intro T7 h7 X7 W7 V7
      replace V7 : own_AF Z h7 b1 .long len (own_up gf0 1 (.long i1)) := V7
      exact J5 T7 h7 _ X7 V7 (fun j h1 h2 => if q : j = 1 then (by subst q; exact own_up_same _ _ _) else (by rw [own_up_ne _ _ q]; exact hp j h1 (by omega)))
    · skip
      refine own_icYes X3 own_d_code_28 (flt c1).2.2.2 ?_
      exact J5 T3 h3 _ X3 F3_b1 (fun j h1 h2 => hp j h1 (by have := mt (own_idx_lt (m := 1) ⟨by decide, by decide⟩ le_).mpr c1; omega))
  intro T6 h6 gf1 X6 F6_b1 hs6
  refine own_iload X6 own_d_code_36 rfl ?_
  refine own_ipush X6 own_d_code_38 ?_
  suffices J8 : ∀ (T9 : State) (h9 : Heap) (gf2 : Nat → Value), own_St p l e room_1 s m #[(.long i0), (.long i1), (.long i2), (.long i3), (.int i4), (.int i5)] below meth c Z n0 code maxLocals "com/example/levelweave/levelweave/cli/WordBitsCopyPinLaw" T9 h9 1 3 → own_AF Z h9 b1 .long len gf2 → (∀ j, j < len → j < 3 → gf2 j = .long ((fun j => ([i0, i1, i2] : List Int64).getD j 0) j)) → own_Wins p e below A T9 (mkF m 48 #[.val (.long i0), .second, .val (.long i1), .second, .val (.long i2), .second, .val (.long i3), .second, .val (.int i4), .val (.int i5), .val (.int (Int32.ofNat len)), .val (.ref b1), .unset, .unset, .unset, .unset, .unset] []) by
    have hp : (∀ j, j < len → j < 2 → gf1 j = .long ((fun j => ([i0, i1, i2] : List Int64).getD j 0) j)) := hs6
    by_cases c2 : (2 : Int32) < (Int32.ofNat len)
    · skip
      refine own_icNo X6 own_d_code_39 (tlt c2).2.2.2 ?_
      have lt_ : 2 < len := (own_idx_lt (m := 2) ⟨by decide, by decide⟩ le_).mp c2
      refine own_aload X6 own_d_code_42 rfl ?_
      refine own_ipush X6 own_d_code_44 ?_
      refine own_lload X6 own_d_code_45 rfl ?_
      refine own_lastoreF X6 F6_b1 ga_b1 (i := 2) ⟨by decide, by decide⟩ lt_ own_d_code_47 ?_
      intro T10 h10 X10 W10 V10
      replace V10 : own_AF Z h10 b1 .long len (own_up gf1 2 (.long i2)) := V10
      exact J8 T10 h10 _ X10 V10 (fun j h1 h2 => if q : j = 2 then (by subst q; exact own_up_same _ _ _) else (by rw [own_up_ne _ _ q]; exact hp j h1 (by omega)))
    · skip
      refine own_icYes X6 own_d_code_39 (flt c2).2.2.2 ?_
      exact J8 T6 h6 _ X6 F6_b1 (fun j h1 h2 => hp j h1 (by have := mt (own_idx_lt (m := 2) ⟨by decide, by decide⟩ le_).mpr c2; omega))
  intro T9 h9 gf2 X9 F9_b1 hs9
  have Vg : own_AF Z h9 b1 .long len (fun j => .long ((fun j => ([i0, i1, i2] : List Int64).getD j 0) j)) := F9_b1.to (fun j hj => hs9 j hj (by omega))
  refine own_iload X9 own_d_code_48 rfl ?_
  refine own_ipush X9 own_d_code_50 ?_
  refine own_iand X9 own_d_code_53 ?_
  generalize hnf : (i4 &&& (255 : Int32)) = nf
  obtain ⟨m0, lm0, nf_⟩ := own_and_idx i4 255 8 (by decide) (by decide)
  rw [hnf] at nf_
  obtain rfl := own_idx_val nf_
  refine own_istore X9 #[.val (.long i0), .second, .val (.long i1), .second, .val (.long i2), .second, .val (.long i3), .second, .val (.int i4), .val (.int i5), .val (.int (Int32.ofNat len)), .val (.ref b1), .val (.int (Int32.ofNat m0)), .unset, .unset, .unset, .unset] own_d_code_54 rfl ?_
  refine own_iload X9 own_d_code_56 rfl ?_
  refine own_ipush X9 own_d_code_58 ?_
  refine own_iand X9 own_d_code_59 ?_
  generalize hnc : (i5 &&& (3 : Int32)) = nc
  obtain ⟨n, ln, nc_⟩ := own_and_idx i5 3 2 (by decide) (by decide)
  rw [hnc] at nc_
  obtain rfl := own_idx_val nc_
  refine own_istore X9 #[.val (.long i0), .second, .val (.long i1), .second, .val (.long i2), .second, .val (.long i3), .second, .val (.int i4), .val (.int i5), .val (.int (Int32.ofNat len)), .val (.ref b1), .val (.int (Int32.ofNat m0)), .val (.int (Int32.ofNat n)), .unset, .unset, .unset] own_d_code_60 rfl ?_
  refine own_iload X9 own_d_code_62 rfl ?_
  refine own_ipush X9 own_d_code_64 ?_
  refine own_iushr X9 own_d_code_65 ?_
  refine own_ipush X9 own_d_code_66 ?_
  refine own_iand X9 own_d_code_67 ?_
  generalize hti : ((own_Iushr i5 (2 : Int32)) &&& (1 : Int32)) = ti
  obtain ⟨tw, ltw, ti_⟩ := own_and_idx (own_Iushr i5 2) 1 1 (by decide) (by decide)
  rw [hti] at ti_
  obtain rfl := own_idx_val ti_
  refine own_istore X9 #[.val (.long i0), .second, .val (.long i1), .second, .val (.long i2), .second, .val (.long i3), .second, .val (.int i4), .val (.int i5), .val (.int (Int32.ofNat len)), .val (.ref b1), .val (.int (Int32.ofNat m0)), .val (.int (Int32.ofNat n)), .val (.int (Int32.ofNat tw)), .unset, .unset] own_d_code_68 rfl ?_
  refine own_iload X9 own_d_code_70 rfl ?_
  refine own_ipush X9 own_d_code_72 ?_
  refine own_iushr X9 own_d_code_73 ?_
  refine own_ipush X9 own_d_code_74 ?_
  refine own_iand X9 own_d_code_76 ?_
  generalize hkk : ((own_Iushr i5 (3 : Int32)) &&& (63 : Int32)) = kk
  obtain ⟨k, lk, kk_⟩ := own_and_idx (own_Iushr i5 3) 63 6 (by decide) (by decide)
  rw [hkk] at kk_
  obtain rfl := own_idx_val kk_
  have hm0 : m0 < 256 := lm0
  have hn4 : n < 4 := ln
  have htw : tw < 2 := ltw
  have hk64 : k < 64 := lk
  have hdv := own_div64 nf_
  refine own_istore X9 #[.val (.long i0), .second, .val (.long i1), .second, .val (.long i2), .second, .val (.long i3), .second, .val (.int i4), .val (.int i5), .val (.int (Int32.ofNat len)), .val (.ref b1), .val (.int (Int32.ofNat m0)), .val (.int (Int32.ofNat n)), .val (.int (Int32.ofNat tw)), .val (.int (Int32.ofNat k)), .unset] own_d_code_77 rfl ?_
  refine own_ipush X9 own_d_code_79 ?_
  refine own_newarr X9 (hw _ (List.mem_of_getElem? (i := 0) rfl)) own_d_code_80 (n := 4) ⟨by decide, by decide⟩ 4 (Nat.le_refl _) (by decide) (by decide) (by decide) ?_
  intro T11 h11 b11 X11 E11 g11 ga_b11 V11
  have ne_b1_b11 : b1 ≠ b11 := by rw [g11]; exact Nat.ne_of_lt Vg.lt
  have F12_b1 : own_AF Z h11 b1 .long len (fun j => .long ((fun j => ([i0, i1, i2] : List Int64).getD j 0) j)) := Vg.ext E11
  replace V11 : own_AL Z h11 b11 .long [(.long (0 : Int64)), (.long (0 : Int64)), (.long (0 : Int64)), (.long (0 : Int64))] := V11
  refine own_dup X11 own_d_code_82 rfl ?_
  refine own_ipush X11 own_d_code_83 ?_
  refine own_lload X11 own_d_code_84 rfl ?_
  refine own_lastore X11 V11 ga_b11 (i := 0) ⟨by decide, by decide⟩ (Nat.le_of_ble_eq_true rfl) own_d_code_86 ?_
  intro T13 h13 X13 W13 V13
  replace V13 : own_AL Z h13 b11 .long [(.long i3), (.long (0 : Int64)), (.long (0 : Int64)), (.long (0 : Int64))] := V13
  have F14_b1 : own_AF Z h13 b1 .long len (fun j => .long ((fun j => ([i0, i1, i2] : List Int64).getD j 0) j)) := F12_b1.other W13 (Ne.symm (Ne.symm ne_b1_b11))
  refine own_dup X13 own_d_code_87 rfl ?_
  refine own_ipush X13 own_d_code_88 ?_
  refine own_lload X13 own_d_code_89 rfl ?_
  refine own_lastore X13 V13 ga_b11 (i := 1) ⟨by decide, by decide⟩ (Nat.le_of_ble_eq_true rfl) own_d_code_91 ?_
  intro T15 h15 X15 W15 V15
  replace V15 : own_AL Z h15 b11 .long [(.long i3), (.long i3), (.long (0 : Int64)), (.long (0 : Int64))] := V15
  have F16_b1 : own_AF Z h15 b1 .long len (fun j => .long ((fun j => ([i0, i1, i2] : List Int64).getD j 0) j)) := F14_b1.other W15 (Ne.symm (Ne.symm ne_b1_b11))
  refine own_dup X15 own_d_code_92 rfl ?_
  refine own_ipush X15 own_d_code_93 ?_
  refine own_lload X15 own_d_code_94 rfl ?_
  refine own_lastore X15 V15 ga_b11 (i := 2) ⟨by decide, by decide⟩ (Nat.le_of_ble_eq_true rfl) own_d_code_96 ?_
  intro T17 h17 X17 W17 V17
  replace V17 : own_AL Z h17 b11 .long [(.long i3), (.long i3), (.long i3), (.long (0 : Int64))] := V17
  have F18_b1 : own_AF Z h17 b1 .long len (fun j => .long ((fun j => ([i0, i1, i2] : List Int64).getD j 0) j)) := F16_b1.other W17 (Ne.symm (Ne.symm ne_b1_b11))
  refine own_dup X17 own_d_code_97 rfl ?_
  refine own_ipush X17 own_d_code_98 ?_
  refine own_lload X17 own_d_code_99 rfl ?_
  refine own_lastore X17 V17 ga_b11 (i := 3) ⟨by decide, by decide⟩ (Nat.le_of_ble_eq_true rfl) own_d_code_101 ?_
  intro T19 h19 X19 W19 V19
  replace V19 : own_AL Z h19 b11 .long [(.long i3), (.long i3), (.long i3), (.long i3)] := V19
  have F20_b1 : own_AF Z h19 b1 .long len (fun j => .long ((fun j => ([i0, i1, i2] : List Int64).getD j 0) j)) := F18_b1.other W19 (Ne.symm (Ne.symm ne_b1_b11))
  refine own_astore X19 #[.val (.long i0), .second, .val (.long i1), .second, .val (.long i2), .second, .val (.long i3), .second, .val (.int i4), .val (.int i5), .val (.int (Int32.ofNat len)), .val (.ref b1), .val (.int (Int32.ofNat m0)), .val (.int (Int32.ofNat n)), .val (.int (Int32.ofNat tw)), .val (.int (Int32.ofNat k)), .val (.ref b11)] own_d_code_102 rfl ?_
  refine own_aload X19 own_d_code_104 rfl ?_
  refine own_iload X19 own_d_code_106 rfl ?_
  refine own_aload X19 own_d_code_108 rfl ?_
  refine own_iload X19 own_d_code_110 rfl ?_
  refine own_iload X19 own_d_code_112 rfl ?_
  have Vt : own_AF Z h19 b11 .long 4 (fun j => .long ((fun _ => i3) j)) := (V19.fn 4 rfl (.long 0)).to (fun j hj => by match j, hj with | 0, _ => rfl | 1, _ => rfl | 2, _ => rfl | 3, _ => rfl)
  refine own_callS X19 (y := (⟨"com/example/levelweave/levelweave/cli/WordBits", "copy", "([JI[JII)V"⟩ : MethodName)) [(.ref b1), (.int (Int32.ofNat m0)), (.ref b11), (.int (Int32.ofNat tw)), (.int (Int32.ofNat n))] [] 0 rfl (hw _ (List.mem_of_getElem? (i := 1) rfl)) (hw _ (List.mem_of_getElem? (i := 2) rfl)) (hw _ (List.mem_of_getElem? (i := 3) rfl)) (hw _ (List.mem_of_getElem? (i := 4) rfl)) (by decide) (own_copy l Z a0 hw b11 b1 (Int32.ofNat m0) (Int32.ofNat tw) n (m0 / 64) (m0 % 64) tw len (fun _ => i3) (fun j => ([i0, i1, i2] : List Int64).getD j 0) h19 n0 X19.sz hn4 hlen ti_ (by omega) (by omega) hdv.1 hdv.2 (Ne.symm ne_b1_b11) Vt F20_b1 ga_b11) own_d_code_114 own_pd___JI_JII_V rfl rfl (by show 2 * 0 + _ ≤ _; exact Nat.le_of_eq rfl) (by decide) (by decide) (by decide) (by decide) ?_
  intro T21 h21 v21 X21 P21
  obtain ⟨rfl, Kc, Ut⟩ := P21
  show own_Wins p e below A T21 (mkF m 117 #[.val (.long i0), .second, .val (.long i1), .second, .val (.long i2), .second, .val (.long i3), .second, .val (.int i4), .val (.int i5), .val (.int (Int32.ofNat len)), .val (.ref b1), .val (.int (Int32.ofNat m0)), .val (.int (Int32.ofNat n)), .val (.int (Int32.ofNat tw)), .val (.int (Int32.ofNat k)), .val (.ref b11)] [])
  have hA : ∀ j, ¬ (tw ≤ j ∧ j < tw + n) → (own_cps (fun _ => i3) (fun j => ([i0, i1, i2] : List Int64).getD j 0) len tw (m0 / 64) ((Int32.ofNat m0) % (64 : Int32)) n) j = i3 := fun j q => by rw [own_cps_at, if_neg q]
  have hB : ∀ j, tw ≤ j → j < tw + n → (own_Lushr ((own_cps (fun _ => i3) (fun j => ([i0, i1, i2] : List Int64).getD j 0) len tw (m0 / 64) ((Int32.ofNat m0) % (64 : Int32)) n) j) (Int32.ofNat k)) &&& (1 : Int64) = own_sb (fun j => ([i0, i1, i2] : List Int64).getD j 0) len (m0 + 64 * (j - tw) + k) := fun j q1 q2 => by
    rw [own_cps_at, if_pos ⟨q1, q2⟩, own_word (fun j => ([i0, i1, i2] : List Int64).getD j 0) len (m0 / 64) (m0 % 64) k _ (Int32.ofNat k) hdv.2 (by omega) kk_ hk64]
    congr 1; omega
  refine own_aload X21 own_d_code_117 rfl ?_
  refine own_ipush X21 own_d_code_119 ?_
  refine own_iload X21 own_d_code_120 rfl ?_
  refine own_iload X21 own_d_code_122 rfl ?_
  refine own_lload X21 own_d_code_124 rfl ?_
  refine own_iload X21 own_d_code_126 rfl ?_
  refine own_lload X21 own_d_code_128 rfl ?_
  refine own_lload X21 own_d_code_129 rfl ?_
  refine own_lload X21 own_d_code_130 rfl ?_
  refine own_iload X21 own_d_code_132 rfl ?_
  refine own_iload X21 own_d_code_134 rfl ?_
  refine own_callS X21 (y := (⟨"com/example/levelweave/levelweave/cli/WordBitsCopyPinLaw", "check", "([JIIIJIJJJII)Z"⟩ : MethodName)) [(.ref b11), (.int (0 : Int32)), (.int (Int32.ofNat tw)), (.int (Int32.ofNat n)), (.long i3), (.int (Int32.ofNat k)), (.long i0), (.long i1), (.long i2), (.int (Int32.ofNat len)), (.int (Int32.ofNat m0))] [] 0 rfl (hw _ (List.mem_of_getElem? (i := 5) rfl)) (hw _ (List.mem_of_getElem? (i := 6) rfl)) (hw _ (List.mem_of_getElem? (i := 7) rfl)) (hw _ (List.mem_of_getElem? (i := 8) rfl)) (by decide) (own_check l Z a0 hw b11 (0 : Int32) (Int32.ofNat tw) n tw 0 k len m0 i3 i0 i1 i2 (Int32.ofNat k) (Int32.ofNat m0) (own_cps (fun _ => i3) (fun j => ([i0, i1, i2] : List Int64).getD j 0) len tw (m0 / 64) ((Int32.ofNat m0) % (64 : Int32)) n) h21 n0 X21.sz hn4 hlen ⟨by decide, by decide⟩ (by decide) ti_ (by omega) kk_ hk64 nf_ hm0 Ut (hA 0) (hB 0)) own_d_code_136 own_pd___JIIIJIJJJII_Z rfl rfl (by show 2 * 0 + _ ≤ _; exact Nat.le_of_eq rfl) (by decide) (by decide) (by decide) (by decide) ?_
  intro T22 h22 v22 X22 P22
  obtain ⟨rfl, eh22⟩ := P22
  rw [eh22] at X22
  show own_Wins p e below A T22 (mkF m 139 #[.val (.long i0), .second, .val (.long i1), .second, .val (.long i2), .second, .val (.long i3), .second, .val (.int i4), .val (.int i5), .val (.int (Int32.ofNat len)), .val (.ref b1), .val (.int (Int32.ofNat m0)), .val (.int (Int32.ofNat n)), .val (.int (Int32.ofNat tw)), .val (.int (Int32.ofNat k)), .val (.ref b11)] [(.int (1 : Int32))])
  refine own_ifNo X22 own_d_code_139 ((if0 _ _).trans (feq (by decide)).1) ?_
  refine own_aload X22 own_d_code_142 rfl ?_
  refine own_ipush X22 own_d_code_144 ?_
  refine own_iload X22 own_d_code_145 rfl ?_
  refine own_iload X22 own_d_code_147 rfl ?_
  refine own_lload X22 own_d_code_149 rfl ?_
  refine own_iload X22 own_d_code_151 rfl ?_
  refine own_lload X22 own_d_code_153 rfl ?_
  refine own_lload X22 own_d_code_154 rfl ?_
  refine own_lload X22 own_d_code_155 rfl ?_
  refine own_iload X22 own_d_code_157 rfl ?_
  refine own_iload X22 own_d_code_159 rfl ?_
  refine own_callS X22 (y := (⟨"com/example/levelweave/levelweave/cli/WordBitsCopyPinLaw", "check", "([JIIIJIJJJII)Z"⟩ : MethodName)) [(.ref b11), (.int (1 : Int32)), (.int (Int32.ofNat tw)), (.int (Int32.ofNat n)), (.long i3), (.int (Int32.ofNat k)), (.long i0), (.long i1), (.long i2), (.int (Int32.ofNat len)), (.int (Int32.ofNat m0))] [] 0 rfl (hw _ (List.mem_of_getElem? (i := 5) rfl)) (hw _ (List.mem_of_getElem? (i := 6) rfl)) (hw _ (List.mem_of_getElem? (i := 7) rfl)) (hw _ (List.mem_of_getElem? (i := 8) rfl)) (by decide) (own_check l Z a0 hw b11 (1 : Int32) (Int32.ofNat tw) n tw 1 k len m0 i3 i0 i1 i2 (Int32.ofNat k) (Int32.ofNat m0) (own_cps (fun _ => i3) (fun j => ([i0, i1, i2] : List Int64).getD j 0) len tw (m0 / 64) ((Int32.ofNat m0) % (64 : Int32)) n) h21 n0 X22.sz hn4 hlen ⟨by decide, by decide⟩ (by decide) ti_ (by omega) kk_ hk64 nf_ hm0 Ut (hA 1) (hB 1)) own_d_code_161 own_pd___JIIIJIJJJII_Z rfl rfl (by show 2 * 0 + _ ≤ _; exact Nat.le_of_eq rfl) (by decide) (by decide) (by decide) (by decide) ?_
  intro T23 h23 v23 X23 P23
  obtain ⟨rfl, eh23⟩ := P23
  rw [eh23] at X23
  show own_Wins p e below A T23 (mkF m 164 #[.val (.long i0), .second, .val (.long i1), .second, .val (.long i2), .second, .val (.long i3), .second, .val (.int i4), .val (.int i5), .val (.int (Int32.ofNat len)), .val (.ref b1), .val (.int (Int32.ofNat m0)), .val (.int (Int32.ofNat n)), .val (.int (Int32.ofNat tw)), .val (.int (Int32.ofNat k)), .val (.ref b11)] [(.int (1 : Int32))])
  refine own_ifNo X23 own_d_code_164 ((if0 _ _).trans (feq (by decide)).1) ?_
  refine own_aload X23 own_d_code_167 rfl ?_
  refine own_ipush X23 own_d_code_169 ?_
  refine own_iload X23 own_d_code_170 rfl ?_
  refine own_iload X23 own_d_code_172 rfl ?_
  refine own_lload X23 own_d_code_174 rfl ?_
  refine own_iload X23 own_d_code_176 rfl ?_
  refine own_lload X23 own_d_code_178 rfl ?_
  refine own_lload X23 own_d_code_179 rfl ?_
  refine own_lload X23 own_d_code_180 rfl ?_
  refine own_iload X23 own_d_code_182 rfl ?_
  refine own_iload X23 own_d_code_184 rfl ?_
  refine own_callS X23 (y := (⟨"com/example/levelweave/levelweave/cli/WordBitsCopyPinLaw", "check", "([JIIIJIJJJII)Z"⟩ : MethodName)) [(.ref b11), (.int (2 : Int32)), (.int (Int32.ofNat tw)), (.int (Int32.ofNat n)), (.long i3), (.int (Int32.ofNat k)), (.long i0), (.long i1), (.long i2), (.int (Int32.ofNat len)), (.int (Int32.ofNat m0))] [] 0 rfl (hw _ (List.mem_of_getElem? (i := 5) rfl)) (hw _ (List.mem_of_getElem? (i := 6) rfl)) (hw _ (List.mem_of_getElem? (i := 7) rfl)) (hw _ (List.mem_of_getElem? (i := 8) rfl)) (by decide) (own_check l Z a0 hw b11 (2 : Int32) (Int32.ofNat tw) n tw 2 k len m0 i3 i0 i1 i2 (Int32.ofNat k) (Int32.ofNat m0) (own_cps (fun _ => i3) (fun j => ([i0, i1, i2] : List Int64).getD j 0) len tw (m0 / 64) ((Int32.ofNat m0) % (64 : Int32)) n) h21 n0 X23.sz hn4 hlen ⟨by decide, by decide⟩ (by decide) ti_ (by omega) kk_ hk64 nf_ hm0 Ut (hA 2) (hB 2)) own_d_code_186 own_pd___JIIIJIJJJII_Z rfl rfl (by show 2 * 0 + _ ≤ _; exact Nat.le_of_eq rfl) (by decide) (by decide) (by decide) (by decide) ?_
  intro T24 h24 v24 X24 P24
  obtain ⟨rfl, eh24⟩ := P24
  rw [eh24] at X24
  show own_Wins p e below A T24 (mkF m 189 #[.val (.long i0), .second, .val (.long i1), .second, .val (.long i2), .second, .val (.long i3), .second, .val (.int i4), .val (.int i5), .val (.int (Int32.ofNat len)), .val (.ref b1), .val (.int (Int32.ofNat m0)), .val (.int (Int32.ofNat n)), .val (.int (Int32.ofNat tw)), .val (.int (Int32.ofNat k)), .val (.ref b11)] [(.int (1 : Int32))])
  refine own_ifNo X24 own_d_code_189 ((if0 _ _).trans (feq (by decide)).1) ?_
  refine own_aload X24 own_d_code_192 rfl ?_
  refine own_ipush X24 own_d_code_194 ?_
  refine own_iload X24 own_d_code_195 rfl ?_
  refine own_iload X24 own_d_code_197 rfl ?_
  refine own_lload X24 own_d_code_199 rfl ?_
  refine own_iload X24 own_d_code_201 rfl ?_
  refine own_lload X24 own_d_code_203 rfl ?_
  refine own_lload X24 own_d_code_204 rfl ?_
  refine own_lload X24 own_d_code_205 rfl ?_
  refine own_iload X24 own_d_code_207 rfl ?_
  refine own_iload X24 own_d_code_209 rfl ?_
  refine own_callS X24 (y := (⟨"com/example/levelweave/levelweave/cli/WordBitsCopyPinLaw", "check", "([JIIIJIJJJII)Z"⟩ : MethodName)) [(.ref b11), (.int (3 : Int32)), (.int (Int32.ofNat tw)), (.int (Int32.ofNat n)), (.long i3), (.int (Int32.ofNat k)), (.long i0), (.long i1), (.long i2), (.int (Int32.ofNat len)), (.int (Int32.ofNat m0))] [] 0 rfl (hw _ (List.mem_of_getElem? (i := 5) rfl)) (hw _ (List.mem_of_getElem? (i := 6) rfl)) (hw _ (List.mem_of_getElem? (i := 7) rfl)) (hw _ (List.mem_of_getElem? (i := 8) rfl)) (by decide) (own_check l Z a0 hw b11 (3 : Int32) (Int32.ofNat tw) n tw 3 k len m0 i3 i0 i1 i2 (Int32.ofNat k) (Int32.ofNat m0) (own_cps (fun _ => i3) (fun j => ([i0, i1, i2] : List Int64).getD j 0) len tw (m0 / 64) ((Int32.ofNat m0) % (64 : Int32)) n) h21 n0 X24.sz hn4 hlen ⟨by decide, by decide⟩ (by decide) ti_ (by omega) kk_ hk64 nf_ hm0 Ut (hA 3) (hB 3)) own_d_code_211 own_pd___JIIIJIJJJII_Z rfl rfl (by show 2 * 0 + _ ≤ _; exact Nat.le_of_eq rfl) (by decide) (by decide) (by decide) (by decide) ?_
  intro T25 h25 v25 X25 P25
  obtain ⟨rfl, eh25⟩ := P25
  rw [eh25] at X25
  show own_Wins p e below A T25 (mkF m 214 #[.val (.long i0), .second, .val (.long i1), .second, .val (.long i2), .second, .val (.long i3), .second, .val (.int i4), .val (.int i5), .val (.int (Int32.ofNat len)), .val (.ref b1), .val (.int (Int32.ofNat m0)), .val (.int (Int32.ofNat n)), .val (.int (Int32.ofNat tw)), .val (.int (Int32.ofNat k)), .val (.ref b11)] [(.int (1 : Int32))])
  refine own_ifNo X25 own_d_code_214 ((if0 _ _).trans (feq (by decide)).1) ?_
  refine own_ipush X25 own_d_code_217 ?_
  refine own_goto X25 own_d_code_218 ?_
  exact own_retZ X25 hret rfl fin (by decide) (by decide) rfl own_d_code_222
set_option maxRecDepth 65536 in
set_option maxHeartbeats 40000000 in
theorem own_comes {Post : Tables → Env → Array Value → State → Outcome → State → Prop} (hpost : ∀ tb e args s v u, (limb_1_1.after args s (.returned v) u = true ∧ limb_1_2.after args s (.returned v) u = true) → FrameEnd s (.returned v) u (Jvm.fieldLocs frame_1_writes args s ++ Jvm.arrayLocs frame_1_arrays args s ++ Jvm.staticLocs frame_1_statics s) 16 128 → Post tb e args s (.returned v) u) :
    ArmFor flags0 classFile x code maxLocals ret World_1 tables_1 room_1 Calls_1 rest_1 Pre_1 Post := by
  intro l hfl _ _ p e ha hc hk s m args below hf hA hF happ hP
  obtain ⟨hcalls, hrest, hpre⟩ := hP
  obtain ⟨-, -, -, hnamed, -, -, -, hat⟩ := (Spec.applies_iff hf).mp happ
  obtain ⟨hg, hn⟩ := and_e (Cond.before_iff.mp (show (Jvm.Cond.and given_1 narrow_1).before args s = true from hpre))
  obtain ⟨gc, g0⟩ := and_e hg
  obtain ⟨q0, g1⟩ := and_e g0
  obtain ⟨q1, g2⟩ := and_e g1
  obtain ⟨q2, g3⟩ := and_e g2
  obtain ⟨q3, g4⟩ := and_e g3
  obtain ⟨q4, g5⟩ := and_e g4
  obtain ⟨w0, w1, w2, w3, w4, w5, rfl⟩ : ∃ w0 w1 w2 w3 w4 w5 : Value, args = #[w0, w1, w2, w3, w4, w5] := by
    have hs : args.size = 6 := by simpa [Cond.value, given_1] using gc
    obtain ⟨L⟩ := args
    match L, hs with
    | [w0, w1, w2, w3, w4, w5], _ => exact ⟨w0, w1, w2, w3, w4, w5, rfl⟩
  have hw := fun d (hd : d ∈ tables_1) => atoms_spec (ws := Jvm.Cond.code x code maxLocals ret :: tables_1) hat d (List.mem_cons_of_mem _ hd)
  obtain ⟨i0, ei0⟩ := isL_v q0
  obtain rfl : w0 = (.long i0) := Option.some.inj ei0
  obtain ⟨i1, ei1⟩ := isL_v q1
  obtain rfl : w1 = (.long i1) := Option.some.inj ei1
  obtain ⟨i2, ei2⟩ := isL_v q2
  obtain rfl : w2 = (.long i2) := Option.some.inj ei2
  obtain ⟨i3, ei3⟩ := isL_v q3
  obtain rfl : w3 = (.long i3) := Option.some.inj ei3
  obtain ⟨i4, ei4⟩ := is_v q4
  obtain rfl : w4 = (.int i4) := Option.some.inj ei4
  obtain ⟨i5, ei5⟩ := is_v g5
  obtain rfl : w5 = (.int i5) := Option.some.inj ei5
  obtain ⟨n, o, h1, h2, h3, _, L, rfl, ⟨N, -, rfl⟩, hq⟩ := own_law l s _ hw i0 i1 i2 i3 i4 i5 s.heap s.heap.size (Nat.le_refl _) p e ha hc hk s m _ below hf ((Spec.applies_iff_loose hf).mp happ).1 ⟨rfl, State.Warmed39.refl s, rfl⟩ trivial
  refine ⟨n, _, h1, h2, h3, hpost _ _ _ _ _ _ ⟨Cond.after_iff.mpr rfl, Cond.after_iff.mpr (eq_i res_at (Term.int_eval (1)) rfl)⟩ ⟨hq.1, hq.2.1, (hq.2.2.sift fun y hy => Or.inr (N y hy)).mono (by decide) (by decide)⟩⟩
theorem main_1_1 : Claimed_1_1 := own_comes fun _ _ _ _ _ _ h hF => ⟨h.1, hF⟩
theorem main_1_2 : Claimed_1_2 := own_comes fun _ _ _ _ _ _ h hF => ⟨h.2, hF⟩
end Jvm.Pilot.@@N@@
namespace Jvm.Pilot.@@N@@
open Jvm Jvm.ClassFile Sem Op Lib Jvm.Free Jvm.Stand Jvm.Pilot.@@N@@.Jvm.D
/-! MADE BY PROGRAM (witnessworld.py) out of the Statement's table words and the real class files: 11 classes; the members and pool entries that the words name. The judged class is class 1, her method 1. -/
namespace start1
open Jvm.ClassFile
def u (s : String) : CpInfo := .utf8 (stringToUtf16 s)
/-- a pool by its gaps: so many unusable entries, then the entry; so many at the end -/
def gap : Nat → List CpInfo → List CpInfo
  | 0, r => r
  | n + 1, r => .unusable :: gap n r
def poolList (es : List (Nat × CpInfo)) (last : Nat) : List CpInfo := es.foldr (fun e r => gap e.1 (e.2 :: r)) (gap last [])
def pool (es : List (Nat × CpInfo)) (last : Nat) : Array CpInfo := ⟨poolList es last⟩
def fileOf (pool : Array CpInfo) (this : Nat) (attrs : Array Attribute := #[]) (ms : Array MethodInfo := #[]) (fl : Nat := 33) (sup : Nat := 0) (ifs : Array Nat := #[]) (fds : Array FieldInfo := #[]) : ClassFile where
  minorVersion := 0
  majorVersion := 65
  constantPool := pool
  accessFlags := fl
  thisClass := this
  superClass := sup
  interfaces := ifs
  fields := fds
  methods := ms
  attributes := attrs
def plain (name : String) (sup : Option ClassId) : Class where
  name := name
  kind := .ordinary
  loader := none
  accessFlags := 33
  super := sup
  interfaces := #[]
  cf := none
  fields := #[]
  methods := #[]
  instanceTypes := #[]
  staticTypes := #[]
  resolved := #[]
  callSites := []
  init := .initialized
  statics := none
  mirror := none

def pool0 : Array CpInfo := pool [(5, u "<init>"), (0, u "()V"), (1, .class_ 10), (1, u "java/lang/Object")] 113

def k0m0 : Method := { name := "<init>", desc := "()V", sig := { parameters := [], returnType := none }, accessFlags := 1, code := none }
/-- java/lang/Object -/
def k0 : Class := { plain "java/lang/Object" none with
  accessFlags := 33
  interfaces := #[]
  cf := some (fileOf pool0 8 #[] #[{ accessFlags := 1, nameIndex := 5, descriptorIndex := 6, attributes := #[] }] 33 0 #[] #[])
  fields := #[]
  methods := #[k0m0]
  instanceTypes := #[]
  staticTypes := #[]
  resolved := Array.replicate 124 none
  statics := none }

def pool1 : Array CpInfo := pool [(2, .class_ 4), (1, u "java/lang/Object"), (0, u "<init>"), (0, u "()V"), (0, .methodref 8 9), (0, .class_ 10), (0, .nameAndType 11 12), (0, u "com/example/levelweave/levelweave/cli/WordBits"), (0, u "copy"), (0, u "([JI[JII)V"), (0, .methodref 14 15), (0, .class_ 16), (0, .nameAndType 17 18), (0, u "com/example/levelweave/levelweave/cli/WordBitsCopyPinLaw"), (0, u "check"), (0, u "([JIIIJIJJJII)Z"), (0, .methodref 14 20), (0, .nameAndType 21 22), (0, u "srcBit"), (0, u "(JJJII)J"), (2, u "law"), (0, u "(JJJJII)Z")] 5

def k1m0 : Method := { name := "<init>", desc := "()V", sig := { parameters := [], returnType := none }, accessFlags := 2, code := none }
def k1c1 : Code := { maxStack := 15, maxLocals := 17, code := code, exceptionTable := #[], attributes := #[] }
def k1m1 : Method := { name := "law", desc := "(JJJJII)Z", sig := { parameters := [.long, .long, .long, .long, .int, .int], returnType := some .boolean }, accessFlags := 9, code := some k1c1 }
def k1c2 : Code := { maxStack := 12, maxLocals := 18, code := method_3_code, exceptionTable := #[], attributes := #[] }
def k1m2 : Method := { name := "check", desc := "([JIIIJIJJJII)Z", sig := { parameters := [(.array .long), .int, .int, .int, .long, .int, .long, .long, .long, .int, .int], returnType := some .boolean }, accessFlags := 10, code := some k1c2 }
def k1c3 : Code := { maxStack := 4, maxLocals := 11, code := method_4_code, exceptionTable := #[], attributes := #[] }
def k1m3 : Method := { name := "srcBit", desc := "(JJJII)J", sig := { parameters := [.long, .long, .long, .int, .int], returnType := some .long }, accessFlags := 10, code := some k1c3 }
/-- com/example/levelweave/levelweave/cli/WordBitsCopyPinLaw -/
def k1 : Class := { plain "com/example/levelweave/levelweave/cli/WordBitsCopyPinLaw" (some 0) with
  accessFlags := 49
  interfaces := #[]
  cf := some (fileOf pool1 14 #[] #[{ accessFlags := 2, nameIndex := 5, descriptorIndex := 6, attributes := #[] }, { accessFlags := 9, nameIndex := 25, descriptorIndex := 26, attributes := #[] }, { accessFlags := 10, nameIndex := 17, descriptorIndex := 18, attributes := #[] }, { accessFlags := 10, nameIndex := 21, descriptorIndex := 22, attributes := #[] }] 49 2 #[] #[])
  fields := #[]
  methods := #[k1m0, k1m1, k1m2, k1m3]
  instanceTypes := #[]
  staticTypes := #[]
  resolved := Array.replicate 32 none
  statics := none }

def pool2 : Array CpInfo := pool [(2, .class_ 4), (1, u "java/lang/Object"), (0, u "<init>"), (0, u "()V"), (3, .class_ 12), (1, u "com/example/levelweave/levelweave/cli/WordBits"), (30, u "([JI[JII)V"), (0, u "copy")] 2

def k2m0 : Method := { name := "<init>", desc := "()V", sig := { parameters := [], returnType := none }, accessFlags := 2, code := none }
def k2c1 : Code := { maxStack := 6, maxLocals := 12, code := prog_37_method_9_code, exceptionTable := #[], attributes := #[] }
def k2m1 : Method := { name := "copy", desc := "([JI[JII)V", sig := { parameters := [(.array .long), .int, (.array .long), .int, .int], returnType := none }, accessFlags := 8, code := some k2c1 }
/-- com/example/levelweave/levelweave/cli/WordBits -/
def k2 : Class := { plain "com/example/levelweave/levelweave/cli/WordBits" (some 0) with
  accessFlags := 48
  interfaces := #[]
  cf := some (fileOf pool2 10 #[] #[{ accessFlags := 2, nameIndex := 5, descriptorIndex := 6, attributes := #[] }, { accessFlags := 8, nameIndex := 44, descriptorIndex := 43, attributes := #[] }] 48 2 #[] #[])
  fields := #[]
  methods := #[k2m0, k2m1]
  instanceTypes := #[]
  staticTypes := #[]
  resolved := Array.replicate 47 none
  statics := none }

def pool3 : Array CpInfo := pool [(1, u "java/lang/Cloneable"), (0, .class_ 1), (0, u "java/lang/Object"), (0, .class_ 3)] 3

/-- java/lang/Cloneable -/
def k3 : Class := { plain "java/lang/Cloneable" (some 0) with
  accessFlags := 1537
  interfaces := #[]
  cf := some (fileOf pool3 2 #[] #[] 1537 4 #[] #[])
  fields := #[]
  methods := #[]
  instanceTypes := #[]
  staticTypes := #[]
  resolved := Array.replicate 8 none
  statics := none }

def pool4 : Array CpInfo := pool [(1, u "java/io/Serializable"), (0, .class_ 1), (0, u "java/lang/Object"), (0, .class_ 3)] 3

/-- java/io/Serializable -/
def k4 : Class := { plain "java/io/Serializable" (some 0) with
  accessFlags := 1537
  interfaces := #[]
  cf := some (fileOf pool4 2 #[] #[] 1537 4 #[] #[])
  fields := #[]
  methods := #[]
  instanceTypes := #[]
  staticTypes := #[]
  resolved := Array.replicate 8 none
  statics := none }

/-- the primitive byte -/
def k5 : Class := { plain "byte" none with kind := .primitive 'B', accessFlags := 0x411 }
/-- [B -/
def k6 : Class := { plain "[B" (some 0) with kind := .array 5 .byte, interfaces := #[3, 4], accessFlags := 1041 }

/-- the primitive int -/
def k7 : Class := { plain "int" none with kind := .primitive 'I', accessFlags := 0x411 }
/-- [I -/
def k8 : Class := { plain "[I" (some 0) with kind := .array 7 .int, interfaces := #[3, 4], accessFlags := 1041 }

/-- the primitive long -/
def k9 : Class := { plain "long" none with kind := .primitive 'J', accessFlags := 0x411 }
/-- [J -/
def k10 : Class := { plain "[J" (some 0) with kind := .array 9 .long, interfaces := #[3, 4], accessFlags := 1041 }

def heap : Heap := #[]
def classes : Array Class := #[k0, k1, k2, k3, k4, k5, k6, k7, k8, k9, k10]
def interned : List (Array UInt16 × Addr) := []
def slotsUsed : Nat := 0
def theMethod : MethodId := ⟨1, 1⟩
def args0 : Array Value := #[.long 5, .long 6, .long 7, .long 8, .int 9, .int 10]
def aboutOver (below : List Frame) : State where
  vm := { classes := classes, interned := interned.toArray }
  heap := heap
  slotsUsed := slotsUsed
  threads := #[{ frames := .invoking theMethod args0 :: below }]
def below0 : List Frame := [.native { method := ⟨0, 0⟩, args := #[] }]
def about1 : State := aboutOver below0
def p0 : Program := .bare "" "" ""
def e0 : Env := launch0.env 0 0 0
theorem w_frames : about1.frames = Frame.invoking theMethod args0 :: below0 := rfl
set_option maxRecDepth 65536 in
theorem w_args : argsFit about1.vm theMethod args0 = true := by decide +kernel
set_option maxRecDepth 65536 in
theorem w_heap : heapFits about1 = true := by decide +kernel
set_option maxRecDepth 65536 in
theorem w_runnable : about1.curStatus? = some .runnable := by decide +kernel
set_option maxRecDepth 65536 in
theorem w_alone : about1.alone = true := by decide +kernel
set_option maxRecDepth 65536 in
theorem w_named : about1.methodNamed? x = some theMethod := by decide +kernel
set_option maxRecDepth 65536 in
theorem w_hears : about1.hears theMethod below0 = true := by decide +kernel
set_option maxRecDepth 65536 in
theorem w_ripe : about1.ripe theMethod args0 below0 = true := by decide +kernel
theorem w_running : about1.status = .running := rfl
set_option maxRecDepth 65536 in
theorem w_room : about1.hasRoom e0.platform room_1 = true :=
  launch0.hasRoom_least _ room_1 (by decide +kernel) (by decide +kernel) (by decide +kernel) (by decide +kernel) (by decide +kernel) (by decide +kernel)
theorem allAtoms_all (ts : List Jvm.Cond) (a : Array Jvm.Value) (st : Jvm.State) : (allAtoms ts).before a st = ts.all (fun c => c.before a st) := by
  induction ts with
  | nil => rfl
  | cons c t ih =>
    show (Jvm.Cond.and c (allAtoms t)).before a st = _
    rw [Jvm.Cond.before_and, ih, List.all_cons]
def words1 : List Jvm.Cond := Jvm.Cond.code x code maxLocals ret :: tables_1
/-- a 'code' word, met by the world's own term for the bytes: nothing is compared byte by byte -/
theorem code_word {y : MethodName} {bytes : ByteArray} {mx : Nat} {rt : Option FieldType} {a : Array Value} {s : State} {m : MethodId} {meth : Method} {c : Code} (h1 : s.methodNamed? y = some m) (h2 : s.vm.method? m = some meth) (h3 : meth.code = some c) (h4 : c.code = bytes)
    (h5 : (c.maxLocals == mx && c.exceptionTable.isEmpty && decide (c.maxStack ≤ mostOperands) && decide (meth.sig.returnType = rt) && !meth.locks && decide (parseMethodDescriptor y.desc = some meth.sig)) = true) : (Jvm.Cond.code y bytes mx rt).before a s = true := by
  simp only [Bool.and_eq_true, beq_iff_eq, Bool.not_eq_true', decide_eq_true_eq] at h5
  obtain ⟨⟨⟨⟨⟨g1, g2⟩, g3⟩, g4⟩, g5⟩, g6⟩ := h5
  simp [Cond.before, Cond.holds, Cond.value, h1, h2, h3, h4, g1, g2, g3, g4, g5, g6]
def isCode : Jvm.Cond → Bool
  | .code _ _ _ _ => true
  | _ => false
theorem all_split {L : List Jvm.Cond} {P : Jvm.Cond → Bool} (h1 : L.all (fun c => isCode c || P c) = true) (h2 : ∀ c ∈ L.filter isCode, P c = true) : L.all P = true := by
  refine List.all_eq_true.mpr fun c hc => ?_
  have h := List.all_eq_true.mp h1 c hc
  rcases Bool.eq_false_or_eq_true (isCode c) with hi | hi
  · exact h2 c (List.mem_filter.mpr ⟨hc, hi⟩)
  · simpa [hi] using h
set_option maxRecDepth 65536 in
theorem w_c0 : (Jvm.Cond.code x code maxLocals ret).before args0 about1 = true := code_word (m := ⟨1, 1⟩) (meth := k1m1) (c := k1c1) (by decide +kernel) rfl rfl rfl (by decide +kernel)
set_option maxRecDepth 65536 in
theorem w_c1 : (Jvm.Cond.code ({ cls := "com/example/levelweave/levelweave/cli/WordBits", name := "copy", desc := "([JI[JII)V" } : Jvm.MethodName) prog_37_method_9_code (12 : Nat) (Option.none : Option Jvm.ClassFile.FieldType)).before args0 about1 = true := code_word (m := ⟨2, 1⟩) (meth := k2m1) (c := k2c1) (by decide +kernel) rfl rfl rfl (by decide +kernel)
set_option maxRecDepth 65536 in
theorem w_c2 : (Jvm.Cond.code ({ cls := "com/example/levelweave/levelweave/cli/WordBitsCopyPinLaw", name := "check", desc := "([JIIIJIJJJII)Z" } : Jvm.MethodName) method_3_code (18 : Nat) (Option.some Jvm.ClassFile.FieldType.boolean)).before args0 about1 = true := code_word (m := ⟨1, 2⟩) (meth := k1m2) (c := k1c2) (by decide +kernel) rfl rfl rfl (by decide +kernel)
set_option maxRecDepth 65536 in
theorem w_c3 : (Jvm.Cond.code ({ cls := "com/example/levelweave/levelweave/cli/WordBitsCopyPinLaw", name := "srcBit", desc := "(JJJII)J" } : Jvm.MethodName) method_4_code (11 : Nat) (Option.some Jvm.ClassFile.FieldType.long)).before args0 about1 = true := code_word (m := ⟨1, 3⟩) (meth := k1m3) (c := k1c3) (by decide +kernel) rfl rfl rfl (by decide +kernel)
def codes1 : List Jvm.Cond := [Jvm.Cond.code x code maxLocals ret, Jvm.Cond.code ({ cls := "com/example/levelweave/levelweave/cli/WordBits", name := "copy", desc := "([JI[JII)V" } : Jvm.MethodName) prog_37_method_9_code (12 : Nat) (Option.none : Option Jvm.ClassFile.FieldType), Jvm.Cond.code ({ cls := "com/example/levelweave/levelweave/cli/WordBitsCopyPinLaw", name := "check", desc := "([JIIIJIJJJII)Z" } : Jvm.MethodName) method_3_code (18 : Nat) (Option.some Jvm.ClassFile.FieldType.boolean), Jvm.Cond.code ({ cls := "com/example/levelweave/levelweave/cli/WordBitsCopyPinLaw", name := "srcBit", desc := "(JJJII)J" } : Jvm.MethodName) method_4_code (11 : Nat) (Option.some Jvm.ClassFile.FieldType.long)]
set_option maxRecDepth 65536 in
theorem codes_eq : words1.filter isCode = codes1 := rfl
theorem w_codes : ∀ c ∈ words1.filter isCode, c.before args0 about1 = true := by
  rw [codes_eq]
  intro c hc
  simp only [codes1, List.mem_cons, List.not_mem_nil, or_false] at hc
  rcases hc with rfl | rfl | rfl | rfl
  · exact w_c0
  · exact w_c1
  · exact w_c2
  · exact w_c3
set_option maxRecDepth 65536 in
theorem w_t1 : words1.all (fun c => isCode c || c.before args0 about1) = true := by decide +kernel
theorem w_tables : (allAtoms (Jvm.Cond.code x code maxLocals ret :: tables_1)).before args0 about1 = true := by
  rw [allAtoms_all]
  show words1.all (fun c => c.before args0 about1) = true
  refine all_split ?_ w_codes
  rw [w_t1]
set_option maxRecDepth 65536 in
theorem w_case : (Jvm.Cond.and given_1 narrow_1).before args0 about1 = true := by decide +kernel
theorem w_applies : (headSpec (Jvm.Cond.code x code maxLocals ret :: tables_1) room_1).applies x e0.platform about1 = true :=
  (Spec.applies_iff w_frames).mpr ⟨w_running, w_runnable, w_alone, w_named, w_hears, w_ripe, w_room, w_tables⟩
theorem atStart : AtStart classFile x code maxLocals ret World_1 tables_1 room_1 Calls_1 rest_1 Pre_1 launch0 p0 e0 about1 theMethod args0 below0 :=
  ⟨lists_1, trivial, launch0.admits_env _ _ _, launch0.least_env, fairChoices_fair.cas, fairChoices_fair.clock, w_frames, w_args, w_heap, w_applies, trivial, trivial, w_case⟩
end start1
theorem witness_1 : WitnessClaimed_1 := ⟨start1.p0, start1.e0, start1.about1, start1.theMethod, start1.args0, start1.below0, start1.atStart⟩
end Jvm.Pilot.@@N@@
