import JvmDerived
import JvmDerived.Pilot.@@N@@Statement
import JvmDerived.Pilot.@@N@@Code
set_option linter.unusedVariables false
set_option linter.unusedSimpArgs false
namespace Jvm.Pilot.@@N@@
open Jvm Jvm.ClassFile Sem Op Lib Jvm.Free Jvm.Stand Jvm.LawKit Jvm.RoadKit Bundle Jvm.Pilot.@@N@@.Jvm.D
section OwnLayer
variable {p : Program} {l : Launch} {e : Env} {R : Room} {s : State} {m : MethodId} {args : Array Value} {below : List Frame} {meth : Method} {c : Code} {T : State} {cells slots : Nat} {Z : State} {a0 : Array Value} {h h' : Heap} {n0 : Nat} {A : State → Outcome → Prop} {bs : ByteArray} {maxL : Nat} {own : String} {pc pc' : Nat} {L L' : Array Slot} {st : List Value}
/-- the run that stands over T with the frame f comes to an end that A allows -/
def own_Wins (p : Program) (e : Env) (below : List Frame) (A : State → Outcome → Prop) (T : State) (f : JFrame) : Prop := ∃ U o, Steps p.tables e below (T.setTop f) U ∧ A U o
theorem own_by {T' : State} {f f' : JFrame} (q : ∀ target, Steps p.tables e below (T'.setTop f') target → Steps p.tables e below (T.setTop f) target) (k : own_Wins p e below A T' f') : own_Wins p e below A T f := by
  obtain ⟨U, o, h1, h2⟩ := k
  exact ⟨U, o, q _ h1, h2⟩
/-- where the walk stands: the kit's Stand, the heap, what was written is new, and what the walk knows of the body -/
def own_St (p : Program) (l : Launch) (e : Env) (R : Room) (s : State) (m : MethodId) (args : Array Value) (below : List Frame) (meth : Method) (c : Code) (Z : State) (n0 : Nat) (bs : ByteArray) (maxL : Nat) (own : String) (T : State) (h : Heap) (cells slots : Nat) : Prop :=
  ∃ locs, Stand p l e R s m args below meth c T locs cells slots ∧ T.heap = h ∧ Fr n0 locs ∧ n0 ≤ h.size ∧ p.tables.exec = Jvm.exec ∧ c.code = bs ∧ c.maxLocals = maxL ∧ s.vm.findClass own = some m.cls ∧ Z.Warmed39 s.vm ∧ meth.locks = false
theorem own_St.here (X : own_St p l e R s m args below meth c Z n0 bs maxL own T h cells slots) : At T m c below := by obtain ⟨_, Y, -⟩ := X; exact Y.here
theorem own_St.ex (X : own_St p l e R s m args below meth c Z n0 bs maxL own T h cells slots) : p.tables.exec = Jvm.exec := by obtain ⟨_, -, -, -, -, q, -⟩ := X; exact q
theorem own_St.cd (X : own_St p l e R s m args below meth c Z n0 bs maxL own T h cells slots) : c.code = bs := by obtain ⟨_, -, -, -, -, -, q, -⟩ := X; exact q
theorem own_St.ml (X : own_St p l e R s m args below meth c Z n0 bs maxL own T h cells slots) : c.maxLocals = maxL := by obtain ⟨_, -, -, -, -, -, -, q, -⟩ := X; exact q
theorem own_St.sz (X : own_St p l e R s m args below meth c Z n0 bs maxL own T h cells slots) : n0 ≤ h.size := by obtain ⟨_, -, -, -, q, -⟩ := X; exact q
theorem own_St.wz (X : own_St p l e R s m args below meth c Z n0 bs maxL own T h cells slots) : Z.Warmed39 s.vm := by obtain ⟨_, -, -, -, -, -, -, -, -, q, -⟩ := X; exact q
theorem own_St.more (X : own_St p l e R s m args below meth c Z n0 bs maxL own T h cells slots) {cells' slots' : Nat} (hc : cells ≤ cells') (hs : slots ≤ slots') : own_St p l e R s m args below meth c Z n0 bs maxL own T h cells' slots' := by
  obtain ⟨locs, Y, r⟩ := X
  exact ⟨locs, Y.more hc hs, r⟩
/-- an instruction, with the pc behind it -/
def own_ix (bs : ByteArray) (pc : Nat) (i : Instr) (n pc' : Nat) : Prop := decode bs pc = .ok (i, n) ∧ pc + n = pc'
def own_ik (bs : ByteArray) (pc : Nat) (v : Int32) (pc' : Nat) : Prop := ∃ i : Int, (decode bs pc = .ok (.iconst i, 1) ∧ Int32.ofInt i = v ∧ pc + 1 = pc') ∨ (decode bs pc = .ok (.bipush i, 2) ∧ (Int8.ofInt i).toInt32 = v ∧ pc + 2 = pc') ∨ (decode bs pc = .ok (.sipush i, 3) ∧ (Int16.ofInt i).toInt32 = v ∧ pc + 3 = pc')
def own_lk (bs : ByteArray) (pc : Nat) (v : Int64) (pc' : Nat) : Prop := ∃ k : Fin 2, decode bs pc = .ok (.lconst k, 1) ∧ Int64.ofNat k = v ∧ pc + 1 = pc'
def own_ii (bs : ByteArray) (pc : Nat) (k : Nat) (w : Int32) (pc' : Nat) : Prop := ∃ cst : Int, decode bs pc = .ok (.iinc k cst, 3) ∧ Int32.ofInt cst = w ∧ pc + 3 = pc'
def own_gt (bs : ByteArray) (pc tgt : Nat) : Prop := ∃ o : Int, decode bs pc = .ok (.goto o, 3) ∧ 0 ≤ (pc : Int) + o ∧ ((pc : Int) + o).toNat = tgt
def own_ifc (bs : ByteArray) (pc : Nat) (cd : ClassFile.Cond) (pc' tgt : Nat) : Prop := ∃ o : Int, decode bs pc = .ok (.ifCond cd o, 3) ∧ pc + 3 = pc' ∧ 0 ≤ (pc : Int) + o ∧ ((pc : Int) + o).toNat = tgt
def own_icm (bs : ByteArray) (pc : Nat) (cd : ClassFile.Cond) (pc' tgt : Nat) : Prop := ∃ o : Int, decode bs pc = .ok (.if_icmp cd o, 3) ∧ pc + 3 = pc' ∧ 0 ≤ (pc : Int) + o ∧ ((pc : Int) + o).toNat = tgt
def own_inl (bs : ByteArray) (pc : Nat) (pc' tgt : Nat) : Prop := ∃ o : Int, decode bs pc = .ok (.ifnull o, 3) ∧ pc + 3 = pc' ∧ 0 ≤ (pc : Int) + o ∧ ((pc : Int) + o).toNat = tgt
def own_inn (bs : ByteArray) (pc : Nat) (pc' tgt : Nat) : Prop := ∃ o : Int, decode bs pc = .ok (.ifnonnull o, 3) ∧ pc + 3 = pc' ∧ 0 ≤ (pc : Int) + o ∧ ((pc : Int) + o).toNat = tgt
def own_il (bs : ByteArray) (pc k pc' : Nat) : Prop := (∃ q : Fin 4, decode bs pc = .ok (.iload_n q, 1) ∧ q.val = k ∧ pc + 1 = pc') ∨ (decode bs pc = .ok (.iload k, 2) ∧ pc + 2 = pc')
def own_ll (bs : ByteArray) (pc k pc' : Nat) : Prop := (∃ q : Fin 4, decode bs pc = .ok (.lload_n q, 1) ∧ q.val = k ∧ pc + 1 = pc') ∨ (decode bs pc = .ok (.lload k, 2) ∧ pc + 2 = pc')
def own_al (bs : ByteArray) (pc k pc' : Nat) : Prop := (∃ q : Fin 4, decode bs pc = .ok (.aload_n q, 1) ∧ q.val = k ∧ pc + 1 = pc') ∨ (decode bs pc = .ok (.aload k, 2) ∧ pc + 2 = pc')
def own_si (bs : ByteArray) (pc k pc' : Nat) : Prop := (∃ q : Fin 4, decode bs pc = .ok (.istore_n q, 1) ∧ q.val = k ∧ pc + 1 = pc') ∨ (decode bs pc = .ok (.istore k, 2) ∧ pc + 2 = pc')
def own_sl (bs : ByteArray) (pc k pc' : Nat) : Prop := (∃ q : Fin 4, decode bs pc = .ok (.lstore_n q, 1) ∧ q.val = k ∧ pc + 1 = pc') ∨ (decode bs pc = .ok (.lstore k, 2) ∧ pc + 2 = pc')
def own_sa (bs : ByteArray) (pc k pc' : Nat) : Prop := (∃ q : Fin 4, decode bs pc = .ok (.astore_n q, 1) ∧ q.val = k ∧ pc + 1 = pc') ∨ (decode bs pc = .ok (.astore k, 2) ∧ pc + 2 = pc')
def own_Lshl (x : Int64) (q : Int32) : Int64 := x <<< (q &&& 0x3f).toInt64
def own_Lshr (x : Int64) (q : Int32) : Int64 := x >>> (q &&& 0x3f).toInt64
def own_Lushr (x : Int64) (q : Int32) : Int64 := (x.toUInt64 >>> (q &&& 0x3f).toInt64.toUInt64).toInt64
def own_Ishl (x q : Int32) : Int32 := x <<< (q &&& 31)
def own_Ishr (x q : Int32) : Int32 := x >>> (q &&& 31)
def own_Iushr (x q : Int32) : Int32 := (x.toUInt32 >>> (q &&& 31).toUInt32).toInt32
theorem own_iadd (X : own_St p l e R s m args below meth c Z n0 bs maxL own T h cells slots) {x y : Int32} (d : own_ix bs pc .iadd 1 pc')  (k : own_Wins p e below A T (mkF m pc' L (.int (x + y) :: st))) : own_Wins p e below A T (mkF m pc L (.int y :: .int x :: st)) := by
  obtain ⟨d, rfl⟩ := d
  exact own_by (fun _ q => XS.iadd X.here X.ex rfl (hb X.cd d) rfl q) k
theorem own_isub (X : own_St p l e R s m args below meth c Z n0 bs maxL own T h cells slots) {x y : Int32} (d : own_ix bs pc .isub 1 pc')  (k : own_Wins p e below A T (mkF m pc' L (.int (x - y) :: st))) : own_Wins p e below A T (mkF m pc L (.int y :: .int x :: st)) := by
  obtain ⟨d, rfl⟩ := d
  exact own_by (fun _ q => XS.isub X.here X.ex rfl (hb X.cd d) rfl q) k
theorem own_imul (X : own_St p l e R s m args below meth c Z n0 bs maxL own T h cells slots) {x y : Int32} (d : own_ix bs pc .imul 1 pc')  (k : own_Wins p e below A T (mkF m pc' L (.int (x * y) :: st))) : own_Wins p e below A T (mkF m pc L (.int y :: .int x :: st)) := by
  obtain ⟨d, rfl⟩ := d
  exact own_by (fun _ q => XS.imul X.here X.ex rfl (hb X.cd d) rfl q) k
theorem own_iand (X : own_St p l e R s m args below meth c Z n0 bs maxL own T h cells slots) {x y : Int32} (d : own_ix bs pc .iand 1 pc')  (k : own_Wins p e below A T (mkF m pc' L (.int (x &&& y) :: st))) : own_Wins p e below A T (mkF m pc L (.int y :: .int x :: st)) := by
  obtain ⟨d, rfl⟩ := d
  exact own_by (fun _ q => XS.iand X.here X.ex rfl (hb X.cd d) rfl q) k
theorem own_ior (X : own_St p l e R s m args below meth c Z n0 bs maxL own T h cells slots) {x y : Int32} (d : own_ix bs pc .ior 1 pc')  (k : own_Wins p e below A T (mkF m pc' L (.int (x ||| y) :: st))) : own_Wins p e below A T (mkF m pc L (.int y :: .int x :: st)) := by
  obtain ⟨d, rfl⟩ := d
  exact own_by (fun _ q => XS.ior X.here X.ex rfl (hb X.cd d) rfl q) k
theorem own_ixor (X : own_St p l e R s m args below meth c Z n0 bs maxL own T h cells slots) {x y : Int32} (d : own_ix bs pc .ixor 1 pc')  (k : own_Wins p e below A T (mkF m pc' L (.int (x ^^^ y) :: st))) : own_Wins p e below A T (mkF m pc L (.int y :: .int x :: st)) := by
  obtain ⟨d, rfl⟩ := d
  exact own_by (fun _ q => XS.ixor X.here X.ex rfl (hb X.cd d) rfl q) k
theorem own_ladd (X : own_St p l e R s m args below meth c Z n0 bs maxL own T h cells slots) {x y : Int64} (d : own_ix bs pc .ladd 1 pc')  (k : own_Wins p e below A T (mkF m pc' L (.long (x + y) :: st))) : own_Wins p e below A T (mkF m pc L (.long y :: .long x :: st)) := by
  obtain ⟨d, rfl⟩ := d
  exact own_by (fun _ q => XS.ladd X.here X.ex rfl (hb X.cd d) rfl q) k
theorem own_lsub (X : own_St p l e R s m args below meth c Z n0 bs maxL own T h cells slots) {x y : Int64} (d : own_ix bs pc .lsub 1 pc')  (k : own_Wins p e below A T (mkF m pc' L (.long (x - y) :: st))) : own_Wins p e below A T (mkF m pc L (.long y :: .long x :: st)) := by
  obtain ⟨d, rfl⟩ := d
  exact own_by (fun _ q => XS.lsub X.here X.ex rfl (hb X.cd d) rfl q) k
theorem own_lmul (X : own_St p l e R s m args below meth c Z n0 bs maxL own T h cells slots) {x y : Int64} (d : own_ix bs pc .lmul 1 pc')  (k : own_Wins p e below A T (mkF m pc' L (.long (x * y) :: st))) : own_Wins p e below A T (mkF m pc L (.long y :: .long x :: st)) := by
  obtain ⟨d, rfl⟩ := d
  exact own_by (fun _ q => XS.lmul X.here X.ex rfl (hb X.cd d) rfl q) k
theorem own_land (X : own_St p l e R s m args below meth c Z n0 bs maxL own T h cells slots) {x y : Int64} (d : own_ix bs pc .land 1 pc')  (k : own_Wins p e below A T (mkF m pc' L (.long (x &&& y) :: st))) : own_Wins p e below A T (mkF m pc L (.long y :: .long x :: st)) := by
  obtain ⟨d, rfl⟩ := d
  exact own_by (fun _ q => XS.land X.here X.ex rfl (hb X.cd d) rfl q) k
theorem own_lor (X : own_St p l e R s m args below meth c Z n0 bs maxL own T h cells slots) {x y : Int64} (d : own_ix bs pc .lor 1 pc')  (k : own_Wins p e below A T (mkF m pc' L (.long (x ||| y) :: st))) : own_Wins p e below A T (mkF m pc L (.long y :: .long x :: st)) := by
  obtain ⟨d, rfl⟩ := d
  exact own_by (fun _ q => XS.lor X.here X.ex rfl (hb X.cd d) rfl q) k
theorem own_lxor (X : own_St p l e R s m args below meth c Z n0 bs maxL own T h cells slots) {x y : Int64} (d : own_ix bs pc .lxor 1 pc')  (k : own_Wins p e below A T (mkF m pc' L (.long (x ^^^ y) :: st))) : own_Wins p e below A T (mkF m pc L (.long y :: .long x :: st)) := by
  obtain ⟨d, rfl⟩ := d
  exact own_by (fun _ q => XS.lxor X.here X.ex rfl (hb X.cd d) rfl q) k
theorem own_ishl (X : own_St p l e R s m args below meth c Z n0 bs maxL own T h cells slots) {x y : Int32} (d : own_ix bs pc .ishl 1 pc')  (k : own_Wins p e below A T (mkF m pc' L (.int (own_Ishl x y) :: st))) : own_Wins p e below A T (mkF m pc L (.int y :: .int x :: st)) := by
  obtain ⟨d, rfl⟩ := d
  exact own_by (fun _ q => XS.ishl X.here X.ex rfl (hb X.cd d) rfl q) k
theorem own_ishr (X : own_St p l e R s m args below meth c Z n0 bs maxL own T h cells slots) {x y : Int32} (d : own_ix bs pc .ishr 1 pc')  (k : own_Wins p e below A T (mkF m pc' L (.int (own_Ishr x y) :: st))) : own_Wins p e below A T (mkF m pc L (.int y :: .int x :: st)) := by
  obtain ⟨d, rfl⟩ := d
  exact own_by (fun _ q => XS.ishr X.here X.ex rfl (hb X.cd d) rfl q) k
theorem own_iushr (X : own_St p l e R s m args below meth c Z n0 bs maxL own T h cells slots) {x y : Int32} (d : own_ix bs pc .iushr 1 pc')  (k : own_Wins p e below A T (mkF m pc' L (.int (own_Iushr x y) :: st))) : own_Wins p e below A T (mkF m pc L (.int y :: .int x :: st)) := by
  obtain ⟨d, rfl⟩ := d
  exact own_by (fun _ q => XS.iushr X.here X.ex rfl (hb X.cd d) rfl q) k
theorem own_lshl (X : own_St p l e R s m args below meth c Z n0 bs maxL own T h cells slots) {x : Int64} {y : Int32} (d : own_ix bs pc .lshl 1 pc')  (k : own_Wins p e below A T (mkF m pc' L (.long (own_Lshl x y) :: st))) : own_Wins p e below A T (mkF m pc L (.int y :: .long x :: st)) := by
  obtain ⟨d, rfl⟩ := d
  exact own_by (fun _ q => XS.lshl X.here X.ex rfl (hb X.cd d) rfl q) k
theorem own_lshr (X : own_St p l e R s m args below meth c Z n0 bs maxL own T h cells slots) {x : Int64} {y : Int32} (d : own_ix bs pc .lshr 1 pc')  (k : own_Wins p e below A T (mkF m pc' L (.long (own_Lshr x y) :: st))) : own_Wins p e below A T (mkF m pc L (.int y :: .long x :: st)) := by
  obtain ⟨d, rfl⟩ := d
  exact own_by (fun _ q => XS.lshr X.here X.ex rfl (hb X.cd d) rfl q) k
theorem own_lushr (X : own_St p l e R s m args below meth c Z n0 bs maxL own T h cells slots) {x : Int64} {y : Int32} (d : own_ix bs pc .lushr 1 pc')  (k : own_Wins p e below A T (mkF m pc' L (.long (own_Lushr x y) :: st))) : own_Wins p e below A T (mkF m pc L (.int y :: .long x :: st)) := by
  obtain ⟨d, rfl⟩ := d
  exact own_by (fun _ q => XS.lushr X.here X.ex rfl (hb X.cd d) rfl q) k
theorem own_idiv (X : own_St p l e R s m args below meth c Z n0 bs maxL own T h cells slots) {x y : Int32} (d : own_ix bs pc .idiv 1 pc') (hy : y ≠ 0) (k : own_Wins p e below A T (mkF m pc' L (.int (x / y) :: st))) : own_Wins p e below A T (mkF m pc L (.int y :: .int x :: st)) := by
  obtain ⟨d, rfl⟩ := d
  exact own_by (fun _ q => XS.idiv X.here X.ex rfl (hb X.cd d) rfl hy q) k
theorem own_ldiv (X : own_St p l e R s m args below meth c Z n0 bs maxL own T h cells slots) {x y : Int64} (d : own_ix bs pc .ldiv 1 pc') (hy : y ≠ 0) (k : own_Wins p e below A T (mkF m pc' L (.long (x / y) :: st))) : own_Wins p e below A T (mkF m pc L (.long y :: .long x :: st)) := by
  obtain ⟨d, rfl⟩ := d
  exact own_by (fun _ q => XS.ldiv X.here X.ex rfl (hb X.cd d) rfl hy q) k
theorem own_irem (X : own_St p l e R s m args below meth c Z n0 bs maxL own T h cells slots) {x y : Int32} (d : own_ix bs pc .irem 1 pc') (hy : y ≠ 0) (k : own_Wins p e below A T (mkF m pc' L (.int (x % y) :: st))) : own_Wins p e below A T (mkF m pc L (.int y :: .int x :: st)) := by
  obtain ⟨d, rfl⟩ := d
  have e1 : x - x / y * y = x % y := irem_eq_mod x y
  exact own_by (fun _ q => XS.irem X.here X.ex rfl (hb X.cd d) rfl hy (by rw [e1]; exact q)) k
theorem own_lrem (X : own_St p l e R s m args below meth c Z n0 bs maxL own T h cells slots) {x y : Int64} (d : own_ix bs pc .lrem 1 pc') (hy : y ≠ 0) (k : own_Wins p e below A T (mkF m pc' L (.long (x % y) :: st))) : own_Wins p e below A T (mkF m pc L (.long y :: .long x :: st)) := by
  obtain ⟨d, rfl⟩ := d
  have e1 : x - x / y * y = x % y := lrem_mod x y
  exact own_by (fun _ q => XS.lrem X.here X.ex rfl (hb X.cd d) rfl hy (by rw [e1]; exact q)) k
theorem own_ineg (X : own_St p l e R s m args below meth c Z n0 bs maxL own T h cells slots) {x : Int32} (d : own_ix bs pc .ineg 1 pc')  (k : own_Wins p e below A T (mkF m pc' L (.int (-x) :: st))) : own_Wins p e below A T (mkF m pc L (.int x :: st)) := by
  obtain ⟨d, rfl⟩ := d
  exact own_by (fun _ q => XS.ineg X.here X.ex rfl (hb X.cd d) rfl q) k
theorem own_lneg (X : own_St p l e R s m args below meth c Z n0 bs maxL own T h cells slots) {x : Int64} (d : own_ix bs pc .lneg 1 pc')  (k : own_Wins p e below A T (mkF m pc' L (.long (-x) :: st))) : own_Wins p e below A T (mkF m pc L (.long x :: st)) := by
  obtain ⟨d, rfl⟩ := d
  exact own_by (fun _ q => XS.lneg X.here X.ex rfl (hb X.cd d) rfl q) k
theorem own_i2l (X : own_St p l e R s m args below meth c Z n0 bs maxL own T h cells slots) {x : Int32} (d : own_ix bs pc .i2l 1 pc')  (k : own_Wins p e below A T (mkF m pc' L (.long x.toInt64 :: st))) : own_Wins p e below A T (mkF m pc L (.int x :: st)) := by
  obtain ⟨d, rfl⟩ := d
  exact own_by (fun _ q => XS.i2l X.here X.ex rfl (hb X.cd d) rfl q) k
theorem own_l2i (X : own_St p l e R s m args below meth c Z n0 bs maxL own T h cells slots) {x : Int64} (d : own_ix bs pc .l2i 1 pc')  (k : own_Wins p e below A T (mkF m pc' L (.int x.toInt32 :: st))) : own_Wins p e below A T (mkF m pc L (.long x :: st)) := by
  obtain ⟨d, rfl⟩ := d
  exact own_by (fun _ q => XS.l2i X.here X.ex rfl (hb X.cd d) rfl q) k
theorem own_i2b (X : own_St p l e R s m args below meth c Z n0 bs maxL own T h cells slots) {x : Int32} (d : own_ix bs pc .i2b 1 pc')  (k : own_Wins p e below A T (mkF m pc' L (.int x.toInt8.toInt32 :: st))) : own_Wins p e below A T (mkF m pc L (.int x :: st)) := by
  obtain ⟨d, rfl⟩ := d
  exact own_by (fun _ q => XS.i2b X.here X.ex rfl (hb X.cd d) rfl q) k
theorem own_lcmp (X : own_St p l e R s m args below meth c Z n0 bs maxL own T h cells slots) {x y : Int64} (d : own_ix bs pc .lcmp 1 pc')  (k : own_Wins p e below A T (mkF m pc' L (.int (lcmpW x y) :: st))) : own_Wins p e below A T (mkF m pc L (.long y :: .long x :: st)) := by
  obtain ⟨d, rfl⟩ := d
  exact own_by (fun _ q => XS.lcmp X.here X.ex rfl (hb X.cd d) rfl q) k
theorem own_dup (X : own_St p l e R s m args below meth c Z n0 bs maxL own T h cells slots) {x : Value} (d : own_ix bs pc .dup 1 pc') (hc : x.category = 1) (k : own_Wins p e below A T (mkF m pc' L (x :: x :: st))) : own_Wins p e below A T (mkF m pc L (x :: st)) := by
  obtain ⟨d, rfl⟩ := d
  exact own_by (fun _ q => XS.dup X.here X.ex rfl (hb X.cd d) rfl hc q) k
theorem own_pop (X : own_St p l e R s m args below meth c Z n0 bs maxL own T h cells slots) {x : Value} (d : own_ix bs pc .pop 1 pc') (hc : x.category = 1) (k : own_Wins p e below A T (mkF m pc' L st)) : own_Wins p e below A T (mkF m pc L (x :: st)) := by
  obtain ⟨d, rfl⟩ := d
  exact own_by (fun _ q => XS.pop X.here X.ex rfl (hb X.cd d) rfl hc q) k
theorem own_dup2 (X : own_St p l e R s m args below meth c Z n0 bs maxL own T h cells slots) {x : Int32} {y : Addr} (d : own_ix bs pc .dup2 1 pc')  (k : own_Wins p e below A T (mkF m pc' L (.int x :: .ref y :: .int x :: .ref y :: st))) : own_Wins p e below A T (mkF m pc L (.int x :: .ref y :: st)) := by
  obtain ⟨d, rfl⟩ := d
  refine own_by (fun _ q => ?_) k
  show Steps p.tables e below (T.setTop (mkF m pc L (.int x :: .ref y :: st))) _
  jvm_step X.here [X.here.top, X.ex, (hb X.cd d), Value.category]
  exact q
theorem own_anull (X : own_St p l e R s m args below meth c Z n0 bs maxL own T h cells slots)  (d : own_ix bs pc .aconst_null 1 pc')  (k : own_Wins p e below A T (mkF m pc' L (.null :: st))) : own_Wins p e below A T (mkF m pc L st) := by
  obtain ⟨d, rfl⟩ := d
  exact own_by (fun _ q => XS.aconstNull X.here X.ex rfl (hb X.cd d) q) k
theorem own_ipush (X : own_St p l e R s m args below meth c Z n0 bs maxL own T h cells slots) {v : Int32} (d : own_ik bs pc v pc')  (k : own_Wins p e below A T (mkF m pc' L (.int v :: st))) : own_Wins p e below A T (mkF m pc L st) := by
  obtain ⟨i, ⟨d, rfl, rfl⟩ | ⟨d, rfl, rfl⟩ | ⟨d, rfl, rfl⟩⟩ := d
  · exact own_by (fun _ q => XS.iconst X.here X.ex rfl (hb X.cd d) q) k
  · exact own_by (fun _ q => XS.bipush X.here X.ex rfl (hb X.cd d) q) k
  · exact own_by (fun _ q => XS.sipush X.here X.ex rfl (hb X.cd d) q) k
theorem own_lpush (X : own_St p l e R s m args below meth c Z n0 bs maxL own T h cells slots) {v : Int64} (d : own_lk bs pc v pc')  (k : own_Wins p e below A T (mkF m pc' L (.long v :: st))) : own_Wins p e below A T (mkF m pc L st) := by
  obtain ⟨i, d, rfl, rfl⟩ := d
  exact own_by (fun _ q => XS.lconst X.here X.ex rfl (hb X.cd d) q) k
theorem own_iload (X : own_St p l e R s m args below meth c Z n0 bs maxL own T h cells slots) {i : Nat} {v : Int32} (d : own_il bs pc i pc') (hl : L[i]? = some (.val (.int v))) (k : own_Wins p e below A T (mkF m pc' L (.int v :: st))) : own_Wins p e below A T (mkF m pc L st) := by
  obtain ⟨i', d, rfl, rfl⟩ | ⟨d, rfl⟩ := d
  · exact own_by (fun _ q => XS.iloadN X.here X.ex rfl (hb X.cd d) hl q) k
  · exact own_by (fun _ q => XS.iload X.here X.ex rfl (hb X.cd d) hl q) k
theorem own_lload (X : own_St p l e R s m args below meth c Z n0 bs maxL own T h cells slots) {i : Nat} {v : Int64} (d : own_ll bs pc i pc') (hl : L[i]? = some (.val (.long v))) (k : own_Wins p e below A T (mkF m pc' L (.long v :: st))) : own_Wins p e below A T (mkF m pc L st) := by
  obtain ⟨i', d, rfl, rfl⟩ | ⟨d, rfl⟩ := d
  · exact own_by (fun _ q => XS.lloadN X.here X.ex rfl (hb X.cd d) hl q) k
  · exact own_by (fun _ q => XS.lload X.here X.ex rfl (hb X.cd d) hl q) k
theorem own_aload (X : own_St p l e R s m args below meth c Z n0 bs maxL own T h cells slots) {i : Nat} {v : Addr} (d : own_al bs pc i pc') (hl : L[i]? = some (.val (.ref v))) (k : own_Wins p e below A T (mkF m pc' L (.ref v :: st))) : own_Wins p e below A T (mkF m pc L st) := by
  obtain ⟨i', d, rfl, rfl⟩ | ⟨d, rfl⟩ := d
  · exact own_by (fun _ q => XS.aloadN X.here X.ex rfl (hb X.cd d) hl rfl q) k
  · exact own_by (fun _ q => XS.aload X.here X.ex rfl (hb X.cd d) hl rfl q) k
theorem own_aloadN (X : own_St p l e R s m args below meth c Z n0 bs maxL own T h cells slots) {i : Nat} (d : own_al bs pc i pc') (hl : L[i]? = some (.val .null)) (k : own_Wins p e below A T (mkF m pc' L (.null :: st))) : own_Wins p e below A T (mkF m pc L st) := by
  obtain ⟨i', d, rfl, rfl⟩ | ⟨d, rfl⟩ := d
  · exact own_by (fun _ q => XS.aloadN X.here X.ex rfl (hb X.cd d) hl rfl q) k
  · exact own_by (fun _ q => XS.aload X.here X.ex rfl (hb X.cd d) hl rfl q) k
theorem own_istore (X : own_St p l e R s m args below meth c Z n0 bs maxL own T h cells slots) {i : Nat} {v : Int32} (L' : Array Slot) (d : own_si bs pc i pc') (hl : storeLocals L i (.int v) = some L') (k : own_Wins p e below A T (mkF m pc' L' st)) : own_Wins p e below A T (mkF m pc L (.int v :: st)) := by
  obtain ⟨i', d, rfl, rfl⟩ | ⟨d, rfl⟩ := d
  · exact own_by (fun _ q => XS.istoreN X.here X.ex rfl (hb X.cd d) rfl hl q) k
  · exact own_by (fun _ q => XS.istore X.here X.ex rfl (hb X.cd d) rfl hl q) k
theorem own_lstore (X : own_St p l e R s m args below meth c Z n0 bs maxL own T h cells slots) {i : Nat} {v : Int64} (L' : Array Slot) (d : own_sl bs pc i pc') (hl : storeLocals L i (.long v) = some L') (k : own_Wins p e below A T (mkF m pc' L' st)) : own_Wins p e below A T (mkF m pc L (.long v :: st)) := by
  obtain ⟨i', d, rfl, rfl⟩ | ⟨d, rfl⟩ := d
  · exact own_by (fun _ q => XS.lstoreN X.here X.ex rfl (hb X.cd d) rfl hl q) k
  · exact own_by (fun _ q => XS.lstore X.here X.ex rfl (hb X.cd d) rfl hl q) k
theorem own_astore (X : own_St p l e R s m args below meth c Z n0 bs maxL own T h cells slots) {i : Nat} {v : Addr} (L' : Array Slot) (d : own_sa bs pc i pc') (hl : storeLocals L i (.ref v) = some L') (k : own_Wins p e below A T (mkF m pc' L' st)) : own_Wins p e below A T (mkF m pc L (.ref v :: st)) := by
  obtain ⟨i', d, rfl, rfl⟩ | ⟨d, rfl⟩ := d
  · exact own_by (fun _ q => XS.astoreN X.here X.ex rfl (hb X.cd d) rfl rfl hl q) k
  · exact own_by (fun _ q => XS.astore X.here X.ex rfl (hb X.cd d) rfl rfl hl q) k
theorem own_iinc (X : own_St p l e R s m args below meth c Z n0 bs maxL own T h cells slots) {i : Nat} {x w : Int32} (L' : Array Slot) (d : own_ii bs pc i w pc') (hl : L[i]? = some (.val (.int x))) (hl' : storeLocals L i (.int (x + w)) = some L') (k : own_Wins p e below A T (mkF m pc' L' st)) : own_Wins p e below A T (mkF m pc L st) := by
  obtain ⟨i', d, rfl, rfl⟩ := d
  exact own_by (fun _ q => XS.iinc X.here X.ex rfl (hb X.cd d) hl hl' q) k
theorem own_goto (X : own_St p l e R s m args below meth c Z n0 bs maxL own T h cells slots) (d : own_gt bs pc pc') (k : own_Wins p e below A T (mkF m pc' L st)) : own_Wins p e below A T (mkF m pc L st) := by
  obtain ⟨o, d, h1, h2⟩ := d
  exact own_by (fun _ q => XS.goto X.here X.ex rfl rfl (hb X.cd d) h1 h2 q) k
theorem own_ifYes (X : own_St p l e R s m args below meth c Z n0 bs maxL own T h cells slots) {cd : ClassFile.Cond} {x : Int32} {nx : Nat} (d : own_ifc bs pc cd nx pc') (hc : ifCond.holds cd x = true) (k : own_Wins p e below A T (mkF m pc' L st)) : own_Wins p e below A T (mkF m pc L (.int x :: st)) := by
  obtain ⟨o, d, -, h1, h2⟩ := d
  exact own_by (fun _ q => XS.ifYes X.here X.ex rfl rfl (hb X.cd d) rfl hc h1 h2 q) k
theorem own_ifNo (X : own_St p l e R s m args below meth c Z n0 bs maxL own T h cells slots) {cd : ClassFile.Cond} {x : Int32} {tg : Nat} (d : own_ifc bs pc cd pc' tg) (hc : ifCond.holds cd x = false) (k : own_Wins p e below A T (mkF m pc' L st)) : own_Wins p e below A T (mkF m pc L (.int x :: st)) := by
  obtain ⟨o, d, rfl, h1, h2⟩ := d
  exact own_by (fun _ q => XS.ifNo X.here X.ex rfl (hb X.cd d) rfl hc q) k
theorem own_icYes (X : own_St p l e R s m args below meth c Z n0 bs maxL own T h cells slots) {cd : ClassFile.Cond} {x y : Int32} {nx : Nat} (d : own_icm bs pc cd nx pc') (hc : if_icmp.holds cd x y = true) (k : own_Wins p e below A T (mkF m pc' L st)) : own_Wins p e below A T (mkF m pc L (.int y :: .int x :: st)) := by
  obtain ⟨o, d, -, h1, h2⟩ := d
  exact own_by (fun _ q => XS.icmpYes X.here X.ex rfl rfl (hb X.cd d) rfl hc h1 h2 q) k
theorem own_icNo (X : own_St p l e R s m args below meth c Z n0 bs maxL own T h cells slots) {cd : ClassFile.Cond} {x y : Int32} {tg : Nat} (d : own_icm bs pc cd pc' tg) (hc : if_icmp.holds cd x y = false) (k : own_Wins p e below A T (mkF m pc' L st)) : own_Wins p e below A T (mkF m pc L (.int y :: .int x :: st)) := by
  obtain ⟨o, d, rfl, h1, h2⟩ := d
  exact own_by (fun _ q => XS.icmpNo X.here X.ex rfl (hb X.cd d) rfl hc q) k
theorem own_inlYes (X : own_St p l e R s m args below meth c Z n0 bs maxL own T h cells slots) {nx : Nat} (d : own_inl bs pc nx pc') (k : own_Wins p e below A T (mkF m pc' L st)) : own_Wins p e below A T (mkF m pc L (.null :: st)) := by
  obtain ⟨o, d, -, h1, h2⟩ := d
  exact own_by (fun _ q => XS.ifnullYes X.here X.ex rfl rfl (hb X.cd d) rfl h1 h2 q) k
theorem own_inlNo (X : own_St p l e R s m args below meth c Z n0 bs maxL own T h cells slots) {a : Addr} {tg : Nat} (d : own_inl bs pc pc' tg) (k : own_Wins p e below A T (mkF m pc' L st)) : own_Wins p e below A T (mkF m pc L (.ref a :: st)) := by
  obtain ⟨o, d, rfl, h1, h2⟩ := d
  exact own_by (fun _ q => XS.ifnullNo X.here X.ex rfl (hb X.cd d) rfl q) k
theorem own_innYes (X : own_St p l e R s m args below meth c Z n0 bs maxL own T h cells slots) {a : Addr} {nx : Nat} (d : own_inn bs pc nx pc') (k : own_Wins p e below A T (mkF m pc' L st)) : own_Wins p e below A T (mkF m pc L (.ref a :: st)) := by
  obtain ⟨o, d, -, h1, h2⟩ := d
  exact own_by (fun _ q => XS.ifnonnullYes X.here X.ex rfl rfl (hb X.cd d) rfl h1 h2 q) k
theorem own_innNo (X : own_St p l e R s m args below meth c Z n0 bs maxL own T h cells slots) {tg : Nat} (d : own_inn bs pc pc' tg) (k : own_Wins p e below A T (mkF m pc' L st)) : own_Wins p e below A T (mkF m pc L (.null :: st)) := by
  obtain ⟨o, d, rfl, h1, h2⟩ := d
  exact own_by (fun _ q => XS.ifnonnullNo X.here X.ex rfl (hb X.cd d) rfl q) k
theorem own_ldc (X : own_St p l e R s m args below meth c Z n0 bs maxL own T h cells slots) {i : Nat} {v : Int32} (w : (Jvm.Cond.constant own i v).before a0 Z = true) (d : own_ix bs pc (.ldc i) 2 pc') (k : own_Wins p e below A T (mkF m pc' L (.int v :: st))) : own_Wins p e below A T (mkF m pc L st) := by
  obtain ⟨locs, Y, eT, N, hn, hx, hby, hml, hown, hZ, hlk⟩ := X
  obtain ⟨d, rfl⟩ := d
  exact own_by (Y.ldcInt hx hown (mvT hZ w) (g := mkF m pc L st) rfl (hb hby d)) k
theorem own_ldc2 (X : own_St p l e R s m args below meth c Z n0 bs maxL own T h cells slots) {i : Nat} {v : Int64} (w : (Jvm.Cond.constantLong own i v).before a0 Z = true) (d : own_ix bs pc (.ldc2_w i) 3 pc') (k : own_Wins p e below A T (mkF m pc' L (.long v :: st))) : own_Wins p e below A T (mkF m pc L st) := by
  obtain ⟨locs, Y, eT, N, hn, hx, hby, hml, hown, hZ, hlk⟩ := X
  obtain ⟨d, rfl⟩ := d
  exact own_by (Y.ldc2Long hx hown (mvT hZ w) (g := mkF m pc L st) rfl (hb hby d)) k
/-- an array of primitives: its values as a list -/
def own_AL (Z : State) (h : Heap) (a : Addr) (ty : FieldType) (vs : List Value) : Prop := ∃ c : Cell, Arr Z h a c ty ∧ c.slots = vs.toArray ∧ vs.length < 2147483648
theorem own_AL.lt {a : Addr} {ty : FieldType} {vs : List Value} (V : own_AL Z h a ty vs) : a < h.size := by obtain ⟨c, A, -⟩ := V; exact A.lt
theorem own_AL.ext {a : Addr} {ty : FieldType} {vs : List Value} (V : own_AL Z h a ty vs) (E : Ext h h') : own_AL Z h' a ty vs := by obtain ⟨c, A, r⟩ := V; exact ⟨c, A.ext E, r⟩
theorem own_AL.other {a b : Addr} {sl : Nat} {v : Value} {ty : FieldType} {vs : List Value} (V : own_AL Z h b ty vs) (W : Wr h h' a sl v) (q : b ≠ a) : own_AL Z h' b ty vs := by obtain ⟨c, A, r⟩ := V; exact ⟨c, A.other W q, r⟩
theorem own_AL.keep {a : Addr} {ws : List Addr} {ty : FieldType} {vs : List Value} (V : own_AL Z h a ty vs) (K : Keep h h' ws) (q : a ∉ ws) : own_AL Z h' a ty vs := by obtain ⟨c, A, r⟩ := V; exact ⟨c, ⟨K.2.1 a c A.1 q, A.2⟩, r⟩
theorem own_AL.new {a : Addr} {k : ClassId} {ty : FieldType} {z : Int32} {n : Nat} (A : Arr Z h a (newA k ty z) ty) (hz : z.toNatClampNeg = n) (hn : n < 2147483648) : own_AL Z h a ty (List.replicate n (defaultValue ty)) :=
  ⟨_, A, by simp [newA, hz], by simpa using hn⟩
theorem own_AL.same {a : Addr} {k : Nat} {v : Value} {ty : FieldType} {vs : List Value} (V : own_AL Z h a ty vs) (W : Wr h h' a k v) : own_AL Z h' a ty (vs.set k v) := by
  obtain ⟨c, A, q, r⟩ := V
  exact ⟨_, A.same W, by simp [Cell.setSlot, q], by simpa using r⟩
/-- an index in its two forms -/
def own_idx (j : Int32) (k : Nat) : Prop := ¬ j < 0 ∧ j.toNatClampNeg = k
theorem own_in {j : Int32} {k : Nat} {cl : Cell} {vs : List Value} (hj : own_idx j k) (q : cl.slots = vs.toArray) (hk : k < vs.length) : ¬ (j < 0 ∨ cl.slots.size ≤ j.toNatClampNeg) := by
  rw [q, hj.2]; simp only [List.size_toArray]
  intro z; rcases z with z | z
  · exact hj.1 z
  · omega
theorem own_len {cl : Cell} {vs : List Value} (q : cl.slots = vs.toArray) : cl.slots.size.toInt32 = Int32.ofNat vs.length := by rw [q]; simp [Nat.toInt32]
theorem own_iaload (X : own_St p l e R s m args below meth c Z n0 bs maxL own T h cells slots) {a : Addr} {vs : List Value} (V : own_AL Z h a .int vs) {j : Int32} {i : Nat} {v : Value} (hj : own_idx j i) (hv : vs[i]? = some v) (d : own_ix bs pc .iaload 1 pc') (k : own_Wins p e below A T (mkF m pc' L (v :: st))) : own_Wins p e below A T (mkF m pc L (.int j :: .ref a :: st)) := by
  obtain ⟨locs, Y, eT, N, hn, hx, hby, hml, hown, hZ, hlk⟩ := X
  obtain ⟨d, rfl⟩ := d
  obtain ⟨cl, Ar, q, r⟩ := V
  have hk : i < vs.length := (List.getElem?_eq_some_iff.mp hv).1
  exact own_by (fun t kk => Y.iaload hx (j := j) (v := v) (by rw [eT]; exact Ar.1) (State.isArrayOf_alike hZ.alike Ar.2.1) Ar.2.2 (own_in hj q hk) (by rw [q, hj.2]; simpa using hv) (g := mkF m pc L (.int j :: .ref a :: st)) rfl rfl (hb hby d) t kk) k
theorem own_laload (X : own_St p l e R s m args below meth c Z n0 bs maxL own T h cells slots) {a : Addr} {vs : List Value} (V : own_AL Z h a .long vs) {j : Int32} {i : Nat} {v : Value} (hj : own_idx j i) (hv : vs[i]? = some v) (d : own_ix bs pc .laload 1 pc') (k : own_Wins p e below A T (mkF m pc' L (v :: st))) : own_Wins p e below A T (mkF m pc L (.int j :: .ref a :: st)) := by
  obtain ⟨locs, Y, eT, N, hn, hx, hby, hml, hown, hZ, hlk⟩ := X
  obtain ⟨d, rfl⟩ := d
  obtain ⟨cl, Ar, q, r⟩ := V
  have hk : i < vs.length := (List.getElem?_eq_some_iff.mp hv).1
  exact own_by (fun t kk => Y.laload hx (j := j) (v := v) (by rw [eT]; exact Ar.1) (State.isArrayOf_alike hZ.alike Ar.2.1) Ar.2.2 (own_in hj q hk) (by rw [q, hj.2]; simpa using hv) (g := mkF m pc L (.int j :: .ref a :: st)) rfl rfl (hb hby d) t kk) k
theorem own_baload (X : own_St p l e R s m args below meth c Z n0 bs maxL own T h cells slots) {a : Addr} {vs : List Value} (V : own_AL Z h a .byte vs) {j : Int32} {i : Nat} {v : Value} (hj : own_idx j i) (hv : vs[i]? = some v) (d : own_ix bs pc .baload 1 pc') (k : own_Wins p e below A T (mkF m pc' L (v :: st))) : own_Wins p e below A T (mkF m pc L (.int j :: .ref a :: st)) := by
  obtain ⟨locs, Y, eT, N, hn, hx, hby, hml, hown, hZ, hlk⟩ := X
  obtain ⟨d, rfl⟩ := d
  obtain ⟨cl, Ar, q, r⟩ := V
  have hk : i < vs.length := (List.getElem?_eq_some_iff.mp hv).1
  exact own_by (fun t kk => Y.baloadBytes hx (j := j) (v := v) (by rw [eT]; exact Ar.1) (State.isArrayOf_alike hZ.alike Ar.2.1) Ar.2.2 (own_in hj q hk) (by rw [q, hj.2]; simpa using hv) (g := mkF m pc L (.int j :: .ref a :: st)) rfl rfl (hb hby d) t kk) k
theorem own_alen (X : own_St p l e R s m args below meth c Z n0 bs maxL own T h cells slots) {a : Addr} {ty : FieldType} {vs : List Value} (V : own_AL Z h a ty vs) (d : own_ix bs pc .arraylength 1 pc') (k : own_Wins p e below A T (mkF m pc' L (.int (Int32.ofNat vs.length) :: st))) : own_Wins p e below A T (mkF m pc L (.ref a :: st)) := by
  obtain ⟨locs, Y, eT, N, hn, hx, hby, hml, hown, hZ, hlk⟩ := X
  obtain ⟨d, rfl⟩ := d
  obtain ⟨cl, Ar, q, r⟩ := V
  exact own_by (fun t kk => Y.arraylength hx (by rw [eT]; exact Ar.1) (State.isArrayOf_alike hZ.alike Ar.2.1) (g := mkF m pc L (.ref a :: st)) rfl rfl (hb hby d) t (by rw [own_len q]; exact kk)) k
theorem own_iastore (X : own_St p l e R s m args below meth c Z n0 bs maxL own T h cells slots) {a : Addr} {vs : List Value} (V : own_AL Z h a .int vs) (ga : n0 ≤ a) {j : Int32} {x : Int32} {i : Nat} (hj : own_idx j i) (hk : i < vs.length) (d : own_ix bs pc .iastore 1 pc') (k : ∀ T' h', own_St p l e R s m args below meth c Z n0 bs maxL own T' h' cells slots → Wr h h' a i (.int x) → own_AL Z h' a .int (vs.set i (.int x)) → own_Wins p e below A T' (mkF m pc' L st)) : own_Wins p e below A T (mkF m pc L (.int x :: .int j :: .ref a :: st)) := by
  obtain ⟨locs, Y, eT, N, hn, hx, hby, hml, hown, hZ, hlk⟩ := X
  obtain ⟨d, rfl⟩ := d
  have V0 := V
  obtain ⟨cl, Ar, q, r⟩ := V
  obtain ⟨T', h', Y', e', W', st'⟩ := stI Y hx hZ eT Ar (j := j) (x := x) (own_in hj q hk) (g := mkF m pc L (.int x :: .int j :: .ref a :: st)) rfl rfl (hb hby d)
  have W2 : Wr h h' a i (.int x) := hj.2 ▸ W'
  exact own_by st' (k T' h' ⟨_, Y', e', Fr.snoc Y' N ga, W'.size ▸ hn, hx, hby, hml, hown, hZ, hlk⟩ W2 (V0.same W2))
theorem own_lastore (X : own_St p l e R s m args below meth c Z n0 bs maxL own T h cells slots) {a : Addr} {vs : List Value} (V : own_AL Z h a .long vs) (ga : n0 ≤ a) {j : Int32} {x : Int64} {i : Nat} (hj : own_idx j i) (hk : i < vs.length) (d : own_ix bs pc .lastore 1 pc') (k : ∀ T' h', own_St p l e R s m args below meth c Z n0 bs maxL own T' h' cells slots → Wr h h' a i (.long x) → own_AL Z h' a .long (vs.set i (.long x)) → own_Wins p e below A T' (mkF m pc' L st)) : own_Wins p e below A T (mkF m pc L (.long x :: .int j :: .ref a :: st)) := by
  obtain ⟨locs, Y, eT, N, hn, hx, hby, hml, hown, hZ, hlk⟩ := X
  obtain ⟨d, rfl⟩ := d
  have V0 := V
  obtain ⟨cl, Ar, q, r⟩ := V
  obtain ⟨T', h', Y', e', W', st'⟩ := stJ Y hx hZ eT Ar (j := j) (x := x) (own_in hj q hk) (g := mkF m pc L (.long x :: .int j :: .ref a :: st)) rfl rfl (hb hby d)
  have W2 : Wr h h' a i (.long x) := hj.2 ▸ W'
  exact own_by st' (k T' h' ⟨_, Y', e', Fr.snoc Y' N ga, W'.size ▸ hn, hx, hby, hml, hown, hZ, hlk⟩ W2 (V0.same W2))
theorem own_bastore (X : own_St p l e R s m args below meth c Z n0 bs maxL own T h cells slots) {a : Addr} {vs : List Value} (V : own_AL Z h a .byte vs) (ga : n0 ≤ a) {j : Int32} {x : Int32} {i : Nat} (hj : own_idx j i) (hk : i < vs.length) (d : own_ix bs pc .bastore 1 pc') (k : ∀ T' h', own_St p l e R s m args below meth c Z n0 bs maxL own T' h' cells slots → Wr h h' a i (.int x.toInt8.toInt32) → own_AL Z h' a .byte (vs.set i (.int x.toInt8.toInt32)) → own_Wins p e below A T' (mkF m pc' L st)) : own_Wins p e below A T (mkF m pc L (.int x :: .int j :: .ref a :: st)) := by
  obtain ⟨locs, Y, eT, N, hn, hx, hby, hml, hown, hZ, hlk⟩ := X
  obtain ⟨d, rfl⟩ := d
  have V0 := V
  obtain ⟨cl, Ar, q, r⟩ := V
  obtain ⟨T', h', Y', e', W', st'⟩ := stB Y hx hZ eT Ar (j := j) (x := x) (own_in hj q hk) (g := mkF m pc L (.int x :: .int j :: .ref a :: st)) rfl rfl (hb hby d)
  have W2 : Wr h h' a i (.int x.toInt8.toInt32) := hj.2 ▸ W'
  exact own_by st' (k T' h' ⟨_, Y', e', Fr.snoc Y' N ga, W'.size ▸ hn, hx, hby, hml, hown, hZ, hlk⟩ W2 (V0.same W2))
theorem own_newarr (X : own_St p l e R s m args below meth c Z n0 bs maxL own T h cells slots) {aty : ArrayType} (w : (Jvm.Cond.arrayClass (newarray.typeOf aty)).before a0 Z = true) (d : own_ix bs pc (.newarray aty) 2 pc') {z : Int32} {n : Nat} (hz : own_idx z n) (cap : Nat) (hcap : n ≤ cap) (hb1 : cap * 8 ≤ 536870912) (hc : cells + 1 ≤ R.cells) (hl : slots + cap ≤ R.slots)
    (k : ∀ T' h' a, own_St p l e R s m args below meth c Z n0 bs maxL own T' h' (cells + 1) (slots + cap) → Ext h h' → a = h.size → n0 ≤ a → own_AL Z h' a (newarray.typeOf aty) (List.replicate n (defaultValue (newarray.typeOf aty))) → own_Wins p e below A T' (mkF m pc' L (.ref a :: st))) : own_Wins p e below A T (mkF m pc L (.int z :: st)) := by
  obtain ⟨locs, Y, eT, N, hn, hx, hby, hml, hown, hZ, hlk⟩ := X
  obtain ⟨d, rfl⟩ := d
  obtain ⟨T', h', cA, Y', e', E', A', st'⟩ := newP Y hx hZ w eT (g := mkF m pc L (.int z :: st)) rfl (hb hby d) rfl hz.1 (cap := cap) (by rw [hz.2]; exact hcap) hb1 hc hl
  exact own_by st' (k T' h' _ ⟨_, Y', e', N, Nat.le_trans hn E'.1, hx, hby, hml, hown, hZ, hlk⟩ E' rfl hn (own_AL.new A' hz.2 (by omega)))
def own_up (g : Nat → Value) (k : Nat) (v : Value) : Nat → Value := fun j => if j = k then v else g j
theorem own_up_same (g : Nat → Value) (k : Nat) (v : Value) : own_up g k v k = v := if_pos rfl
theorem own_up_ne (g : Nat → Value) {k j : Nat} (v : Value) (h : j ≠ k) : own_up g k v j = g j := if_neg h
def own_AF (Z : State) (h : Heap) (a : Addr) (ty : FieldType) (n : Nat) (g : Nat → Value) : Prop := ∃ vs, own_AL Z h a ty vs ∧ vs.length = n ∧ ∀ j, j < n → vs[j]? = some (g j)
theorem own_AF.lt {a : Addr} {ty : FieldType} {n : Nat} {g : Nat → Value} (V : own_AF Z h a ty n g) : a < h.size := by obtain ⟨vs, V, -⟩ := V; exact V.lt
theorem own_AF.ext {a : Addr} {ty : FieldType} {n : Nat} {g : Nat → Value} (V : own_AF Z h a ty n g) (E : Ext h h') : own_AF Z h' a ty n g := by obtain ⟨vs, V, r⟩ := V; exact ⟨vs, V.ext E, r⟩
theorem own_AF.other {a b : Addr} {sl : Nat} {v : Value} {ty : FieldType} {n : Nat} {g : Nat → Value} (V : own_AF Z h b ty n g) (W : Wr h h' a sl v) (q : b ≠ a) : own_AF Z h' b ty n g := by obtain ⟨vs, V, r⟩ := V; exact ⟨vs, V.other W q, r⟩
theorem own_AF.keep {a : Addr} {ws : List Addr} {ty : FieldType} {n : Nat} {g : Nat → Value} (V : own_AF Z h a ty n g) (K : Keep h h' ws) (q : a ∉ ws) : own_AF Z h' a ty n g := by obtain ⟨vs, V, r⟩ := V; exact ⟨vs, V.keep K q, r⟩
theorem own_AF.same {a : Addr} {i : Nat} {v : Value} {ty : FieldType} {n : Nat} {g : Nat → Value} (V : own_AF Z h a ty n g) (W : Wr h h' a i v) : own_AF Z h' a ty n (own_up g i v) := by
  obtain ⟨vs, V, hn, hg⟩ := V
  refine ⟨_, V.same W, by simpa using hn, fun j hj => ?_⟩
  by_cases hij : j = i
  · subst hij; rw [own_up_same, List.getElem?_set_self (by omega)]
  · rw [own_up_ne _ _ hij, List.getElem?_set_ne (Ne.symm hij)]; exact hg j hj
theorem own_AF.len {a : Addr} {ty : FieldType} {n : Nat} {g : Nat → Value} (V : own_AF Z h a ty n g) : n < 2147483648 := by obtain ⟨vs, ⟨c, -, -, q⟩, hn, -⟩ := V; omega
theorem own_AL.fn {a : Addr} {ty : FieldType} {vs : List Value} (V : own_AL Z h a ty vs) (n : Nat) (hn : vs.length = n) (d : Value) : own_AF Z h a ty n (fun j => vs.getD j d) := ⟨vs, V, hn, fun j hj => by simp only [List.getD_eq_getElem?_getD]; rw [List.getElem?_eq_getElem (by omega)]; rfl⟩
theorem own_AF.to {a : Addr} {ty : FieldType} {n : Nat} {g g' : Nat → Value} (V : own_AF Z h a ty n g) (e : ∀ j, j < n → g j = g' j) : own_AF Z h a ty n g' := by obtain ⟨vs, V, hn, hg⟩ := V; exact ⟨vs, V, hn, fun j hj => by rw [hg j hj, e j hj]⟩
theorem own_ialoadF (X : own_St p l e R s m args below meth c Z n0 bs maxL own T h cells slots) {a : Addr} {n : Nat} {g : Nat → Value} (V : own_AF Z h a .int n g) {j : Int32} {i : Nat} {v : Value} (hj : own_idx j i) (hi : i < n) (hv : g i = v) (d : own_ix bs pc .iaload 1 pc') (k : own_Wins p e below A T (mkF m pc' L (v :: st))) : own_Wins p e below A T (mkF m pc L (.int j :: .ref a :: st)) := by
  obtain ⟨vs, V, hn, hg⟩ := V
  exact own_iaload X V hj (by rw [hg i hi, hv]) d k
theorem own_laloadF (X : own_St p l e R s m args below meth c Z n0 bs maxL own T h cells slots) {a : Addr} {n : Nat} {g : Nat → Value} (V : own_AF Z h a .long n g) {j : Int32} {i : Nat} {v : Value} (hj : own_idx j i) (hi : i < n) (hv : g i = v) (d : own_ix bs pc .laload 1 pc') (k : own_Wins p e below A T (mkF m pc' L (v :: st))) : own_Wins p e below A T (mkF m pc L (.int j :: .ref a :: st)) := by
  obtain ⟨vs, V, hn, hg⟩ := V
  exact own_laload X V hj (by rw [hg i hi, hv]) d k
theorem own_baloadF (X : own_St p l e R s m args below meth c Z n0 bs maxL own T h cells slots) {a : Addr} {n : Nat} {g : Nat → Value} (V : own_AF Z h a .byte n g) {j : Int32} {i : Nat} {v : Value} (hj : own_idx j i) (hi : i < n) (hv : g i = v) (d : own_ix bs pc .baload 1 pc') (k : own_Wins p e below A T (mkF m pc' L (v :: st))) : own_Wins p e below A T (mkF m pc L (.int j :: .ref a :: st)) := by
  obtain ⟨vs, V, hn, hg⟩ := V
  exact own_baload X V hj (by rw [hg i hi, hv]) d k
theorem own_alenF (X : own_St p l e R s m args below meth c Z n0 bs maxL own T h cells slots) {a : Addr} {ty : FieldType} {n : Nat} {g : Nat → Value} (V : own_AF Z h a ty n g) (d : own_ix bs pc .arraylength 1 pc') (k : own_Wins p e below A T (mkF m pc' L (.int (Int32.ofNat n) :: st))) : own_Wins p e below A T (mkF m pc L (.ref a :: st)) := by
  obtain ⟨vs, V, rfl, hg⟩ := V
  exact own_alen X V d k
theorem own_iastoreF (X : own_St p l e R s m args below meth c Z n0 bs maxL own T h cells slots) {a : Addr} {n : Nat} {g : Nat → Value} (V : own_AF Z h a .int n g) (ga : n0 ≤ a) {j : Int32} {x : Int32} {i : Nat} (hj : own_idx j i) (hi : i < n) (d : own_ix bs pc .iastore 1 pc') (k : ∀ T' h', own_St p l e R s m args below meth c Z n0 bs maxL own T' h' cells slots → Wr h h' a i (.int x) → own_AF Z h' a .int n (own_up g i (.int x)) → own_Wins p e below A T' (mkF m pc' L st)) : own_Wins p e below A T (mkF m pc L (.int x :: .int j :: .ref a :: st)) := by
  have V0 := V
  obtain ⟨vs, V, hn, hg⟩ := V
  exact own_iastore X V ga hj (by omega) d (fun T' h' X' W' _ => k T' h' X' W' (V0.same W'))
theorem own_lastoreF (X : own_St p l e R s m args below meth c Z n0 bs maxL own T h cells slots) {a : Addr} {n : Nat} {g : Nat → Value} (V : own_AF Z h a .long n g) (ga : n0 ≤ a) {j : Int32} {x : Int64} {i : Nat} (hj : own_idx j i) (hi : i < n) (d : own_ix bs pc .lastore 1 pc') (k : ∀ T' h', own_St p l e R s m args below meth c Z n0 bs maxL own T' h' cells slots → Wr h h' a i (.long x) → own_AF Z h' a .long n (own_up g i (.long x)) → own_Wins p e below A T' (mkF m pc' L st)) : own_Wins p e below A T (mkF m pc L (.long x :: .int j :: .ref a :: st)) := by
  have V0 := V
  obtain ⟨vs, V, hn, hg⟩ := V
  exact own_lastore X V ga hj (by omega) d (fun T' h' X' W' _ => k T' h' X' W' (V0.same W'))
theorem own_bastoreF (X : own_St p l e R s m args below meth c Z n0 bs maxL own T h cells slots) {a : Addr} {n : Nat} {g : Nat → Value} (V : own_AF Z h a .byte n g) (ga : n0 ≤ a) {j : Int32} {x : Int32} {i : Nat} (hj : own_idx j i) (hi : i < n) (d : own_ix bs pc .bastore 1 pc') (k : ∀ T' h', own_St p l e R s m args below meth c Z n0 bs maxL own T' h' cells slots → Wr h h' a i (.int x.toInt8.toInt32) → own_AF Z h' a .byte n (own_up g i (.int x.toInt8.toInt32)) → own_Wins p e below A T' (mkF m pc' L st)) : own_Wins p e below A T (mkF m pc L (.int x :: .int j :: .ref a :: st)) := by
  have V0 := V
  obtain ⟨vs, V, hn, hg⟩ := V
  exact own_bastore X V ga hj (by omega) d (fun T' h' X' W' _ => k T' h' X' W' (V0.same W'))
/-- an object of a class with these fields (names and descriptors), holding these values -/
def own_Obj (Z : State) (h : Heap) (a : Addr) (C : String) (ns : List (String × String)) (vs : List Value) : Prop := Exa Z h a C ∧ ns.length = vs.length ∧ ∀ (i : Nat) (n d : String) (v : Value), ns[i]? = some (n, d) → vs[i]? = some v → Fld Z h a C n d v
theorem own_Obj.lt {a : Addr} {C : String} {ns : List (String × String)} {vs : List Value} (O : own_Obj Z h a C ns vs) : a < h.size := O.1.lt
theorem own_Obj.ext {a : Addr} {C : String} {ns : List (String × String)} {vs : List Value} (O : own_Obj Z h a C ns vs) (E : Ext h h') : own_Obj Z h' a C ns vs := ⟨O.1.ext E, O.2.1, fun i n d v h1 h2 => (O.2.2 i n d v h1 h2).ext E⟩
theorem own_Obj.other {a b : Addr} {sl : Nat} {w : Value} {C : String} {ns : List (String × String)} {vs : List Value} (O : own_Obj Z h b C ns vs) (W : Wr h h' a sl w) (q : b ≠ a) : own_Obj Z h' b C ns vs := ⟨O.1.wr W, O.2.1, fun i n d v h1 h2 => (O.2.2 i n d v h1 h2).other W (Or.inl q)⟩
theorem own_Obj.keep {a : Addr} {ws : List Addr} {C : String} {ns : List (String × String)} {vs : List Value} (O : own_Obj Z h a C ns vs) (K : Keep h h' ws) (q : a ∉ ws) : own_Obj Z h' a C ns vs := ⟨O.1.keep K, O.2.1, fun i n d v h1 h2 => (O.2.2 i n d v h1 h2).keep K q⟩
def own_Laid (Z : State) (a0 : Array Value) (C : String) (ns : List (String × String)) : Prop := (∀ q ∈ ns, Laid Z a0 C C q.1 q.2 ∧ ∃ t, parseFieldDescriptor q.2 = some t) ∧ (ns.map (·.1)).Nodup
theorem own_Obj.put {a : Addr} {C n d : String} {ns : List (String × String)} {vs : List Value} {i : Nat} {v : Value} (O : own_Obj Z h a C ns vs) (La : own_Laid Z a0 C ns) (hi : ns[i]? = some (n, d)) (W : Wr h h' a (Jvm.RoadKit.slotOf Z C n d) v) : own_Obj Z h' a C ns (vs.set i v) := by
  refine ⟨O.1.wr W, by simpa using O.2.1, fun j n' d' v' h1 h2 => ?_⟩
  by_cases hij : i = j
  · subst hij
    rw [hi] at h1
    obtain ⟨rfl, rfl⟩ : n = n' ∧ d = d' := by simpa using h1
    have hlt : i < vs.length := by rw [← O.2.1]; exact (List.getElem?_eq_some_iff.mp hi).1
    rw [List.getElem?_set_self hlt] at h2
    cases h2
    exact (O.2.2 i n d vs[i] hi (List.getElem?_eq_getElem hlt)).same W
  · rw [List.getElem?_set_ne hij] at h2
    refine (O.2.2 j n' d' v' h1 h2).other W (Or.inr ?_)
    obtain ⟨L1, t1, e1⟩ := La.1 _ (List.mem_of_getElem? hi)
    obtain ⟨L2, t2, e2⟩ := La.1 _ (List.mem_of_getElem? h1)
    refine slot_ne L2 L1 ?_ e2 e1
    intro hnn
    obtain ⟨li, ei⟩ := List.getElem?_eq_some_iff.mp hi
    obtain ⟨lj, ej⟩ := List.getElem?_eq_some_iff.mp h1
    have hp := List.pairwise_iff_getElem.mp La.2
    rcases Nat.lt_or_gt_of_ne hij with hlt | hlt
    · exact hp i j (by simpa using li) (by simpa using lj) hlt (by simp [ei, ej, hnn])
    · exact hp j i (by simpa using lj) (by simpa using li) hlt (by simp [ei, ej, hnn])
theorem own_getF (X : own_St p l e R s m args below meth c Z n0 bs maxL own T h cells slots) {i k : Nat} {a : Addr} {C n dd host : String} {ns : List (String × String)} {vs : List Value} {v : Value} (w : (Jvm.Cond.fieldLink own i C n dd).before a0 Z = true) (O : own_Obj Z h a C ns vs) (hi : ns[k]? = some (n, dd)) (hv : vs[k]? = some v) (d : own_ix bs pc (.getfield i) 3 pc')
    (kk : ∀ T', own_St p l e R s m args below meth c Z n0 bs maxL own T' h cells slots → own_Wins p e below A T' (mkF m pc' L (v :: st))) : own_Wins p e below A T (mkF m pc L (.ref a :: st)) := by
  obtain ⟨locs, Y, eT, N, hn, hx, hby, hml, hown, hZ, hlk⟩ := X
  obtain ⟨d, rfl⟩ := d
  obtain ⟨T', Y', e', st'⟩ := getF Y hx hZ hown (host := "") (Or.inl w) Via.refl eT (O.2.2 k n dd v hi hv) (g := mkF m pc L (.ref a :: st)) rfl rfl (hb hby d)
  exact own_by st' (kk T' ⟨_, Y', e', N, hn, hx, hby, hml, hown, hZ, hlk⟩)
theorem own_putF (X : own_St p l e R s m args below meth c Z n0 bs maxL own T h cells slots) {i k kc : Nat} {a : Addr} {C n dd : String} {ns : List (String × String)} {vs : List Value} {v v' : Value} {ty : FieldType} (w : (Jvm.Cond.fieldLink own i C n dd).before a0 Z = true) (O : own_Obj Z h a C ns vs) (La : own_Laid Z a0 C ns) (hi : ns[k]? = some (n, dd))
    (Ly : (Jvm.Cond.lays C C n dd).before a0 Z = true ∨ ((Jvm.Cond.laysFinal C C n dd).before a0 Z = true ∧ own = C ∧ meth.name = "<init>")) (wi : (Jvm.Cond.instantiable C kc).before a0 Z = true) (hty : parseFieldDescriptor dd = some ty) (hnr : narrow ty v = v') (hf : fits ty v' = true) (ga : n0 ≤ a) (d : own_ix bs pc (.putfield i) 3 pc')
    (kk : ∀ T' h', own_St p l e R s m args below meth c Z n0 bs maxL own T' h' cells slots → Wr h h' a (Jvm.RoadKit.slotOf Z C n dd) v' → own_Obj Z h' a C ns (vs.set k v') → own_Wins p e below A T' (mkF m pc' L st)) : own_Wins p e below A T (mkF m pc L (v :: .ref a :: st)) := by
  obtain ⟨locs, Y, eT, N, hn, hx, hby, hml, hown, hZ, hlk⟩ := X
  obtain ⟨d, rfl⟩ := d
  have hlt : k < vs.length := by rw [← O.2.1]; exact (List.getElem?_eq_some_iff.mp hi).1
  obtain ⟨T', h', Y', e', W', st'⟩ := putFN Y hx hZ hown w Via.refl eT (O.2.2 k n dd vs[k] hi (List.getElem?_eq_getElem hlt)) O.1 Ly wi hty hnr hf (g := mkF m pc L (v :: .ref a :: st)) rfl rfl (hb hby d)
  exact own_by st' (kk T' h' ⟨_, Y', e', Fr.snoc Y' N ga, W'.size ▸ hn, hx, hby, hml, hown, hZ, hlk⟩ W' (O.put La hi W'))
theorem own_new (X : own_St p l e R s m args below meth c Z n0 bs maxL own T h cells slots) {i nn : Nat} {C : String} {ns : List (String × String)} (w1 : (Jvm.Cond.classLink own i C).before a0 Z = true) (w2 : (Jvm.Cond.instantiable C nn).before a0 Z = true) (w3 : (Jvm.Cond.initialized C).before a0 Z = true) (La : own_Laid Z a0 C ns) (vs : List Value) (hvs : vs = ns.map fun q => match parseFieldDescriptor q.2 with | some t => defaultValue t | none => .null) (d : own_ix bs pc (.new i) 3 pc') (hc : cells + 1 ≤ R.cells) (hl : slots + nn ≤ R.slots)
    (kk : ∀ T' h' a, own_St p l e R s m args below meth c Z n0 bs maxL own T' h' (cells + 1) (slots + nn) → Ext h h' → a = h.size → n0 ≤ a → own_Obj Z h' a C ns vs → own_Wins p e below A T' (mkF m pc' L (.ref a :: st))) : own_Wins p e below A T (mkF m pc L st) := by
  obtain ⟨locs, Y, eT, N, hn, hx, hby, hml, hown, hZ, hlk⟩ := X
  obtain ⟨d, rfl⟩ := d
  obtain ⟨T', h', Y', e', E', A', D', -, st'⟩ := newO Y hx hZ hown w1 w2 w3 eT (g := mkF m pc L st) rfl (hb hby d) hc hl
  refine own_by st' (kk T' h' _ ⟨_, Y', e', N, Nat.le_trans hn E'.1, hx, hby, hml, hown, hZ, hlk⟩ E' rfl hn ⟨A', by simp [hvs], fun j n dd v h1 h2 => ?_⟩)
  obtain ⟨Lq, t, et⟩ := La.1 _ (List.mem_of_getElem? h1)
  rw [hvs, List.getElem?_map, h1] at h2
  simp only [Option.map_some, et, Option.some.injEq] at h2
  subst h2
  exact D' Lq et
theorem own_initO (X : own_St p l e R s m args below meth c Z n0 bs maxL own T h cells slots) {i : Nat} {a : Addr} (w1 : (Jvm.Cond.methodLink own i Lib.objectInit).before a0 Z = true) (w2 : (Jvm.Cond.instanceMethod Lib.objectInit).before a0 Z = true) (w3 : (Jvm.Cond.code Lib.objectInit ⟨#[0xb1]⟩ 1 none).before a0 Z = true) (d : own_ix bs pc (.invokespecial i) 3 pc') (hsz : L.size = maxL) (hf : 1 ≤ R.frames) (Wt : Nat) (hW : 2 * 0 + (st.map fun v => v.category).sum ≤ Wt) (hl : Wt + 12 ≤ R.locals)
    (kk : ∀ T', own_St p l e R s m args below meth c Z n0 bs maxL own T' h cells slots → own_Wins p e below A T' (mkF m pc' L st)) : own_Wins p e below A T (mkF m pc L (.ref a :: st)) := by
  obtain ⟨locs, Y, eT, N, hn, hx, hby, hml, hown, hZ, hlk⟩ := X
  obtain ⟨d, rfl⟩ := d
  obtain ⟨T', Y', e', st'⟩ := initO Y hx hZ hown w1 w2 w3 eT (g := mkF m pc L (.ref a :: st)) rfl (by rw [hml]; exact hsz) rfl (hb hby d) hf (W := Wt) hW hl
  exact own_by st' (kk T' ⟨_, Y', e', N, hn, hx, hby, hml, hown, hZ, hlk⟩)
/-- what a body does, called with these arguments over this heap: it returns v and leaves a heap with P v h' -/
def own_Con (l : Launch) (Z : State) (n0 : Nat) (y : MethodName) (bs : ByteArray) (maxL : Nat) (ret : Option FieldType) (rm : Room) (ws : List Jvm.Cond) (av : Array Value) (h0 : Heap) (P : Option Value → Heap → Prop) : Prop :=
  MetFree l y (head1 (Jvm.Cond.code y bs maxL ret :: ws) rm) (fun a U => a = av ∧ Z.Warmed39 U.vm ∧ U.heap = h0) (fun _ _ _ _ _ => True) (fun _ U o U' => ∃ v L, o = .returned v ∧ (Fr n0 L ∧ n0 ≤ U'.heap.size ∧ P v U'.heap) ∧ FrameEnd U o U' L rm.cells rm.slots)
def own_G (s : State) (below : List Frame) (n0 : Nat) (rm : Room) (P : Option Value → Heap → Prop) (U : State) (o : Outcome) : Prop :=
  U.status = .running ∧ Ended U below o ∧ ∃ v L, o = .returned v ∧ (Fr n0 L ∧ n0 ≤ U.heap.size ∧ P v U.heap) ∧ FrameEnd s o U L rm.cells rm.slots
theorem own_enter {l : Launch} {Z : State} {n0 : Nat} {y : MethodName} {bs : ByteArray} {maxL : Nat} {ret : Option FieldType} {rm : Room} {ws : List Jvm.Cond} {av : Array Value} {h0 : Heap} {P : Option Value → Heap → Prop} (hpl : plainFor y = true) (Z0 : n0 ≤ h0.size) (L0 : Array Slot) (ef : ∀ m, entryFrame m av maxL = mkF m 0 L0 [])
    (body : ∀ (p : Program) (e : Env) (s : State) (m : MethodId) (below : List Frame) (meth : Method) (c : Code) (T : State) (A : State → Outcome → Prop), own_St p l e rm s m av below meth c Z n0 bs maxL y.cls T h0 0 0 → meth.sig.returnType = ret → meth.name = y.name → (∀ U o, own_G s below n0 rm P U o → A U o) → own_Wins p e below A T (mkF m 0 L0 [])) :
    own_Con l Z n0 y bs maxL ret rm ws av h0 P := by
  refine MetFree.of_bodySF hpl hisR ?_
  intro p e s m args below meth c s₁ Bd hml0 hP hK
  obtain ⟨rfl, hZ, hh⟩ := hP
  have hnm := (name_of_methodNamed Bd.named Bd.method).1
  have X0 : own_St p l e rm s m _ below meth c Z n0 bs maxL y.cls s₁ h0 0 0 := ⟨[], Stand.of_body Bd, by rw [← hh, Bd.state]; rfl, Fr.nil n0, Z0, Bd.exec, Bd.bytes, hml0, findClass_of_methodNamed Bd.named, hZ, BodyLoose.notSynchronized Bd⟩
  obtain ⟨U, o, h1, h2⟩ := body p e s m below meth c s₁ (own_G s below n0 rm P) X0 Bd.returns hnm (fun _ _ g => g)
  exact ⟨U, o, castTop (ef m) h1, h2⟩
theorem own_ret0 (X : own_St p l e R s m args below meth c Z n0 bs maxL own T h cells slots) (hret : meth.sig.returnType = none) {P : Option Value → Heap → Prop} (fin : ∀ U o, own_G s below n0 R P U o → A U o) (hc : cells ≤ R.cells) (hs : slots ≤ R.slots) (hP : P none h) (d : own_ix bs pc .return_ 1 pc') : own_Wins p e below A T (mkF m pc L []) := by
  obtain ⟨locs, Y, eT, N, hn, hx, hby, hml, hown, hZ, hlk⟩ := X
  obtain ⟨fs, hr, hrun, hended, hW, hsame⟩ := Y.leave (v := none) (fun _ => rfl) hlk
  have eF : (T.setFrames fs).heap = h := eT
  exact ⟨_, _, Y.returnOut hx hret (hb hby d.1) hr, fin _ _ ⟨hrun, hended, _, _, rfl, ⟨N, by rw [eF]; exact hn, by rw [eF]; exact hP⟩, ⟨_, rfl⟩, hW, hsame.mono hc hs⟩⟩
theorem own_retJ (X : own_St p l e R s m args below meth c Z n0 bs maxL own T h cells slots) {z : Int64} (hret : meth.sig.returnType = some .long) {P : Option Value → Heap → Prop} (fin : ∀ U o, own_G s below n0 R P U o → A U o) (hc : cells ≤ R.cells) (hs : slots ≤ R.slots) (hP : P (some (.long z)) h) (d : own_ix bs pc .lreturn 1 pc') : own_Wins p e below A T (mkF m pc L (.long z :: st)) := by
  obtain ⟨locs, Y, eT, N, hn, hx, hby, hml, hown, hZ, hlk⟩ := X
  obtain ⟨fs, hr, hrun, hended, hW, hsame⟩ := Y.leave (v := (some (.long z))) (fun q => by rw [hret] at q; cases q) hlk
  have eF : (T.setFrames fs).heap = h := eT
  exact ⟨_, _, retOut Y hx hret rfl (Or.inr (Or.inl ⟨rfl, rfl, z, rfl⟩)) (hb hby d.1) hr, fin _ _ ⟨hrun, hended, _, _, rfl, ⟨N, by rw [eF]; exact hn, by rw [eF]; exact hP⟩, ⟨_, rfl⟩, hW, hsame.mono hc hs⟩⟩
theorem own_retI (X : own_St p l e R s m args below meth c Z n0 bs maxL own T h cells slots) {z : Int32} (hret : meth.sig.returnType = some .int) {P : Option Value → Heap → Prop} (fin : ∀ U o, own_G s below n0 R P U o → A U o) (hc : cells ≤ R.cells) (hs : slots ≤ R.slots) (hP : P (some (.int z)) h) (d : own_ix bs pc .ireturn 1 pc') : own_Wins p e below A T (mkF m pc L (.int z :: st)) := by
  obtain ⟨locs, Y, eT, N, hn, hx, hby, hml, hown, hZ, hlk⟩ := X
  obtain ⟨fs, hr, hrun, hended, hW, hsame⟩ := Y.leave (v := (some (.int z))) (fun q => by rw [hret] at q; cases q) hlk
  have eF : (T.setFrames fs).heap = h := eT
  exact ⟨_, _, retOut Y hx hret rfl (Or.inl ⟨rfl, Or.inl rfl, z, rfl⟩) (hb hby d.1) hr, fin _ _ ⟨hrun, hended, _, _, rfl, ⟨N, by rw [eF]; exact hn, by rw [eF]; exact hP⟩, ⟨_, rfl⟩, hW, hsame.mono hc hs⟩⟩
theorem own_retZ (X : own_St p l e R s m args below meth c Z n0 bs maxL own T h cells slots) {z : Int32} (hret : meth.sig.returnType = some .boolean) (hz : narrow .boolean (.int z) = .int z) {P : Option Value → Heap → Prop} (fin : ∀ U o, own_G s below n0 R P U o → A U o) (hc : cells ≤ R.cells) (hs : slots ≤ R.slots) (hP : P (some (.int z)) h) (d : own_ix bs pc .ireturn 1 pc') : own_Wins p e below A T (mkF m pc L (.int z :: st)) := by
  obtain ⟨locs, Y, eT, N, hn, hx, hby, hml, hown, hZ, hlk⟩ := X
  obtain ⟨fs, hr, hrun, hended, hW, hsame⟩ := Y.leave (v := (some (.int z))) (fun q => by rw [hret] at q; cases q) hlk
  have eF : (T.setFrames fs).heap = h := eT
  exact ⟨_, _, retOut Y hx hret hz (Or.inl ⟨rfl, Or.inr (Or.inl rfl), z, rfl⟩) (hb hby d.1) hr, fin _ _ ⟨hrun, hended, _, _, rfl, ⟨N, by rw [eF]; exact hn, by rw [eF]; exact hP⟩, ⟨_, rfl⟩, hW, hsame.mono hc hs⟩⟩
theorem own_retB (X : own_St p l e R s m args below meth c Z n0 bs maxL own T h cells slots) {z : Int32} (hret : meth.sig.returnType = some .byte) (hz : narrow .byte (.int z) = .int z) {P : Option Value → Heap → Prop} (fin : ∀ U o, own_G s below n0 R P U o → A U o) (hc : cells ≤ R.cells) (hs : slots ≤ R.slots) (hP : P (some (.int z)) h) (d : own_ix bs pc .ireturn 1 pc') : own_Wins p e below A T (mkF m pc L (.int z :: st)) := by
  obtain ⟨locs, Y, eT, N, hn, hx, hby, hml, hown, hZ, hlk⟩ := X
  obtain ⟨fs, hr, hrun, hended, hW, hsame⟩ := Y.leave (v := (some (.int z))) (fun q => by rw [hret] at q; cases q) hlk
  have eF : (T.setFrames fs).heap = h := eT
  exact ⟨_, _, retOut Y hx hret hz (Or.inl ⟨rfl, Or.inr (Or.inr (Or.inl rfl)), z, rfl⟩) (hb hby d.1) hr, fin _ _ ⟨hrun, hended, _, _, rfl, ⟨N, by rw [eF]; exact hn, by rw [eF]; exact hP⟩, ⟨_, rfl⟩, hW, hsame.mono hc hs⟩⟩
theorem own_retA (X : own_St p l e R s m args below meth c Z n0 bs maxL own T h cells slots) {z : Addr} {t : FieldType} (hret : meth.sig.returnType = some t) (ht : t.isReference = true) (hn' : narrow t (.ref z) = .ref z) {P : Option Value → Heap → Prop} (fin : ∀ U o, own_G s below n0 R P U o → A U o) (hc : cells ≤ R.cells) (hs : slots ≤ R.slots) (hP : P (some (.ref z)) h) (d : own_ix bs pc .areturn 1 pc') : own_Wins p e below A T (mkF m pc L (.ref z :: st)) := by
  obtain ⟨locs, Y, eT, N, hn, hx, hby, hml, hown, hZ, hlk⟩ := X
  obtain ⟨fs, hr, hrun, hended, hW, hsame⟩ := Y.leave (v := (some (.ref z))) (fun q => by rw [hret] at q; cases q) hlk
  have eF : (T.setFrames fs).heap = h := eT
  exact ⟨_, _, retOut Y hx hret hn' (Or.inr (Or.inr (Or.inr (Or.inr ⟨rfl, ht, rfl⟩)))) (hb hby d.1) hr, fin _ _ ⟨hrun, hended, _, _, rfl, ⟨N, by rw [eF]; exact hn, by rw [eF]; exact hP⟩, ⟨_, rfl⟩, hW, hsame.mono hc hs⟩⟩
theorem own_callS (X : own_St p l e R s m args below meth c Z n0 bs maxL own T h cells slots) {y : MethodName} {bs' : ByteArray} {maxL' : Nat} {ret' : Option FieldType} {rm : Room} {P : Option Value → Heap → Prop} {i : Nat} (argsL rest : List Value) {ps : List FieldType} {r : Option FieldType} (Wt : Nat) (hstk : st = argsL.reverse ++ rest) (w1 : (Jvm.Cond.methodLink own i y).before a0 Z = true) (w2 : (Jvm.Cond.static y).before a0 Z = true) (w3 : (Jvm.Cond.initialized y.cls).before a0 Z = true) (w4 : (Jvm.Cond.code y bs' maxL' ret').before a0 Z = true) (hy : y.cls ≠ "java/lang/invoke/MethodHandle" ∧ y.cls ≠ "java/lang/invoke/VarHandle")
    (C : own_Con l Z n0 y bs' maxL' ret' rm [] argsL.toArray h P) (d : own_ix bs pc (.invokestatic i) 3 pc') (hlen : parseMethodDescriptor y.desc = some ⟨ps, r⟩) (hl2 : argsL.length = ps.length) (hsz : L.size = maxL) (hW : 2 * 0 + (rest.map fun v => v.category).sum ≤ Wt) (hf : rm.frames + 1 ≤ R.frames) (hl : Wt + (maxL' + 11) + rm.locals ≤ R.locals) (hc : cells + rm.cells ≤ R.cells) (hs : slots + rm.slots ≤ R.slots)
    (kk : ∀ T' h' v, own_St p l e R s m args below meth c Z n0 bs maxL own T' h' (cells + rm.cells) (slots + rm.slots) → P v h' → own_Wins p e below A T' (mkF m pc' L (v.toList ++ rest))) : own_Wins p e below A T (mkF m pc L st) := by
  obtain ⟨locs, Y, eT, N, hn, hx, hby, hml, hown, hZ, hlk⟩ := X
  obtain ⟨d, rfl⟩ := d
  obtain ⟨v, _, ⟨T1, L1, k1, n1⟩, -, X1, ⟨Lc, hQ, l1, y1, z1⟩, st1⟩ := Jvm.LawKit.callS Y hx (y := y) hown (mvT hZ w1) (mvT hZ w2) (mvT hZ w3) (mvT hZ w4) hy (backOf (W := Wt) (bytes := bs') (maxL := maxL') (rm := rm) (Q := fun v h' L => Fr n0 L ∧ n0 ≤ h'.size ∧ P v h') C hZ w4 w3 hf hl) (g := mkF m pc L st) rfl (by rw [hml]; exact hsz) (argsL := argsL) (rest := rest) (lenOf hlen hl2) hstk hW (hb hby d) (fun _ _ => ⟨rfl, eT, hc, hs⟩)
  dsimp only [Pt.U, Pt.locs, Pt.cells, Pt.slots] at X1 l1 y1 z1 st1 hQ
  subst l1 y1 z1
  obtain ⟨N1, n1, hP⟩ := hQ
  exact own_by st1 (kk T1 _ v ⟨_, X1, rfl, Fr.app N N1, n1, hx, hby, hml, hown, hZ, hlk⟩ hP)
theorem own_callI (X : own_St p l e R s m args below meth c Z n0 bs maxL own T h cells slots) {y : MethodName} {bs' : ByteArray} {maxL' : Nat} {rm : Room} {P : Option Value → Heap → Prop} {i : Nat} (argsL rest : List Value) {ps : List FieldType} {r : Option FieldType} (Wt : Nat) {a : Addr} (hstk : st = argsL.reverse ++ .ref a :: rest) (hy1 : y.name = "<init>") (w1 : (Jvm.Cond.methodLink own i y).before a0 Z = true) (w2 : (Jvm.Cond.instanceMethod y).before a0 Z = true) (w3 : (Jvm.Cond.initialized y.cls).before a0 Z = true) (w4 : (Jvm.Cond.code y bs' maxL' none).before a0 Z = true) (hy : y.cls ≠ "java/lang/invoke/MethodHandle" ∧ y.cls ≠ "java/lang/invoke/VarHandle")
    (C : own_Con l Z n0 y bs' maxL' none rm [] (.ref a :: argsL).toArray h P) (d : own_ix bs pc (.invokespecial i) 3 pc') (hlen : parseMethodDescriptor y.desc = some ⟨ps, r⟩) (hl2 : argsL.length = ps.length) (hsz : L.size = maxL) (hW : 2 * 0 + (rest.map fun v => v.category).sum ≤ Wt) (hf : rm.frames + 1 ≤ R.frames) (hl : Wt + (maxL' + 11) + rm.locals ≤ R.locals) (hc : cells + rm.cells ≤ R.cells) (hs : slots + rm.slots ≤ R.slots)
    (kk : ∀ T' h' v, own_St p l e R s m args below meth c Z n0 bs maxL own T' h' (cells + rm.cells) (slots + rm.slots) → P v h' → own_Wins p e below A T' (mkF m pc' L (v.toList ++ rest))) : own_Wins p e below A T (mkF m pc L st) := by
  obtain ⟨locs, Y, eT, N, hn, hx, hby, hml, hown, hZ, hlk⟩ := X
  obtain ⟨d, rfl⟩ := d
  obtain ⟨v, _, ⟨T1, L1, k1, n1⟩, -, X1, ⟨Lc, hQ, l1, y1, z1⟩, st1⟩ := Y.specialBack hx (y := y) hy1 hown (mvT hZ w1) (mvT hZ w2) (mvT hZ w4) hy (backOf (W := Wt) (bytes := bs') (maxL := maxL') (rm := rm) (Q := fun v h' L => Fr n0 L ∧ n0 ≤ h'.size ∧ P v h') C hZ w4 w3 hf hl) (g := mkF m pc L st) rfl (by rw [hml]; exact hsz) (Steps.refl _) (a := a) (argsL := argsL) (rest := rest) (lenOf hlen hl2) hstk hW (hb hby d) (fun _ _ => ⟨rfl, eT, hc, hs⟩)
  dsimp only [Pt.U, Pt.locs, Pt.cells, Pt.slots] at X1 l1 y1 z1 st1 hQ
  subst l1 y1 z1
  obtain ⟨N1, n1, hP⟩ := hQ
  exact own_by (fun _ q => st1.trans q) (kk T1 _ v ⟨_, X1, rfl, Fr.app N N1, n1, hx, hby, hml, hown, hZ, hlk⟩ hP)
theorem own_callV (X : own_St p l e R s m args below meth c Z n0 bs maxL own T h cells slots) {y : MethodName} {bs' : ByteArray} {maxL' : Nat} {ret' : Option FieldType} {rm : Room} {P : Option Value → Heap → Prop} {i : Nat} (argsL rest : List Value) {ps : List FieldType} {r : Option FieldType} (Wt : Nat) {a : Addr} (hstk : st = argsL.reverse ++ .ref a :: rest) (w1 : (Jvm.Cond.methodLink own i y).before a0 Z = true) (w2 : (Jvm.Cond.declares y).before a0 Z = true) (w5 : (Jvm.Cond.selects y.cls y y).before a0 Z = true) (w6 : (Jvm.Cond.instanceMethod y).before a0 Z = true) (w3 : (Jvm.Cond.initialized y.cls).before a0 Z = true) (w4 : (Jvm.Cond.code y bs' maxL' ret').before a0 Z = true) (hy : y.cls ≠ "java/lang/invoke/MethodHandle" ∧ y.cls ≠ "java/lang/invoke/VarHandle") (E : Exa Z h a y.cls)
    (C : own_Con l Z n0 y bs' maxL' ret' rm [] (.ref a :: argsL).toArray h P) (d : own_ix bs pc (.invokevirtual i) 3 pc') (hlen : parseMethodDescriptor y.desc = some ⟨ps, r⟩) (hl2 : argsL.length = ps.length) (hsz : L.size = maxL) (hW : 2 * 0 + (rest.map fun v => v.category).sum ≤ Wt) (hf : rm.frames + 1 ≤ R.frames) (hl : Wt + (maxL' + 11) + rm.locals ≤ R.locals) (hc : cells + rm.cells ≤ R.cells) (hs : slots + rm.slots ≤ R.slots)
    (kk : ∀ T' h' v, own_St p l e R s m args below meth c Z n0 bs maxL own T' h' (cells + rm.cells) (slots + rm.slots) → P v h' → own_Wins p e below A T' (mkF m pc' L (v.toList ++ rest))) : own_Wins p e below A T (mkF m pc L st) := by
  obtain ⟨locs, Y, eT, N, hn, hx, hby, hml, hown, hZ, hlk⟩ := X
  obtain ⟨d, rfl⟩ := d
  obtain ⟨cq, kq, qa, qb, qc⟩ := isOf hZ eT E
  obtain ⟨v, _, ⟨T1, L1, k1, n1⟩, -, X1, ⟨Lc, hQ, l1, y1, z1⟩, st1⟩ := Y.virtualBack hx (y := y) (z := y) hown (mvT hZ w1) (mvT hZ w2) (notFace_of_selects (args := #[]) (mvT hZ w5)) (mvT hZ w5) (mvT hZ w6) hy (backOf (W := Wt) (bytes := bs') (maxL := maxL') (rm := rm) (Q := fun v h' L => Fr n0 L ∧ n0 ≤ h'.size ∧ P v h') C hZ w4 w3 hf hl) qa qc (g := mkF m pc L st) rfl (by rw [hml]; exact hsz) (Steps.refl _) (argsL := argsL) (rest := rest) (lenOf hlen hl2) hstk hW (hb hby d) (fun _ _ => ⟨rfl, eT, hc, hs⟩)
  dsimp only [Pt.U, Pt.locs, Pt.cells, Pt.slots] at X1 l1 y1 z1 st1 hQ
  subst l1 y1 z1
  obtain ⟨N1, n1, hP⟩ := hQ
  exact own_by (fun _ q => st1.trans q) (kk T1 _ v ⟨_, X1, rfl, Fr.app N N1, n1, hx, hby, hml, hown, hZ, hlk⟩ hP)
theorem own_callP (X : own_St p l e R s m args below meth c Z n0 bs maxL own T h cells slots) {y : MethodName} {bs' : ByteArray} {maxL' : Nat} {ret' : Option FieldType} {rm : Room} {P : Option Value → Heap → Prop} {i : Nat} (argsL rest : List Value) {ps : List FieldType} {r : Option FieldType} (Wt : Nat) {a : Addr} {kk' : Nat} (hstk : st = argsL.reverse ++ .ref a :: rest) (w1 : (Jvm.Cond.methodLink own i y).before a0 Z = true) (w2 : (Jvm.Cond.privateMethod y).before a0 Z = true) (w6 : (Jvm.Cond.instanceMethod y).before a0 Z = true) (w3 : (Jvm.Cond.initialized y.cls).before a0 Z = true) (w4 : (Jvm.Cond.code y bs' maxL' ret').before a0 Z = true) (wi : (Jvm.Cond.instantiable y.cls kk').before a0 Z = true) (hy : y.cls ≠ "java/lang/invoke/MethodHandle" ∧ y.cls ≠ "java/lang/invoke/VarHandle") (E : Exa Z h a y.cls)
    (C : own_Con l Z n0 y bs' maxL' ret' rm [] (.ref a :: argsL).toArray h P) (d : own_ix bs pc (.invokevirtual i) 3 pc') (hlen : parseMethodDescriptor y.desc = some ⟨ps, r⟩) (hl2 : argsL.length = ps.length) (hsz : L.size = maxL) (hW : 2 * 0 + (rest.map fun v => v.category).sum ≤ Wt) (hf : rm.frames + 1 ≤ R.frames) (hl : Wt + (maxL' + 11) + rm.locals ≤ R.locals) (hc : cells + rm.cells ≤ R.cells) (hs : slots + rm.slots ≤ R.slots)
    (kk : ∀ T' h' v, own_St p l e R s m args below meth c Z n0 bs maxL own T' h' (cells + rm.cells) (slots + rm.slots) → P v h' → own_Wins p e below A T' (mkF m pc' L (v.toList ++ rest))) : own_Wins p e below A T (mkF m pc L st) := by
  obtain ⟨locs, Y, eT, N, hn, hx, hby, hml, hown, hZ, hlk⟩ := X
  obtain ⟨d, rfl⟩ := d
  obtain ⟨cq, q1, q2⟩ := E.cell
  have hpr : s.PrivateAt y := Cond.privateMethod_at (mvP hZ w2 (args := #[]))
  obtain ⟨cI, kI, e1, e2, -, e3, -⟩ := Cond.instantiable_spec (mv (args := #[]) hZ wi)
  have hsel : (Jvm.Cond.selects y.cls y y).before args s = true := Jvm.Stand.selects_self_of_private e1 e2 (by cases hq : kI.isInterface <;> simp_all) hpr (mvT hZ w6) hy
  obtain ⟨v, _, ⟨T1, L1, k1, n1⟩, -, X1, ⟨Lc, hQ, l1, y1, z1⟩, st1⟩ := Y.privateBack hx (y := y) hown (mvT hZ w1) (mvT hZ w6) hsel hpr (mvT hZ w4) hy (backOf (W := Wt) (bytes := bs') (maxL := maxL') (rm := rm) (Q := fun v h' L => Fr n0 L ∧ n0 ≤ h'.size ∧ P v h') C hZ w4 w3 hf hl) (g := mkF m pc L st) rfl (by rw [hml]; exact hsz) (Steps.refl _) (a := a) (by rw [eT]; exact q1) q2 (argsL := argsL) (rest := rest) (lenOf hlen hl2) hstk hW (hb hby d) (fun _ _ => ⟨rfl, eT, hc, hs⟩)
  dsimp only [Pt.U, Pt.locs, Pt.cells, Pt.slots] at X1 l1 y1 z1 st1 hQ
  subst l1 y1 z1
  obtain ⟨N1, n1, hP⟩ := hQ
  exact own_by (fun _ q => st1.trans q) (kk T1 _ v ⟨_, X1, rfl, Fr.app N N1, n1, hx, hby, hml, hown, hZ, hlk⟩ hP)
end OwnLayer
theorem own_Lushr_bv (x : Int64) (q : Int32) (k : Nat) (hk : q.toBitVec.toNat % 64 = k) : (own_Lushr x q).toBitVec = x.toBitVec >>> k := by
  have h5 := (sm64 q k hk).2
  show x.toBitVec >>> ((q &&& 0x3f).toInt64.toBitVec % 64) = _
  rw [BitVec.ushiftRight_eq', BitVec.toNat_umod, (sm64 q k hk).1, BitVec.toNat_ofNat]
  congr 1
  show k % 2 ^ 64 % 64 = k
  omega
theorem own_Lshl_bv (x : Int64) (q : Int32) (k : Nat) (hk : q.toBitVec.toNat % 64 = k) : (own_Lshl x q).toBitVec = x.toBitVec <<< k := by
  show x.toBitVec <<< ((q &&& 0x3f).toInt64.toBitVec.smod 64) = _
  rw [BitVec.shiftLeft_eq', (sm64 q k hk).1, smod64 k (sm64 q k hk).2]
theorem own_Iushr_bv (x q : Int32) (k : Nat) (hk : q.toBitVec.toNat % 32 = k) : (own_Iushr x q).toBitVec = x.toBitVec >>> k := by
  have h1 : (q &&& 31).toBitVec.toNat = k := by
    show (q.toBitVec &&& (31 : Int32).toBitVec).toNat = _
    rw [BitVec.toNat_and, show (31 : Int32).toBitVec.toNat = 2 ^ 5 - 1 from by decide, Nat.and_two_pow_sub_one_eq_mod]; exact hk
  show x.toBitVec >>> ((q &&& 31).toBitVec % 32) = _
  rw [BitVec.ushiftRight_eq', BitVec.toNat_umod, h1]
  congr 1
  show k % 32 = k
  omega

theorem own_idx_iff {j : Int32} {k : Nat} : own_idx j k ↔ j.toInt = (k : Int) := by
  have h0 : (0 : Int32).toInt = 0 := by decide
  have h1 : j.toNatClampNeg = j.toInt.toNat := rfl
  rw [own_idx, Int32.lt_iff_toInt_lt, h0, h1]
  omega
theorem own_idx_nat {k : Nat} (h : k < 2147483648) : own_idx (Int32.ofNat k) k := own_idx_iff.mpr (Int32.toInt_ofNat_of_lt h)
theorem own_idx_add {a b : Int32} {m n : Nat} (ha : own_idx a m) (hb : own_idx b n) (h : m + n < 2147483648) : own_idx (a + b) (m + n) := by
  rw [own_idx_iff] at *
  have h1 := c_iadd a b
  have h2 := rng32 (a + b)
  omega
theorem own_idx_sub {a b : Int32} {m n : Nat} (ha : own_idx a m) (hb : own_idx b n) (h : n ≤ m) : own_idx (a - b) (m - n) := by
  rw [own_idx_iff] at *
  have h1 := c_isub a b
  have h2 := rng32 (a - b)
  have h3 := rng32 a
  omega
theorem own_idx_lt {a b : Int32} {m n : Nat} (ha : own_idx a m) (hb : own_idx b n) : a < b ↔ m < n := by
  rw [own_idx_iff] at *
  rw [Int32.lt_iff_toInt_lt]
  omega
theorem own_idx_eq {a b : Int32} {m n : Nat} (ha : own_idx a m) (hb : own_idx b n) : a = b ↔ m = n := by
  rw [own_idx_iff] at *
  rw [← Int32.toInt_inj]
  omega
theorem own_idx_range {a : Int32} {m : Nat} (ha : own_idx a m) : m < 2147483648 := by
  rw [own_idx_iff] at ha
  have := rng32 a
  omega
theorem own_idx_val {a : Int32} {m : Nat} (ha : own_idx a m) : a = Int32.ofNat m := (own_idx_eq ha (own_idx_nat (own_idx_range ha))).mpr rfl
theorem own_succ (i : Nat) : Int32.ofNat i + 1 = Int32.ofNat (i + 1) := by
  rw [Int32.ofNat_add]; rfl
theorem own_mod_idx (z : Int32) (d : Int32) (n : Nat) (hd : own_idx d n) (hn : 0 < n) : ∃ k, k < n ∧ own_idx ((z &&& 2147483647) % d) k := by
  have h1 := c_mask z 2147483647 31 (by decide) (by decide)
  have hd' := own_idx_iff.mp hd
  have h2 := (c_irem (z &&& 2147483647) d n hd').1 (by rw [h1]; omega)
  refine ⟨((z &&& 2147483647).toInt % (n : Int)).toNat, ?_, ?_⟩
  · have := Int.emod_lt_of_pos (z &&& 2147483647).toInt (show (0 : Int) < n by omega)
    have := Int.emod_nonneg (z &&& 2147483647).toInt (show (n : Int) ≠ 0 by omega)
    omega
  · rw [own_idx_iff, h2]
    have := Int.emod_nonneg (z &&& 2147483647).toInt (show (n : Int) ≠ 0 by omega)
    omega

theorem own_idx_bv {j : Int32} {k : Nat} (h : own_idx j k) : j.toBitVec.toNat = k := by
  have h1 := own_idx_iff.mp h
  have h2 := own_idx_range h
  have h3 : j.toInt = j.toBitVec.toInt := rfl
  rw [h3, BitVec.toInt_eq_toNat_cond] at h1
  split at h1 <;> omega
theorem own_idx_sh {j : Int32} {k : Nat} (h : own_idx j k) (hk : k < 64) : j.toBitVec.toNat % 64 = k := by rw [own_idx_bv h]; omega
theorem own_not (x : Int64) : (x ^^^ (-1 : Int64)).toBitVec = ~~~ x.toBitVec := by
  rw [Int64.toBitVec_xor, show (-1 : Int64).toBitVec = BitVec.allOnes 64 by decide, BitVec.xor_allOnes]
/-- one bit of a long, as a long -/
theorem own_bit1 (x : Int64) (j : Int32) (k : Nat) (h : own_idx j k) (hk : k < 64) : (own_Lushr x j) &&& (1 : Int64) = if x.toBitVec.getLsbD k then 1 else 0 := by
  apply Int64.toBitVec_inj.mp
  rw [Int64.toBitVec_and, own_Lushr_bv x j k (own_idx_sh h hk), show (1 : Int64).toBitVec = 1#64 by decide]
  have e : (if x.toBitVec.getLsbD k then (1 : Int64) else 0).toBitVec = if x.toBitVec.getLsbD k then 1#64 else 0#64 := by split <;> rfl
  rw [e]
  apply BitVec.eq_of_getLsbD_eq
  intro i hi
  rw [BitVec.getLsbD_and, BitVec.getLsbD_ushiftRight, BitVec.getLsbD_one]
  by_cases h0 : i = 0
  · subst h0; cases hx : x.toBitVec.getLsbD k <;> simp [hx]
  · cases hx : x.toBitVec.getLsbD k <;> simp [h0]
theorem own_div64 {j : Int32} {k : Nat} (h : own_idx j k) : own_idx (j / (64 : Int32)) (k / 64) ∧ own_idx (j % (64 : Int32)) (k % 64) := by
  have h1 := own_idx_iff.mp h
  have h2 := (c_idiv j 64 64 (by decide) (by decide)).1 (by omega)
  have h3 := (c_irem j 64 64 (by decide)).1 (by omega)
  exact ⟨own_idx_iff.mpr (by omega), own_idx_iff.mpr (by omega)⟩
theorem own_and_idx (z m : Int32) (b : Nat) (hb : b ≤ 31) (hm : m.toBitVec.toNat = 2 ^ b - 1) : ∃ k, k < 2 ^ b ∧ own_idx (z &&& m) k := by
  have h1 := c_mask z m b hb hm
  have h2 : (0 : Int) < ((2 ^ b : Nat) : Int) := by have := Nat.two_pow_pos b; omega
  have h3 := Int.emod_nonneg z.toInt (show ((2 ^ b : Nat) : Int) ≠ 0 by omega)
  have h4 := Int.emod_lt_of_pos z.toInt h2
  exact ⟨(z &&& m).toInt.toNat, by omega, own_idx_iff.mpr (by omega)⟩
theorem own_ushr_idx {j q : Int32} {k : Nat} (n : Nat) (h : own_idx j k) (hq : q.toBitVec.toNat % 32 = n) (hn : 0 < n) : own_idx (own_Iushr j q) (k / 2 ^ n) := by
  have h1 := own_idx_iff.mp h
  have h2 := own_idx_range h
  have h3 := c_iushr j q n hq hn
  rw [own_idx_iff]
  show ((j.toUInt32 >>> (q &&& 31).toUInt32).toInt32).toInt = _
  rw [h3, h1, show (k : Int) % 4294967296 = (k : Int) by omega]
  exact (Int.natCast_ediv _ _).symm
theorem own_mul64 {j : Int32} {k : Nat} (h : own_idx j k) (hk : 64 * k < 2147483648) : own_idx (j * (64 : Int32)) (64 * k) := by
  rw [own_idx_iff] at *
  have h1 := c_imul j 64
  have h2 := rng32 (j * 64)
  have h3 : (64 : Int32).toInt = 64 := by decide
  rw [h3, h] at h1
  omega

def own_o1 (g : Nat → Int64) (p : Nat) (x : Int64) : Nat → Int64 := fun j => if j = p then g j ||| x else g j
def own_spill (x : Int64) (sh : Int32) : Int64 := if sh = 0 then 0 else own_Lushr x (64 - sh)
/-- what the first i words leave in the target -/
def own_ors (g F : Nat → Int64) (W : Nat) (sh : Int32) : Nat → Nat → Int64
  | 0 => g
  | i + 1 => own_o1 (own_o1 (own_ors g F W sh i) (W + i) (own_Lshl (F i) sh)) (W + i + 1) (own_spill (F i) sh)
theorem own_up_o1 (g : Nat → Int64) (p : Nat) (x : Int64) (v : Int64) (hv : v = g p) : (own_up (fun j => .long (g j)) p (.long (v ||| x))) = (fun j => .long (own_o1 g p x j)) := by
  subst hv
  funext j
  simp only [own_up, own_o1]
  split
  · rename_i h; subst h; rfl
  · rfl
theorem own_o1_0 (g : Nat → Int64) (p : Nat) : own_o1 g p 0 = g := by
  funext j; simp only [own_o1]; split <;> simp

theorem own_spill_bv (x : Int64) (sh : Int32) (S : Nat) (h : own_idx sh S) (hS : S < 64) : (own_spill x sh).toBitVec = x.toBitVec >>> (64 - S) := by
  rw [own_spill]
  split
  · rename_i h0
    have : S = 0 := (own_idx_eq h (n := 0) ⟨by decide, by decide⟩).mp h0
    subst this
    apply BitVec.eq_of_getLsbD_eq
    intro i hi
    simp
  · rename_i h0
    have : S ≠ 0 := fun q => h0 ((own_idx_eq h (n := 0) ⟨by decide, by decide⟩).mpr q)
    exact own_Lushr_bv x _ (64 - S) (own_idx_sh (own_idx_sub (m := 64) ⟨by decide, by decide⟩ h (by omega)) (by omega))
theorem own_ors_bit (g F : Nat → Int64) (W S : Nat) (sh : Int32) (h : own_idx sh S) (hS : S < 64) (j b : Nat) (hb : b < 64) : ∀ n, (own_ors g F W sh n j).toBitVec.getLsbD b =
    ((g j).toBitVec.getLsbD b || (decide (W ≤ j ∧ j < W + n ∧ S ≤ b) && (F (j - W)).toBitVec.getLsbD (b - S)) || (decide (W + 1 ≤ j ∧ j < W + 1 + n ∧ b < S) && (F (j - W - 1)).toBitVec.getLsbD (64 + b - S))) := by
  intro n
  induction n with
  | zero =>
    have e1 : decide (W ≤ j ∧ j < W + 0 ∧ S ≤ b) = false := by simp; omega
    have e2 : decide (W + 1 ≤ j ∧ j < W + 1 + 0 ∧ b < S) = false := by simp; omega
    rw [e1, e2]; simp [own_ors]
  | succ n ih =>
    have hA : ∀ (u : Nat → Int64) (p : Nat) (x : Int64), (own_o1 u p x j).toBitVec.getLsbD b = ((u j).toBitVec.getLsbD b || (decide (j = p) && x.toBitVec.getLsbD b)) := by
      intro u p x
      simp only [own_o1]
      split
      · rename_i q; rw [Int64.toBitVec_or, BitVec.getLsbD_or]; simp [q]
      · rename_i q; simp [q]
    rw [own_ors, hA, hA, ih, own_Lshl_bv _ sh S (own_idx_sh h hS), own_spill_bv _ sh S h hS, BitVec.getLsbD_shiftLeft, BitVec.getLsbD_ushiftRight]
    generalize (g j).toBitVec.getLsbD b = G0
    by_cases c1 : j = W + n
    · have c2 : ¬ j = W + n + 1 := by omega
      have e1 : decide (W ≤ j ∧ j < W + n ∧ S ≤ b) = false := by simp; omega
      have e2 : decide (W ≤ j ∧ j < W + (n + 1) ∧ S ≤ b) = decide (S ≤ b) := by rw [decide_eq_decide]; omega
      have e3 : decide (W + 1 ≤ j ∧ j < W + 1 + n ∧ b < S) = decide (W + 1 ≤ j ∧ j < W + 1 + (n + 1) ∧ b < S) := by rw [decide_eq_decide]; omega
      rw [e1, e2, ← e3, show j - W = n by omega]
      by_cases c3 : b < S
      · simp [c1, c3, hb, show ¬ S ≤ b by omega]
      · have e4 : decide (W + 1 ≤ j ∧ j < W + 1 + n ∧ b < S) = false := by simp; omega
        rw [e4]
        simp [c1, c3, hb, show S ≤ b by omega]
    · by_cases c2 : j = W + n + 1
      · have e1 : decide (W ≤ j ∧ j < W + n ∧ S ≤ b) = false := by simp; omega
        have e2 : decide (W ≤ j ∧ j < W + (n + 1) ∧ S ≤ b) = false := by simp; omega
        have e3 : decide (W + 1 ≤ j ∧ j < W + 1 + n ∧ b < S) = false := by simp; omega
        have e4 : decide (W + 1 ≤ j ∧ j < W + 1 + (n + 1) ∧ b < S) = decide (b < S) := by rw [decide_eq_decide]; omega
        rw [e1, e2, e3, e4, show j - W - 1 = n by omega]
        by_cases c3 : b < S
        · simp [c2, c3, show 64 - S + b = 64 + b - S by omega]
        · have : (F n).toBitVec.getLsbD (64 - S + b) = false := BitVec.getLsbD_of_ge _ _ (by omega)
          simp [c2, c3, this]
      · have e1 : decide (W ≤ j ∧ j < W + n ∧ S ≤ b) = decide (W ≤ j ∧ j < W + (n + 1) ∧ S ≤ b) := by rw [decide_eq_decide]; omega
        have e2 : decide (W + 1 ≤ j ∧ j < W + 1 + n ∧ b < S) = decide (W + 1 ≤ j ∧ j < W + 1 + (n + 1) ∧ b < S) := by rw [decide_eq_decide]; omega
        rw [e1, e2]
        simp [c1, c2]
def own_win (F : Nat → Int64) (at_ ib n : Nat) : Int64 := if at_ ≤ ib ∧ ib - at_ < 64 * n then (if (F ((ib - at_) / 64)).toBitVec.getLsbD ((ib - at_) % 64) then 1 else 0) else 0
theorem own_final (g F : Nat → Int64) (W S n ib : Nat) (sh q : Int32) (h : own_idx sh S) (hS : S < 64) (hq : own_idx q (ib % 64)) : (own_Lushr (own_ors g F W sh n (ib / 64)) q) &&& (1 : Int64) = ((own_Lushr (g (ib / 64)) q) &&& (1 : Int64)) ||| own_win F (64 * W + S) ib n := by
  rw [own_bit1 _ q _ hq (by omega), own_bit1 _ q _ hq (by omega), own_ors_bit g F W S sh h hS _ _ (by omega) n, own_win]
  generalize (g (ib / 64)).toBitVec.getLsbD (ib % 64) = G0
  by_cases c : S ≤ ib % 64
  · have e2 : decide (W + 1 ≤ ib / 64 ∧ ib / 64 < W + 1 + n ∧ ib % 64 < S) = false := by simp; omega
    rw [e2]
    by_cases c1 : W ≤ ib / 64 ∧ ib / 64 < W + n
    · rw [if_pos (show 64 * W + S ≤ ib ∧ ib - (64 * W + S) < 64 * n by omega), show (ib - (64 * W + S)) / 64 = ib / 64 - W by omega, show (ib - (64 * W + S)) % 64 = ib % 64 - S by omega]
      have e1 : decide (W ≤ ib / 64 ∧ ib / 64 < W + n ∧ S ≤ ib % 64) = true := by simp; omega
      rw [e1]
      generalize (F (ib / 64 - W - 1)).toBitVec.getLsbD (64 + ib % 64 - S) = u
      generalize (F (ib / 64 - W)).toBitVec.getLsbD (ib % 64 - S) = v
      cases G0 <;> cases u <;> cases v <;> decide
    · rw [if_neg (show ¬ (64 * W + S ≤ ib ∧ ib - (64 * W + S) < 64 * n) by omega)]
      have e1 : decide (W ≤ ib / 64 ∧ ib / 64 < W + n ∧ S ≤ ib % 64) = false := by simp; omega
      rw [e1]
      cases G0 <;> simp
  · have e1 : decide (W ≤ ib / 64 ∧ ib / 64 < W + n ∧ S ≤ ib % 64) = false := by simp; omega
    rw [e1]
    by_cases c1 : W + 1 ≤ ib / 64 ∧ ib / 64 < W + 1 + n
    · rw [if_pos (show 64 * W + S ≤ ib ∧ ib - (64 * W + S) < 64 * n by omega), show (ib - (64 * W + S)) / 64 = ib / 64 - W - 1 by omega, show (ib - (64 * W + S)) % 64 = 64 + ib % 64 - S by omega]
      have e2 : decide (W + 1 ≤ ib / 64 ∧ ib / 64 < W + 1 + n ∧ ib % 64 < S) = true := by simp; omega
      rw [e2]
      generalize (F (ib / 64 - W - 1)).toBitVec.getLsbD (64 + ib % 64 - S) = u
      generalize (F (ib / 64 - W)).toBitVec.getLsbD (ib % 64 - S) = v
      cases G0 <;> cases u <;> cases v <;> decide
    · rw [if_neg (show ¬ (64 * W + S ≤ ib ∧ ib - (64 * W + S) < 64 * n) by omega)]
      have e2 : decide (W + 1 ≤ ib / 64 ∧ ib / 64 < W + 1 + n ∧ ib % 64 < S) = false := by simp; omega
      rw [e2]
      cases G0 <;> simp
theorem own_cnt (z : Int32) : ∃ n, n < 3 ∧ own_idx ((own_Iushr z 2) % 3) n := by
  have h1 : (own_Iushr z 2).toInt = (z.toInt % 4294967296) / (2 ^ 2 : Nat) := c_iushr z 2 2 (by decide) (by decide)
  have h2 := (c_irem (own_Iushr z 2) 3 3 (by decide)).1 (by omega)
  exact ⟨((own_Iushr z 2) % 3).toInt.toNat, by omega, own_idx_iff.mpr (by omega)⟩

theorem own_low6 (j : Int32) (k : Nat) (h : own_idx j k) : own_idx (j &&& (63 : Int32)) (k % 64) := by
  have h1 := c_mask j 63 6 (by decide) (by decide)
  have h2 := own_idx_iff.mp h
  rw [own_idx_iff, h1, h2]
  exact (Int.natCast_emod _ _).symm
theorem own_old (t : Int64) (ib : Nat) (hib : ib < 256) (u : Int32) (hu : own_idx u (ib / 64)) (h : (u &&& (1 : Int32)) = (0 : Int32)) : t = (fun j => ([t, (t ^^^ (-1 : Int64)), t, (t ^^^ (-1 : Int64))] : List Int64).getD j 0) (ib / 64) := by
  obtain rfl := own_idx_val hu
  have hj : ib / 64 < 4 := by omega
  generalize ib / 64 = j at *
  match j, hj, h with
  | 0, _, _ => rfl
  | 1, _, h => exact absurd h (by decide)
  | 2, _, _ => rfl
  | 3, _, h => exact absurd h (by decide)
theorem own_old' (t : Int64) (ib : Nat) (hib : ib < 256) (u : Int32) (hu : own_idx u (ib / 64)) (h : ¬ (u &&& (1 : Int32)) = (0 : Int32)) : (t ^^^ (-1 : Int64)) = (fun j => ([t, (t ^^^ (-1 : Int64)), t, (t ^^^ (-1 : Int64))] : List Int64).getD j 0) (ib / 64) := by
  obtain rfl := own_idx_val hu
  have hj : ib / 64 < 4 := by omega
  generalize ib / 64 = j at *
  match j, hj, h with
  | 0, _, h => exact absurd (by decide) h
  | 1, _, _ => rfl
  | 2, _, h => exact absurd (by decide) h
  | 3, _, _ => rfl
theorem own_neg {a b d : Int32} {m n : Nat} (ha : own_idx a m) (hb : own_idx b n) (hd : b - a = d) (h : d < (0 : Int32)) : n < m := by
  rw [own_idx_iff] at *
  have h1 := c_isub b a
  have h2 := rng32 (b - a)
  have h3 := rng32 a
  have h4 := rng32 b
  rw [Int32.lt_iff_toInt_lt, ← hd, show (0 : Int32).toInt = 0 by decide] at h
  omega
theorem own_nneg {a b d : Int32} {m n : Nat} (ha : own_idx a m) (hb : own_idx b n) (hd : b - a = d) (h : ¬ d < (0 : Int32)) : m ≤ n := by
  rw [own_idx_iff] at *
  have h1 := c_isub b a
  have h2 := rng32 (b - a)
  have h3 := rng32 a
  have h4 := rng32 b
  rw [Int32.lt_iff_toInt_lt, ← hd, show (0 : Int32).toInt = 0 by decide] at h
  omega
theorem own_d_prog_37_method_8_code_0 : own_il prog_37_method_8_code 0 1 1 := Or.inl ⟨1, by decide +kernel, rfl, rfl⟩
theorem own_d_prog_37_method_8_code_1 : own_ik prog_37_method_8_code 1 64 3 := ⟨64, Or.inr (Or.inl ⟨by decide +kernel, by decide, rfl⟩)⟩
theorem own_d_prog_37_method_8_code_3 : own_ix prog_37_method_8_code 3 .irem 1 4 := ⟨by decide +kernel, rfl⟩
theorem own_d_prog_37_method_8_code_4 : own_si prog_37_method_8_code 4 5 6 := Or.inr ⟨by decide +kernel, rfl⟩
theorem own_d_prog_37_method_8_code_6 : own_ik prog_37_method_8_code 6 0 7 := ⟨0, Or.inl ⟨by decide +kernel, by decide, rfl⟩⟩
theorem own_d_prog_37_method_8_code_7 : own_si prog_37_method_8_code 7 6 9 := Or.inr ⟨by decide +kernel, rfl⟩
theorem own_d_prog_37_method_8_code_9 : own_il prog_37_method_8_code 9 6 11 := Or.inr ⟨by decide +kernel, rfl⟩
theorem own_d_prog_37_method_8_code_11 : own_il prog_37_method_8_code 11 4 13 := Or.inr ⟨by decide +kernel, rfl⟩
theorem own_d_prog_37_method_8_code_13 : own_icm prog_37_method_8_code 13 .ge 16 89 := ⟨76, by decide +kernel, rfl, by decide, by decide⟩
theorem own_d_prog_37_method_8_code_89 : own_ix prog_37_method_8_code 89 .return_ 1 90 := ⟨by decide +kernel, rfl⟩
theorem own_d_prog_37_method_8_code_16 : own_al prog_37_method_8_code 16 2 17 := Or.inl ⟨2, by decide +kernel, rfl, rfl⟩
theorem own_d_prog_37_method_8_code_17 : own_il prog_37_method_8_code 17 3 18 := Or.inl ⟨3, by decide +kernel, rfl, rfl⟩
theorem own_d_prog_37_method_8_code_18 : own_il prog_37_method_8_code 18 6 20 := Or.inr ⟨by decide +kernel, rfl⟩
theorem own_d_prog_37_method_8_code_20 : own_ix prog_37_method_8_code 20 .iadd 1 21 := ⟨by decide +kernel, rfl⟩
theorem own_d_prog_37_method_8_code_21 : own_ix prog_37_method_8_code 21 .laload 1 22 := ⟨by decide +kernel, rfl⟩
theorem own_d_prog_37_method_8_code_22 : own_sl prog_37_method_8_code 22 7 24 := Or.inr ⟨by decide +kernel, rfl⟩
theorem own_d_prog_37_method_8_code_24 : own_al prog_37_method_8_code 24 0 25 := Or.inl ⟨0, by decide +kernel, rfl, rfl⟩
theorem own_d_prog_37_method_8_code_25 : own_il prog_37_method_8_code 25 1 26 := Or.inl ⟨1, by decide +kernel, rfl, rfl⟩
theorem own_d_prog_37_method_8_code_26 : own_ik prog_37_method_8_code 26 64 28 := ⟨64, Or.inr (Or.inl ⟨by decide +kernel, by decide, rfl⟩)⟩
theorem own_d_prog_37_method_8_code_28 : own_ix prog_37_method_8_code 28 .idiv 1 29 := ⟨by decide +kernel, rfl⟩
theorem own_d_prog_37_method_8_code_29 : own_il prog_37_method_8_code 29 6 31 := Or.inr ⟨by decide +kernel, rfl⟩
theorem own_d_prog_37_method_8_code_31 : own_ix prog_37_method_8_code 31 .iadd 1 32 := ⟨by decide +kernel, rfl⟩
theorem own_d_prog_37_method_8_code_32 : own_ix prog_37_method_8_code 32 .dup2 1 33 := ⟨by decide +kernel, rfl⟩
theorem own_d_prog_37_method_8_code_33 : own_ix prog_37_method_8_code 33 .laload 1 34 := ⟨by decide +kernel, rfl⟩
theorem own_d_prog_37_method_8_code_34 : own_ll prog_37_method_8_code 34 7 36 := Or.inr ⟨by decide +kernel, rfl⟩
theorem own_d_prog_37_method_8_code_36 : own_il prog_37_method_8_code 36 5 38 := Or.inr ⟨by decide +kernel, rfl⟩
theorem own_d_prog_37_method_8_code_38 : own_ix prog_37_method_8_code 38 .lshl 1 39 := ⟨by decide +kernel, rfl⟩
theorem own_d_prog_37_method_8_code_39 : own_ix prog_37_method_8_code 39 .lor 1 40 := ⟨by decide +kernel, rfl⟩
theorem own_d_prog_37_method_8_code_40 : own_ix prog_37_method_8_code 40 .lastore 1 41 := ⟨by decide +kernel, rfl⟩
theorem own_d_prog_37_method_8_code_41 : own_il prog_37_method_8_code 41 5 43 := Or.inr ⟨by decide +kernel, rfl⟩
theorem own_d_prog_37_method_8_code_43 : own_ifc prog_37_method_8_code 43 .ne 46 50 := ⟨7, by decide +kernel, rfl, by decide, by decide⟩
theorem own_d_prog_37_method_8_code_46 : own_lk prog_37_method_8_code 46 0 47 := ⟨0, by decide +kernel, by decide, rfl⟩
theorem own_d_prog_37_method_8_code_47 : own_gt prog_37_method_8_code 47 58 := ⟨11, by decide +kernel, by decide, by decide⟩
theorem own_d_prog_37_method_8_code_50 : own_ll prog_37_method_8_code 50 7 52 := Or.inr ⟨by decide +kernel, rfl⟩
theorem own_d_prog_37_method_8_code_52 : own_ik prog_37_method_8_code 52 64 54 := ⟨64, Or.inr (Or.inl ⟨by decide +kernel, by decide, rfl⟩)⟩
theorem own_d_prog_37_method_8_code_54 : own_il prog_37_method_8_code 54 5 56 := Or.inr ⟨by decide +kernel, rfl⟩
theorem own_d_prog_37_method_8_code_56 : own_ix prog_37_method_8_code 56 .isub 1 57 := ⟨by decide +kernel, rfl⟩
theorem own_d_prog_37_method_8_code_57 : own_ix prog_37_method_8_code 57 .lushr 1 58 := ⟨by decide +kernel, rfl⟩
theorem own_d_prog_37_method_8_code_58 : own_sl prog_37_method_8_code 58 9 60 := Or.inr ⟨by decide +kernel, rfl⟩
theorem own_d_prog_37_method_8_code_60 : own_ll prog_37_method_8_code 60 9 62 := Or.inr ⟨by decide +kernel, rfl⟩
theorem own_d_prog_37_method_8_code_62 : own_lk prog_37_method_8_code 62 0 63 := ⟨0, by decide +kernel, by decide, rfl⟩
theorem own_d_prog_37_method_8_code_63 : own_ix prog_37_method_8_code 63 .lcmp 1 64 := ⟨by decide +kernel, rfl⟩
theorem own_d_prog_37_method_8_code_64 : own_ifc prog_37_method_8_code 64 .eq 67 83 := ⟨19, by decide +kernel, rfl, by decide, by decide⟩
theorem own_d_prog_37_method_8_code_67 : own_al prog_37_method_8_code 67 0 68 := Or.inl ⟨0, by decide +kernel, rfl, rfl⟩
theorem own_d_prog_37_method_8_code_68 : own_il prog_37_method_8_code 68 1 69 := Or.inl ⟨1, by decide +kernel, rfl, rfl⟩
theorem own_d_prog_37_method_8_code_69 : own_ik prog_37_method_8_code 69 64 71 := ⟨64, Or.inr (Or.inl ⟨by decide +kernel, by decide, rfl⟩)⟩
theorem own_d_prog_37_method_8_code_71 : own_ix prog_37_method_8_code 71 .idiv 1 72 := ⟨by decide +kernel, rfl⟩
theorem own_d_prog_37_method_8_code_72 : own_il prog_37_method_8_code 72 6 74 := Or.inr ⟨by decide +kernel, rfl⟩
theorem own_d_prog_37_method_8_code_74 : own_ix prog_37_method_8_code 74 .iadd 1 75 := ⟨by decide +kernel, rfl⟩
theorem own_d_prog_37_method_8_code_75 : own_ik prog_37_method_8_code 75 1 76 := ⟨1, Or.inl ⟨by decide +kernel, by decide, rfl⟩⟩
theorem own_d_prog_37_method_8_code_76 : own_ix prog_37_method_8_code 76 .iadd 1 77 := ⟨by decide +kernel, rfl⟩
theorem own_d_prog_37_method_8_code_77 : own_ix prog_37_method_8_code 77 .dup2 1 78 := ⟨by decide +kernel, rfl⟩
theorem own_d_prog_37_method_8_code_78 : own_ix prog_37_method_8_code 78 .laload 1 79 := ⟨by decide +kernel, rfl⟩
theorem own_d_prog_37_method_8_code_79 : own_ll prog_37_method_8_code 79 9 81 := Or.inr ⟨by decide +kernel, rfl⟩
theorem own_d_prog_37_method_8_code_81 : own_ix prog_37_method_8_code 81 .lor 1 82 := ⟨by decide +kernel, rfl⟩
theorem own_d_prog_37_method_8_code_82 : own_ix prog_37_method_8_code 82 .lastore 1 83 := ⟨by decide +kernel, rfl⟩
theorem own_d_prog_37_method_8_code_83 : own_ii prog_37_method_8_code 83 6 1 86 := ⟨1, by decide +kernel, by decide, rfl⟩
theorem own_d_prog_37_method_8_code_86 : own_gt prog_37_method_8_code 86 9 := ⟨(-77), by decide +kernel, by decide, by decide⟩
theorem own_pn_com_example_levelweave_levelweave_cli_WordBits : plainName "com/example/levelweave/levelweave/cli/WordBits" = true := by first | (simp [plainName, overriddenIn]; done) | decide +kernel
theorem own_d_code_0 : own_ik code 0 3 1 := ⟨3, Or.inl ⟨by decide +kernel, by decide, rfl⟩⟩
theorem own_d_code_1 : own_ix code 1 (.newarray .long) 2 3 := ⟨by decide +kernel, rfl⟩
theorem own_d_code_3 : own_ix code 3 .dup 1 4 := ⟨by decide +kernel, rfl⟩
theorem own_d_code_4 : own_ik code 4 0 5 := ⟨0, Or.inl ⟨by decide +kernel, by decide, rfl⟩⟩
theorem own_d_code_5 : own_ll code 5 0 6 := Or.inl ⟨0, by decide +kernel, rfl, rfl⟩
theorem own_d_code_6 : own_ix code 6 .lastore 1 7 := ⟨by decide +kernel, rfl⟩
theorem own_d_code_7 : own_ix code 7 .dup 1 8 := ⟨by decide +kernel, rfl⟩
theorem own_d_code_8 : own_ik code 8 1 9 := ⟨1, Or.inl ⟨by decide +kernel, by decide, rfl⟩⟩
theorem own_d_code_9 : own_ll code 9 2 10 := Or.inl ⟨2, by decide +kernel, rfl, rfl⟩
theorem own_d_code_10 : own_ix code 10 .lastore 1 11 := ⟨by decide +kernel, rfl⟩
theorem own_d_code_11 : own_ix code 11 .dup 1 12 := ⟨by decide +kernel, rfl⟩
theorem own_d_code_12 : own_ik code 12 2 13 := ⟨2, Or.inl ⟨by decide +kernel, by decide, rfl⟩⟩
theorem own_d_code_13 : own_ll code 13 0 14 := Or.inl ⟨0, by decide +kernel, rfl, rfl⟩
theorem own_d_code_14 : own_ix code 14 (.ldc2_w 7) 3 17 := ⟨by decide +kernel, rfl⟩
theorem own_d_code_17 : own_ix code 17 .lxor 1 18 := ⟨by decide +kernel, rfl⟩
theorem own_d_code_18 : own_ix code 18 .lastore 1 19 := ⟨by decide +kernel, rfl⟩
theorem own_d_code_19 : own_sa code 19 9 21 := Or.inr ⟨by decide +kernel, rfl⟩
theorem own_d_code_21 : own_il code 21 7 23 := Or.inr ⟨by decide +kernel, rfl⟩
theorem own_d_code_23 : own_ik code 23 1 24 := ⟨1, Or.inl ⟨by decide +kernel, by decide, rfl⟩⟩
theorem own_d_code_24 : own_ix code 24 .iand 1 25 := ⟨by decide +kernel, rfl⟩
theorem own_d_code_25 : own_si code 25 10 27 := Or.inr ⟨by decide +kernel, rfl⟩
theorem own_d_code_27 : own_il code 27 7 29 := Or.inr ⟨by decide +kernel, rfl⟩
theorem own_d_code_29 : own_ik code 29 1 30 := ⟨1, Or.inl ⟨by decide +kernel, by decide, rfl⟩⟩
theorem own_d_code_30 : own_ix code 30 .iushr 1 31 := ⟨by decide +kernel, rfl⟩
theorem own_d_code_31 : own_ik code 31 1 32 := ⟨1, Or.inl ⟨by decide +kernel, by decide, rfl⟩⟩
theorem own_d_code_32 : own_ix code 32 .iand 1 33 := ⟨by decide +kernel, rfl⟩
theorem own_d_code_33 : own_si code 33 11 35 := Or.inr ⟨by decide +kernel, rfl⟩
theorem own_d_code_35 : own_il code 35 7 37 := Or.inr ⟨by decide +kernel, rfl⟩
theorem own_d_code_37 : own_ik code 37 2 38 := ⟨2, Or.inl ⟨by decide +kernel, by decide, rfl⟩⟩
theorem own_d_code_38 : own_ix code 38 .iushr 1 39 := ⟨by decide +kernel, rfl⟩
theorem own_d_code_39 : own_ik code 39 3 40 := ⟨3, Or.inl ⟨by decide +kernel, by decide, rfl⟩⟩
theorem own_d_code_40 : own_ix code 40 .irem 1 41 := ⟨by decide +kernel, rfl⟩
theorem own_d_code_41 : own_si code 41 12 43 := Or.inr ⟨by decide +kernel, rfl⟩
theorem own_d_code_43 : own_il code 43 6 45 := Or.inr ⟨by decide +kernel, rfl⟩
theorem own_d_code_45 : own_ik code 45 63 47 := ⟨63, Or.inr (Or.inl ⟨by decide +kernel, by decide, rfl⟩)⟩
theorem own_d_code_47 : own_ix code 47 .iand 1 48 := ⟨by decide +kernel, rfl⟩
theorem own_d_code_48 : own_si code 48 13 50 := Or.inr ⟨by decide +kernel, rfl⟩
theorem own_d_code_50 : own_ik code 50 0 51 := ⟨0, Or.inl ⟨by decide +kernel, by decide, rfl⟩⟩
theorem own_d_code_51 : own_si code 51 14 53 := Or.inr ⟨by decide +kernel, rfl⟩
theorem own_d_code_53 : own_il code 53 12 55 := Or.inr ⟨by decide +kernel, rfl⟩
theorem own_d_code_55 : own_ifc code 55 .le 58 95 := ⟨40, by decide +kernel, rfl, by decide, by decide⟩
theorem own_d_code_58 : own_il code 58 13 60 := Or.inr ⟨by decide +kernel, rfl⟩
theorem own_d_code_60 : own_ifc code 60 .eq 63 95 := ⟨35, by decide +kernel, rfl, by decide, by decide⟩
theorem own_d_code_95 : own_ik code 95 4 96 := ⟨4, Or.inl ⟨by decide +kernel, by decide, rfl⟩⟩
theorem own_d_code_96 : own_il code 96 12 98 := Or.inr ⟨by decide +kernel, rfl⟩
theorem own_d_code_98 : own_ix code 98 .isub 1 99 := ⟨by decide +kernel, rfl⟩
theorem own_d_code_99 : own_il code 99 14 101 := Or.inr ⟨by decide +kernel, rfl⟩
theorem own_d_code_101 : own_ifc code 101 .eq 104 108 := ⟨7, by decide +kernel, rfl, by decide, by decide⟩
theorem own_d_code_108 : own_ik code 108 0 109 := ⟨0, Or.inl ⟨by decide +kernel, by decide, rfl⟩⟩
theorem own_d_code_109 : own_ix code 109 .isub 1 110 := ⟨by decide +kernel, rfl⟩
theorem own_d_code_110 : own_il code 110 11 112 := Or.inr ⟨by decide +kernel, rfl⟩
theorem own_d_code_112 : own_ix code 112 .isub 1 113 := ⟨by decide +kernel, rfl⟩
theorem own_d_code_113 : own_si code 113 15 115 := Or.inr ⟨by decide +kernel, rfl⟩
theorem own_d_code_63 : own_al code 63 9 65 := Or.inr ⟨by decide +kernel, rfl⟩
theorem own_d_code_65 : own_il code 65 10 67 := Or.inr ⟨by decide +kernel, rfl⟩
theorem own_d_code_67 : own_il code 67 12 69 := Or.inr ⟨by decide +kernel, rfl⟩
theorem own_d_code_69 : own_ix code 69 .iadd 1 70 := ⟨by decide +kernel, rfl⟩
theorem own_d_code_70 : own_ik code 70 1 71 := ⟨1, Or.inl ⟨by decide +kernel, by decide, rfl⟩⟩
theorem own_d_code_71 : own_ix code 71 .isub 1 72 := ⟨by decide +kernel, rfl⟩
theorem own_d_code_72 : own_ix code 72 .laload 1 73 := ⟨by decide +kernel, rfl⟩
theorem own_d_code_73 : own_sl code 73 15 75 := Or.inr ⟨by decide +kernel, rfl⟩
theorem own_d_code_75 : own_ll code 75 15 77 := Or.inr ⟨by decide +kernel, rfl⟩
theorem own_d_code_77 : own_ik code 77 64 79 := ⟨64, Or.inr (Or.inl ⟨by decide +kernel, by decide, rfl⟩)⟩
theorem own_d_code_79 : own_il code 79 13 81 := Or.inr ⟨by decide +kernel, rfl⟩
theorem own_d_code_81 : own_ix code 81 .isub 1 82 := ⟨by decide +kernel, rfl⟩
theorem own_d_code_82 : own_ix code 82 .lushr 1 83 := ⟨by decide +kernel, rfl⟩
theorem own_d_code_83 : own_lk code 83 0 84 := ⟨0, by decide +kernel, by decide, rfl⟩
theorem own_d_code_84 : own_ix code 84 .lcmp 1 85 := ⟨by decide +kernel, rfl⟩
theorem own_d_code_85 : own_ifc code 85 .eq 88 92 := ⟨7, by decide +kernel, rfl, by decide, by decide⟩
theorem own_d_code_92 : own_ik code 92 0 93 := ⟨0, Or.inl ⟨by decide +kernel, by decide, rfl⟩⟩
theorem own_d_code_93 : own_si code 93 14 95 := Or.inr ⟨by decide +kernel, rfl⟩
theorem own_d_code_88 : own_ik code 88 1 89 := ⟨1, Or.inl ⟨by decide +kernel, by decide, rfl⟩⟩
theorem own_d_code_89 : own_gt code 89 93 := ⟨4, by decide +kernel, by decide, by decide⟩
theorem own_d_code_104 : own_ik code 104 1 105 := ⟨1, Or.inl ⟨by decide +kernel, by decide, rfl⟩⟩
theorem own_d_code_105 : own_gt code 105 109 := ⟨4, by decide +kernel, by decide, by decide⟩
theorem own_d_code_115 : own_il code 115 15 117 := Or.inr ⟨by decide +kernel, rfl⟩
theorem own_d_code_117 : own_ik code 117 64 119 := ⟨64, Or.inr (Or.inl ⟨by decide +kernel, by decide, rfl⟩)⟩
theorem own_d_code_119 : own_ix code 119 .imul 1 120 := ⟨by decide +kernel, rfl⟩
theorem own_d_code_120 : own_il code 120 13 122 := Or.inr ⟨by decide +kernel, rfl⟩
theorem own_d_code_122 : own_ix code 122 .iadd 1 123 := ⟨by decide +kernel, rfl⟩
theorem own_d_code_123 : own_si code 123 16 125 := Or.inr ⟨by decide +kernel, rfl⟩
theorem own_d_code_125 : own_ik code 125 4 126 := ⟨4, Or.inl ⟨by decide +kernel, by decide, rfl⟩⟩
theorem own_d_code_126 : own_ix code 126 (.newarray .long) 2 128 := ⟨by decide +kernel, rfl⟩
theorem own_d_code_128 : own_ix code 128 .dup 1 129 := ⟨by decide +kernel, rfl⟩
theorem own_d_code_129 : own_ik code 129 0 130 := ⟨0, Or.inl ⟨by decide +kernel, by decide, rfl⟩⟩
theorem own_d_code_130 : own_ll code 130 4 132 := Or.inr ⟨by decide +kernel, rfl⟩
theorem own_d_code_132 : own_ix code 132 .lastore 1 133 := ⟨by decide +kernel, rfl⟩
theorem own_d_code_133 : own_ix code 133 .dup 1 134 := ⟨by decide +kernel, rfl⟩
theorem own_d_code_134 : own_ik code 134 1 135 := ⟨1, Or.inl ⟨by decide +kernel, by decide, rfl⟩⟩
theorem own_d_code_135 : own_ll code 135 4 137 := Or.inr ⟨by decide +kernel, rfl⟩
theorem own_d_code_137 : own_ix code 137 (.ldc2_w 7) 3 140 := ⟨by decide +kernel, rfl⟩
theorem own_d_code_140 : own_ix code 140 .lxor 1 141 := ⟨by decide +kernel, rfl⟩
theorem own_d_code_141 : own_ix code 141 .lastore 1 142 := ⟨by decide +kernel, rfl⟩
theorem own_d_code_142 : own_ix code 142 .dup 1 143 := ⟨by decide +kernel, rfl⟩
theorem own_d_code_143 : own_ik code 143 2 144 := ⟨2, Or.inl ⟨by decide +kernel, by decide, rfl⟩⟩
theorem own_d_code_144 : own_ll code 144 4 146 := Or.inr ⟨by decide +kernel, rfl⟩
theorem own_d_code_146 : own_ix code 146 .lastore 1 147 := ⟨by decide +kernel, rfl⟩
theorem own_d_code_147 : own_ix code 147 .dup 1 148 := ⟨by decide +kernel, rfl⟩
theorem own_d_code_148 : own_ik code 148 3 149 := ⟨3, Or.inl ⟨by decide +kernel, by decide, rfl⟩⟩
theorem own_d_code_149 : own_ll code 149 4 151 := Or.inr ⟨by decide +kernel, rfl⟩
theorem own_d_code_151 : own_ix code 151 (.ldc2_w 7) 3 154 := ⟨by decide +kernel, rfl⟩
theorem own_d_code_154 : own_ix code 154 .lxor 1 155 := ⟨by decide +kernel, rfl⟩
theorem own_d_code_155 : own_ix code 155 .lastore 1 156 := ⟨by decide +kernel, rfl⟩
theorem own_d_code_156 : own_sa code 156 17 158 := Or.inr ⟨by decide +kernel, rfl⟩
theorem own_d_code_158 : own_al code 158 17 160 := Or.inr ⟨by decide +kernel, rfl⟩
theorem own_d_code_160 : own_il code 160 16 162 := Or.inr ⟨by decide +kernel, rfl⟩
theorem own_d_code_162 : own_al code 162 9 164 := Or.inr ⟨by decide +kernel, rfl⟩
theorem own_d_code_164 : own_il code 164 10 166 := Or.inr ⟨by decide +kernel, rfl⟩
theorem own_d_code_166 : own_il code 166 12 168 := Or.inr ⟨by decide +kernel, rfl⟩
theorem own_pd___JI_JII_V : parseMethodDescriptor "([JI[JII)V" = some ⟨[(.array .long), .int, (.array .long), .int, .int], none⟩ := by decide +kernel
theorem own_d_code_168 : own_ix code 168 (.invokestatic 9) 3 171 := ⟨by decide +kernel, rfl⟩
theorem own_d_code_171 : own_il code 171 8 173 := Or.inr ⟨by decide +kernel, rfl⟩
theorem own_d_code_173 : own_ik code 173 255 176 := ⟨255, Or.inr (Or.inr ⟨by decide +kernel, by decide, rfl⟩)⟩
theorem own_d_code_176 : own_ix code 176 .iand 1 177 := ⟨by decide +kernel, rfl⟩
theorem own_d_code_177 : own_si code 177 18 179 := Or.inr ⟨by decide +kernel, rfl⟩
theorem own_d_code_179 : own_il code 179 18 181 := Or.inr ⟨by decide +kernel, rfl⟩
theorem own_d_code_181 : own_ik code 181 6 183 := ⟨6, Or.inr (Or.inl ⟨by decide +kernel, by decide, rfl⟩)⟩
theorem own_d_code_183 : own_ix code 183 .iushr 1 184 := ⟨by decide +kernel, rfl⟩
theorem own_d_code_184 : own_ik code 184 1 185 := ⟨1, Or.inl ⟨by decide +kernel, by decide, rfl⟩⟩
theorem own_d_code_185 : own_ix code 185 .iand 1 186 := ⟨by decide +kernel, rfl⟩
theorem own_d_code_186 : own_ifc code 186 .ne 189 194 := ⟨8, by decide +kernel, rfl, by decide, by decide⟩
theorem own_d_code_189 : own_ll code 189 4 191 := Or.inr ⟨by decide +kernel, rfl⟩
theorem own_d_code_191 : own_gt code 191 200 := ⟨9, by decide +kernel, by decide, by decide⟩
theorem own_d_code_194 : own_ll code 194 4 196 := Or.inr ⟨by decide +kernel, rfl⟩
theorem own_d_code_196 : own_ix code 196 (.ldc2_w 7) 3 199 := ⟨by decide +kernel, rfl⟩
theorem own_d_code_199 : own_ix code 199 .lxor 1 200 := ⟨by decide +kernel, rfl⟩
theorem own_d_code_200 : own_sl code 200 19 202 := Or.inr ⟨by decide +kernel, rfl⟩
theorem own_d_code_202 : own_ll code 202 19 204 := Or.inr ⟨by decide +kernel, rfl⟩
theorem own_d_code_204 : own_il code 204 18 206 := Or.inr ⟨by decide +kernel, rfl⟩
theorem own_d_code_206 : own_ik code 206 63 208 := ⟨63, Or.inr (Or.inl ⟨by decide +kernel, by decide, rfl⟩)⟩
theorem own_d_code_208 : own_ix code 208 .iand 1 209 := ⟨by decide +kernel, rfl⟩
theorem own_d_code_209 : own_ix code 209 .lushr 1 210 := ⟨by decide +kernel, rfl⟩
theorem own_d_code_210 : own_lk code 210 1 211 := ⟨1, by decide +kernel, by decide, rfl⟩
theorem own_d_code_211 : own_ix code 211 .land 1 212 := ⟨by decide +kernel, rfl⟩
theorem own_d_code_212 : own_sl code 212 21 214 := Or.inr ⟨by decide +kernel, rfl⟩
theorem own_d_code_214 : own_lk code 214 0 215 := ⟨0, by decide +kernel, by decide, rfl⟩
theorem own_d_code_215 : own_sl code 215 23 217 := Or.inr ⟨by decide +kernel, rfl⟩
theorem own_d_code_217 : own_il code 217 18 219 := Or.inr ⟨by decide +kernel, rfl⟩
theorem own_d_code_219 : own_il code 219 16 221 := Or.inr ⟨by decide +kernel, rfl⟩
theorem own_d_code_221 : own_ix code 221 .isub 1 222 := ⟨by decide +kernel, rfl⟩
theorem own_d_code_222 : own_si code 222 25 224 := Or.inr ⟨by decide +kernel, rfl⟩
theorem own_d_code_224 : own_il code 224 25 226 := Or.inr ⟨by decide +kernel, rfl⟩
theorem own_d_code_226 : own_ifc code 226 .lt 229 260 := ⟨34, by decide +kernel, rfl, by decide, by decide⟩
theorem own_d_code_229 : own_il code 229 25 231 := Or.inr ⟨by decide +kernel, rfl⟩
theorem own_d_code_231 : own_ik code 231 64 233 := ⟨64, Or.inr (Or.inl ⟨by decide +kernel, by decide, rfl⟩)⟩
theorem own_d_code_233 : own_il code 233 12 235 := Or.inr ⟨by decide +kernel, rfl⟩
theorem own_d_code_235 : own_ix code 235 .imul 1 236 := ⟨by decide +kernel, rfl⟩
theorem own_d_code_236 : own_icm code 236 .ge 239 260 := ⟨24, by decide +kernel, rfl, by decide, by decide⟩
theorem own_d_code_239 : own_al code 239 9 241 := Or.inr ⟨by decide +kernel, rfl⟩
theorem own_d_code_241 : own_il code 241 10 243 := Or.inr ⟨by decide +kernel, rfl⟩
theorem own_d_code_243 : own_il code 243 25 245 := Or.inr ⟨by decide +kernel, rfl⟩
theorem own_d_code_245 : own_ik code 245 6 247 := ⟨6, Or.inr (Or.inl ⟨by decide +kernel, by decide, rfl⟩)⟩
theorem own_d_code_247 : own_ix code 247 .iushr 1 248 := ⟨by decide +kernel, rfl⟩
theorem own_d_code_248 : own_ix code 248 .iadd 1 249 := ⟨by decide +kernel, rfl⟩
theorem own_d_code_249 : own_ix code 249 .laload 1 250 := ⟨by decide +kernel, rfl⟩
theorem own_d_code_250 : own_il code 250 25 252 := Or.inr ⟨by decide +kernel, rfl⟩
theorem own_d_code_252 : own_ik code 252 63 254 := ⟨63, Or.inr (Or.inl ⟨by decide +kernel, by decide, rfl⟩)⟩
theorem own_d_code_254 : own_ix code 254 .iand 1 255 := ⟨by decide +kernel, rfl⟩
theorem own_d_code_255 : own_ix code 255 .lushr 1 256 := ⟨by decide +kernel, rfl⟩
theorem own_d_code_256 : own_lk code 256 1 257 := ⟨1, by decide +kernel, by decide, rfl⟩
theorem own_d_code_257 : own_ix code 257 .land 1 258 := ⟨by decide +kernel, rfl⟩
theorem own_d_code_258 : own_sl code 258 23 260 := Or.inr ⟨by decide +kernel, rfl⟩
theorem own_d_code_260 : own_al code 260 17 262 := Or.inr ⟨by decide +kernel, rfl⟩
theorem own_d_code_262 : own_il code 262 18 264 := Or.inr ⟨by decide +kernel, rfl⟩
theorem own_d_code_264 : own_ik code 264 6 266 := ⟨6, Or.inr (Or.inl ⟨by decide +kernel, by decide, rfl⟩)⟩
theorem own_d_code_266 : own_ix code 266 .iushr 1 267 := ⟨by decide +kernel, rfl⟩
theorem own_d_code_267 : own_ix code 267 .laload 1 268 := ⟨by decide +kernel, rfl⟩
theorem own_d_code_268 : own_il code 268 18 270 := Or.inr ⟨by decide +kernel, rfl⟩
theorem own_d_code_270 : own_ik code 270 63 272 := ⟨63, Or.inr (Or.inl ⟨by decide +kernel, by decide, rfl⟩)⟩
theorem own_d_code_272 : own_ix code 272 .iand 1 273 := ⟨by decide +kernel, rfl⟩
theorem own_d_code_273 : own_ix code 273 .lushr 1 274 := ⟨by decide +kernel, rfl⟩
theorem own_d_code_274 : own_lk code 274 1 275 := ⟨1, by decide +kernel, by decide, rfl⟩
theorem own_d_code_275 : own_ix code 275 .land 1 276 := ⟨by decide +kernel, rfl⟩
theorem own_d_code_276 : own_sl code 276 26 278 := Or.inr ⟨by decide +kernel, rfl⟩
theorem own_d_code_278 : own_ll code 278 26 280 := Or.inr ⟨by decide +kernel, rfl⟩
theorem own_d_code_280 : own_ll code 280 21 282 := Or.inr ⟨by decide +kernel, rfl⟩
theorem own_d_code_282 : own_ll code 282 23 284 := Or.inr ⟨by decide +kernel, rfl⟩
theorem own_d_code_284 : own_ix code 284 .lor 1 285 := ⟨by decide +kernel, rfl⟩
theorem own_d_code_285 : own_ix code 285 .lcmp 1 286 := ⟨by decide +kernel, rfl⟩
theorem own_d_code_286 : own_ifc code 286 .ne 289 293 := ⟨7, by decide +kernel, rfl, by decide, by decide⟩
theorem own_d_code_289 : own_ik code 289 1 290 := ⟨1, Or.inl ⟨by decide +kernel, by decide, rfl⟩⟩
theorem own_d_code_290 : own_gt code 290 294 := ⟨4, by decide +kernel, by decide, by decide⟩
theorem own_d_code_294 : own_ix code 294 .ireturn 1 295 := ⟨by decide +kernel, rfl⟩
theorem own_pn_com_example_levelweave_levelweave_cli_WordBitsOrIntoPinLaw : plainName "com/example/levelweave/levelweave/cli/WordBitsOrIntoPinLaw" = true := by first | (simp [plainName, overriddenIn]; done) | decide +kernel
set_option maxRecDepth 65536 in
set_option maxHeartbeats 40000000 in
theorem own_orInto (l : Launch) (Z : State) (a0 : Array Value) (hw : ∀ d ∈ tables_1, d.before a0 Z = true) (a b : Addr) (at_ fi : Int32) (n W S kf : Nat) (g G F : Nat → Int64) (h0 : Heap) (n0 : Nat) (Z0 : n0 ≤ h0.size) (hn : n < 3) (hfi : own_idx fi kf) (hkf : kf + n ≤ 3) (hW : own_idx (at_ / (64 : Int32)) W) (hS : own_idx (at_ % (64 : Int32)) S) (hWn : W + n ≤ 4) (hF : ∀ i, F i = G (kf + i)) (hsp : ∀ i, i < n → ¬ own_spill (F i) (at_ % (64 : Int32)) = 0 → W + i + 1 < 4) (hab : a ≠ b) (Va : own_AF Z h0 a .long 4 (fun j => .long (g j))) (Vb : own_AF Z h0 b .long 3 (fun j => .long (G j))) (ga : n0 ≤ a) :
    own_Con l Z n0 (⟨"com/example/levelweave/levelweave/cli/WordBits", "orInto", "([JI[JII)V"⟩ : MethodName) prog_37_method_8_code 11 none ({ frames := 0, cells := 0, slots := 0, locals := 0 } : Room) [] #[(.ref a), (.int at_), (.ref b), (.int fi), (.int (Int32.ofNat n))] h0 (fun v h' => v = none ∧ Keep h0 h' [a] ∧ own_AF Z h' a .long 4 (fun j => .long (own_ors g F W (at_ % (64 : Int32)) n j))) := by
  refine own_enter (plainFor_of_name own_pn_com_example_levelweave_levelweave_cli_WordBits) Z0 #[.val (.ref a), .val (.int at_), .val (.ref b), .val (.int fi), .val (.int (Int32.ofNat n)), .unset, .unset, .unset, .unset, .unset, .unset] (fun m => by first | (simp [entryFrame, mkF, argsToLocals, Value.category]; done) | rfl) ?_
  intro p e s m below meth c T A X0 hret hnm fin
  refine own_iload X0 own_d_prog_37_method_8_code_0 rfl ?_
  refine own_ipush X0 own_d_prog_37_method_8_code_1 ?_
  refine own_irem X0 own_d_prog_37_method_8_code_3 (by decide) ?_
  generalize hsh : (at_ % (64 : Int32)) = sh
  rw [hsh] at hS hsp
  refine own_istore X0 #[.val (.ref a), .val (.int at_), .val (.ref b), .val (.int fi), .val (.int (Int32.ofNat n)), .val (.int sh), .unset, .unset, .unset, .unset, .unset] own_d_prog_37_method_8_code_4 rfl ?_
  refine own_ipush X0 own_d_prog_37_method_8_code_6 ?_
  refine own_istore X0 #[.val (.ref a), .val (.int at_), .val (.ref b), .val (.int fi), .val (.int (Int32.ofNat n)), .val (.int sh), .val (.int (0 : Int32)), .unset, .unset, .unset, .unset] own_d_prog_37_method_8_code_7 rfl ?_
  obtain rfl | rfl | rfl : n = 0 ∨ n = 1 ∨ n = 2 := by omega
  · skip
    replace Va : own_AF Z h0 a .long 4 (fun j => .long (own_ors g F W sh 0 j)) := Va
    refine own_iload X0 own_d_prog_37_method_8_code_9 rfl ?_
    refine own_iload X0 own_d_prog_37_method_8_code_11 rfl ?_
    refine own_icYes X0 own_d_prog_37_method_8_code_13 (flt (by decide)).2.1 ?_
    exact own_ret0 X0 hret fin (by decide) (by decide) ⟨rfl, (Keep.refl h0 [a]), by rw [hsh]; exact Va⟩ own_d_prog_37_method_8_code_89
  · skip
    replace Va : own_AF Z h0 a .long 4 (fun j => .long (own_ors g F W sh 0 j)) := Va
    refine own_iload X0 own_d_prog_37_method_8_code_9 rfl ?_
    refine own_iload X0 own_d_prog_37_method_8_code_11 rfl ?_
    refine own_icNo X0 own_d_prog_37_method_8_code_13 (tlt (by decide)).2.1 ?_
    refine own_aload X0 own_d_prog_37_method_8_code_16 rfl ?_
    refine own_iload X0 own_d_prog_37_method_8_code_17 rfl ?_
    refine own_iload X0 own_d_prog_37_method_8_code_18 rfl ?_
    refine own_iadd X0 own_d_prog_37_method_8_code_20 ?_
    refine own_laloadF X0 Vb (i := (kf + 0)) (own_idx_add hfi (n := 0) ⟨by decide, by decide⟩ (by omega)) (by omega) (congrArg Value.long (hF 0).symm) own_d_prog_37_method_8_code_21 ?_
    refine own_lstore X0 #[.val (.ref a), .val (.int at_), .val (.ref b), .val (.int fi), .val (.int (Int32.ofNat 1)), .val (.int sh), .val (.int (0 : Int32)), .val (.long (F 0)), .second, .unset, .unset] own_d_prog_37_method_8_code_22 rfl ?_
    refine own_aload X0 own_d_prog_37_method_8_code_24 rfl ?_
    refine own_iload X0 own_d_prog_37_method_8_code_25 rfl ?_
    refine own_ipush X0 own_d_prog_37_method_8_code_26 ?_
    refine own_idiv X0 own_d_prog_37_method_8_code_28 (by decide) ?_
    refine own_iload X0 own_d_prog_37_method_8_code_29 rfl ?_
    refine own_iadd X0 own_d_prog_37_method_8_code_31 ?_
    refine own_dup2 X0 own_d_prog_37_method_8_code_32 ?_
    refine own_laloadF X0 Va (i := (W + 0)) (own_idx_add hW (n := 0) ⟨by decide, by decide⟩ (by omega)) (by omega) rfl own_d_prog_37_method_8_code_33 ?_
    refine own_lload X0 own_d_prog_37_method_8_code_34 rfl ?_
    refine own_iload X0 own_d_prog_37_method_8_code_36 rfl ?_
    refine own_lshl X0 own_d_prog_37_method_8_code_38 ?_
    refine own_lor X0 own_d_prog_37_method_8_code_39 ?_
    refine own_lastoreF X0 Va ga (i := (W + 0)) (own_idx_add hW (n := 0) ⟨by decide, by decide⟩ (by omega)) (by omega) own_d_prog_37_method_8_code_40 ?_
    intro T1 h1 X1 W1 V1
    have K1 : Keep h0 h1 [a] := (Keep.refl h0 [a]).wr W1 (Or.inl (by simp))
    replace V1 : own_AF Z h1 a .long 4 (own_up (fun j => .long (own_ors g F W sh 0 j)) (W + 0) (.long ((own_ors g F W sh 0 (W + 0)) ||| (own_Lshl (F 0) sh)))) := V1
    have F2_b : own_AF Z h1 b .long 3 (fun j => .long (G j)) := Vb.other W1 (Ne.symm hab)
    rw [own_up_o1 _ _ _ _ rfl] at V1
    refine own_iload X1 own_d_prog_37_method_8_code_41 rfl ?_
    suffices J4 : ∀ sp0 : Int64, sp0 = own_spill (F 0) sh → own_Wins p e below A T1 (mkF m 58 #[.val (.ref a), .val (.int at_), .val (.ref b), .val (.int fi), .val (.int (Int32.ofNat 1)), .val (.int sh), .val (.int (0 : Int32)), .val (.long (F 0)), .second, .unset, .unset] [(.long sp0)]) by
      by_cases e0 : sh = (0 : Int32)
      · skip
        refine own_ifNo X1 own_d_prog_37_method_8_code_43 ((if0 _ _).trans (teq e0).2) ?_
        refine own_lpush X1 own_d_prog_37_method_8_code_46 ?_
        refine own_goto X1 own_d_prog_37_method_8_code_47 ?_
        exact J4 _ (by simp only [own_spill, e0, if_true])
      · skip
        refine own_ifYes X1 own_d_prog_37_method_8_code_43 ((if0 _ _).trans (feq e0).2) ?_
        refine own_lload X1 own_d_prog_37_method_8_code_50 rfl ?_
        refine own_ipush X1 own_d_prog_37_method_8_code_52 ?_
        refine own_iload X1 own_d_prog_37_method_8_code_54 rfl ?_
        refine own_isub X1 own_d_prog_37_method_8_code_56 ?_
        refine own_lushr X1 own_d_prog_37_method_8_code_57 ?_
        exact J4 _ (by rw [own_spill, if_neg e0])
    intro sp0 hsp0
    refine own_lstore X1 #[.val (.ref a), .val (.int at_), .val (.ref b), .val (.int fi), .val (.int (Int32.ofNat 1)), .val (.int sh), .val (.int (0 : Int32)), .val (.long (F 0)), .second, .val (.long sp0), .second] own_d_prog_37_method_8_code_58 rfl ?_
    refine own_lload X1 own_d_prog_37_method_8_code_60 rfl ?_
    refine own_lpush X1 own_d_prog_37_method_8_code_62 ?_
    refine own_lcmp X1 own_d_prog_37_method_8_code_63 ?_
    suffices J5 : ∀ (T6 : State) (h6 : Heap) (g1_ : Nat → Value), own_St p l e ({ frames := 0, cells := 0, slots := 0, locals := 0 } : Room) s m #[(.ref a), (.int at_), (.ref b), (.int fi), (.int (Int32.ofNat 1))] below meth c Z n0 prog_37_method_8_code 11 "com/example/levelweave/levelweave/cli/WordBits" T6 h6 0 0 → own_AF Z h6 a .long 4 g1_ → own_AF Z h6 b .long 3 (fun j => .long (G j)) → Keep h0 h6 [a] → g1_ = (fun j => .long (own_ors g F W sh 1 j)) → own_Wins p e below A T6 (mkF m 83 #[.val (.ref a), .val (.int at_), .val (.ref b), .val (.int fi), .val (.int (Int32.ofNat 1)), .val (.int sh), .val (.int (0 : Int32)), .val (.long (F 0)), .second, .val (.long sp0), .second] []) by
      by_cases f0 : sp0 = (0 : Int64)
      · skip
        refine own_ifYes X1 own_d_prog_37_method_8_code_64 ((if0 _ _).trans (teq ((lw_eq sp0 (0 : Int64)).2 f0)).1) ?_
        have q : (own_o1 (own_ors g F W sh 0) (W + 0) (own_Lshl (F 0) sh)) = own_ors g F W sh 1 := by show _ = own_o1 (own_o1 (own_ors g F W sh 0) (W + 0) (own_Lshl (F 0) sh)) (W + 0 + 1) (own_spill (F 0) sh); rw [← hsp0, f0, own_o1_0]
        rw [q] at V1
        exact J5 T1 h1 _ X1 V1 F2_b K1 rfl
      · skip
        refine own_ifNo X1 own_d_prog_37_method_8_code_64 ((if0 _ _).trans (feq (mt (lw_eq sp0 (0 : Int64)).1 f0)).1) ?_
        have hb0 := hsp 0 (by omega) (by rw [← hsp0]; exact f0)
        refine own_aload X1 own_d_prog_37_method_8_code_67 rfl ?_
        refine own_iload X1 own_d_prog_37_method_8_code_68 rfl ?_
        refine own_ipush X1 own_d_prog_37_method_8_code_69 ?_
        refine own_idiv X1 own_d_prog_37_method_8_code_71 (by decide) ?_
        refine own_iload X1 own_d_prog_37_method_8_code_72 rfl ?_
        refine own_iadd X1 own_d_prog_37_method_8_code_74 ?_
        refine own_ipush X1 own_d_prog_37_method_8_code_75 ?_
        refine own_iadd X1 own_d_prog_37_method_8_code_76 ?_
        refine own_dup2 X1 own_d_prog_37_method_8_code_77 ?_
        refine own_laloadF X1 V1 (i := (W + 0 + 1)) (own_idx_add (own_idx_add hW (n := 0) ⟨by decide, by decide⟩ (by omega)) (n := 1) ⟨by decide, by decide⟩ (by omega)) (by omega) rfl own_d_prog_37_method_8_code_78 ?_
        refine own_lload X1 own_d_prog_37_method_8_code_79 rfl ?_
        refine own_lor X1 own_d_prog_37_method_8_code_81 ?_
        refine own_lastoreF X1 V1 ga (i := (W + 0 + 1)) (own_idx_add (own_idx_add hW (n := 0) ⟨by decide, by decide⟩ (by omega)) (n := 1) ⟨by decide, by decide⟩ (by omega)) (by omega) own_d_prog_37_method_8_code_82 ?_
        intro T7 h7 X7 W7 V7
        have K7 : Keep h0 h7 [a] := K1.wr W7 (Or.inl (by simp))
        replace V7 : own_AF Z h7 a .long 4 (own_up (fun j => .long ((own_o1 (own_ors g F W sh 0) (W + 0) (own_Lshl (F 0) sh)) j)) (W + 0 + 1) (.long (((own_o1 (own_ors g F W sh 0) (W + 0) (own_Lshl (F 0) sh)) (W + 0 + 1)) ||| sp0))) := V7
        have F8_b : own_AF Z h7 b .long 3 (fun j => .long (G j)) := F2_b.other W7 (Ne.symm hab)
        rw [own_up_o1 _ _ _ _ rfl, hsp0] at V7
        exact J5 T7 h7 _ X7 V7 F8_b K7 rfl
    intro T6 h6 g1_ X6 F6_a F6_b K6 hs6
    subst hs6
    refine own_iinc X6 #[.val (.ref a), .val (.int at_), .val (.ref b), .val (.int fi), .val (.int (Int32.ofNat 1)), .val (.int sh), .val (.int (1 : Int32)), .val (.long (F 0)), .second, .val (.long sp0), .second] own_d_prog_37_method_8_code_83 rfl rfl ?_
    refine own_goto X6 own_d_prog_37_method_8_code_86 ?_
    refine own_iload X6 own_d_prog_37_method_8_code_9 rfl ?_
    refine own_iload X6 own_d_prog_37_method_8_code_11 rfl ?_
    refine own_icYes X6 own_d_prog_37_method_8_code_13 (flt (by decide)).2.1 ?_
    exact own_ret0 X6 hret fin (by decide) (by decide) ⟨rfl, K6, by rw [hsh]; exact F6_a⟩ own_d_prog_37_method_8_code_89
  · skip
    replace Va : own_AF Z h0 a .long 4 (fun j => .long (own_ors g F W sh 0 j)) := Va
    refine own_iload X0 own_d_prog_37_method_8_code_9 rfl ?_
    refine own_iload X0 own_d_prog_37_method_8_code_11 rfl ?_
    refine own_icNo X0 own_d_prog_37_method_8_code_13 (tlt (by decide)).2.1 ?_
    refine own_aload X0 own_d_prog_37_method_8_code_16 rfl ?_
    refine own_iload X0 own_d_prog_37_method_8_code_17 rfl ?_
    refine own_iload X0 own_d_prog_37_method_8_code_18 rfl ?_
    refine own_iadd X0 own_d_prog_37_method_8_code_20 ?_
    refine own_laloadF X0 Vb (i := (kf + 0)) (own_idx_add hfi (n := 0) ⟨by decide, by decide⟩ (by omega)) (by omega) (congrArg Value.long (hF 0).symm) own_d_prog_37_method_8_code_21 ?_
    refine own_lstore X0 #[.val (.ref a), .val (.int at_), .val (.ref b), .val (.int fi), .val (.int (Int32.ofNat 2)), .val (.int sh), .val (.int (0 : Int32)), .val (.long (F 0)), .second, .unset, .unset] own_d_prog_37_method_8_code_22 rfl ?_
    refine own_aload X0 own_d_prog_37_method_8_code_24 rfl ?_
    refine own_iload X0 own_d_prog_37_method_8_code_25 rfl ?_
    refine own_ipush X0 own_d_prog_37_method_8_code_26 ?_
    refine own_idiv X0 own_d_prog_37_method_8_code_28 (by decide) ?_
    refine own_iload X0 own_d_prog_37_method_8_code_29 rfl ?_
    refine own_iadd X0 own_d_prog_37_method_8_code_31 ?_
    refine own_dup2 X0 own_d_prog_37_method_8_code_32 ?_
    refine own_laloadF X0 Va (i := (W + 0)) (own_idx_add hW (n := 0) ⟨by decide, by decide⟩ (by omega)) (by omega) rfl own_d_prog_37_method_8_code_33 ?_
    refine own_lload X0 own_d_prog_37_method_8_code_34 rfl ?_
    refine own_iload X0 own_d_prog_37_method_8_code_36 rfl ?_
    refine own_lshl X0 own_d_prog_37_method_8_code_38 ?_
    refine own_lor X0 own_d_prog_37_method_8_code_39 ?_
    refine own_lastoreF X0 Va ga (i := (W + 0)) (own_idx_add hW (n := 0) ⟨by decide, by decide⟩ (by omega)) (by omega) own_d_prog_37_method_8_code_40 ?_
    intro T9 h9 X9 W9 V9
    have K9 : Keep h0 h9 [a] := (Keep.refl h0 [a]).wr W9 (Or.inl (by simp))
    replace V9 : own_AF Z h9 a .long 4 (own_up (fun j => .long (own_ors g F W sh 0 j)) (W + 0) (.long ((own_ors g F W sh 0 (W + 0)) ||| (own_Lshl (F 0) sh)))) := V9
    have F10_b : own_AF Z h9 b .long 3 (fun j => .long (G j)) := Vb.other W9 (Ne.symm hab)
    rw [own_up_o1 _ _ _ _ rfl] at V9
    refine own_iload X9 own_d_prog_37_method_8_code_41 rfl ?_
    suffices J12 : ∀ sp0 : Int64, sp0 = own_spill (F 0) sh → own_Wins p e below A T9 (mkF m 58 #[.val (.ref a), .val (.int at_), .val (.ref b), .val (.int fi), .val (.int (Int32.ofNat 2)), .val (.int sh), .val (.int (0 : Int32)), .val (.long (F 0)), .second, .unset, .unset] [(.long sp0)]) by
      by_cases e0 : sh = (0 : Int32)
      · skip
        refine own_ifNo X9 own_d_prog_37_method_8_code_43 ((if0 _ _).trans (teq e0).2) ?_
        refine own_lpush X9 own_d_prog_37_method_8_code_46 ?_
        refine own_goto X9 own_d_prog_37_method_8_code_47 ?_
        exact J12 _ (by simp only [own_spill, e0, if_true])
      · skip
        refine own_ifYes X9 own_d_prog_37_method_8_code_43 ((if0 _ _).trans (feq e0).2) ?_
        refine own_lload X9 own_d_prog_37_method_8_code_50 rfl ?_
        refine own_ipush X9 own_d_prog_37_method_8_code_52 ?_
        refine own_iload X9 own_d_prog_37_method_8_code_54 rfl ?_
        refine own_isub X9 own_d_prog_37_method_8_code_56 ?_
        refine own_lushr X9 own_d_prog_37_method_8_code_57 ?_
        exact J12 _ (by rw [own_spill, if_neg e0])
    intro sp0 hsp0
    refine own_lstore X9 #[.val (.ref a), .val (.int at_), .val (.ref b), .val (.int fi), .val (.int (Int32.ofNat 2)), .val (.int sh), .val (.int (0 : Int32)), .val (.long (F 0)), .second, .val (.long sp0), .second] own_d_prog_37_method_8_code_58 rfl ?_
    refine own_lload X9 own_d_prog_37_method_8_code_60 rfl ?_
    refine own_lpush X9 own_d_prog_37_method_8_code_62 ?_
    refine own_lcmp X9 own_d_prog_37_method_8_code_63 ?_
    suffices J13 : ∀ (T14 : State) (h14 : Heap) (g1_ : Nat → Value), own_St p l e ({ frames := 0, cells := 0, slots := 0, locals := 0 } : Room) s m #[(.ref a), (.int at_), (.ref b), (.int fi), (.int (Int32.ofNat 2))] below meth c Z n0 prog_37_method_8_code 11 "com/example/levelweave/levelweave/cli/WordBits" T14 h14 0 0 → own_AF Z h14 a .long 4 g1_ → own_AF Z h14 b .long 3 (fun j => .long (G j)) → Keep h0 h14 [a] → g1_ = (fun j => .long (own_ors g F W sh 1 j)) → own_Wins p e below A T14 (mkF m 83 #[.val (.ref a), .val (.int at_), .val (.ref b), .val (.int fi), .val (.int (Int32.ofNat 2)), .val (.int sh), .val (.int (0 : Int32)), .val (.long (F 0)), .second, .val (.long sp0), .second] []) by
      by_cases f0 : sp0 = (0 : Int64)
      · skip
        refine own_ifYes X9 own_d_prog_37_method_8_code_64 ((if0 _ _).trans (teq ((lw_eq sp0 (0 : Int64)).2 f0)).1) ?_
        have q : (own_o1 (own_ors g F W sh 0) (W + 0) (own_Lshl (F 0) sh)) = own_ors g F W sh 1 := by show _ = own_o1 (own_o1 (own_ors g F W sh 0) (W + 0) (own_Lshl (F 0) sh)) (W + 0 + 1) (own_spill (F 0) sh); rw [← hsp0, f0, own_o1_0]
        rw [q] at V9
        exact J13 T9 h9 _ X9 V9 F10_b K9 rfl
      · skip
        refine own_ifNo X9 own_d_prog_37_method_8_code_64 ((if0 _ _).trans (feq (mt (lw_eq sp0 (0 : Int64)).1 f0)).1) ?_
        have hb0 := hsp 0 (by omega) (by rw [← hsp0]; exact f0)
        refine own_aload X9 own_d_prog_37_method_8_code_67 rfl ?_
        refine own_iload X9 own_d_prog_37_method_8_code_68 rfl ?_
        refine own_ipush X9 own_d_prog_37_method_8_code_69 ?_
        refine own_idiv X9 own_d_prog_37_method_8_code_71 (by decide) ?_
        refine own_iload X9 own_d_prog_37_method_8_code_72 rfl ?_
        refine own_iadd X9 own_d_prog_37_method_8_code_74 ?_
        refine own_ipush X9 own_d_prog_37_method_8_code_75 ?_
        refine own_iadd X9 own_d_prog_37_method_8_code_76 ?_
        refine own_dup2 X9 own_d_prog_37_method_8_code_77 ?_
        refine own_laloadF X9 V9 (i := (W + 0 + 1)) (own_idx_add (own_idx_add hW (n := 0) ⟨by decide, by decide⟩ (by omega)) (n := 1) ⟨by decide, by decide⟩ (by omega)) (by omega) rfl own_d_prog_37_method_8_code_78 ?_
        refine own_lload X9 own_d_prog_37_method_8_code_79 rfl ?_
        refine own_lor X9 own_d_prog_37_method_8_code_81 ?_
        refine own_lastoreF X9 V9 ga (i := (W + 0 + 1)) (own_idx_add (own_idx_add hW (n := 0) ⟨by decide, by decide⟩ (by omega)) (n := 1) ⟨by decide, by decide⟩ (by omega)) (by omega) own_d_prog_37_method_8_code_82 ?_
        intro T15 h15 X15 W15 V15
        have K15 : Keep h0 h15 [a] := K9.wr W15 (Or.inl (by simp))
        replace V15 : own_AF Z h15 a .long 4 (own_up (fun j => .long ((own_o1 (own_ors g F W sh 0) (W + 0) (own_Lshl (F 0) sh)) j)) (W + 0 + 1) (.long (((own_o1 (own_ors g F W sh 0) (W + 0) (own_Lshl (F 0) sh)) (W + 0 + 1)) ||| sp0))) := V15
        have F16_b : own_AF Z h15 b .long 3 (fun j => .long (G j)) := F10_b.other W15 (Ne.symm hab)
        rw [own_up_o1 _ _ _ _ rfl, hsp0] at V15
        exact J13 T15 h15 _ X15 V15 F16_b K15 rfl
    intro T14 h14 g1_ X14 F14_a F14_b K14 hs14
    subst hs14
    refine own_iinc X14 #[.val (.ref a), .val (.int at_), .val (.ref b), .val (.int fi), .val (.int (Int32.ofNat 2)), .val (.int sh), .val (.int (1 : Int32)), .val (.long (F 0)), .second, .val (.long sp0), .second] own_d_prog_37_method_8_code_83 rfl rfl ?_
    refine own_goto X14 own_d_prog_37_method_8_code_86 ?_
    refine own_iload X14 own_d_prog_37_method_8_code_9 rfl ?_
    refine own_iload X14 own_d_prog_37_method_8_code_11 rfl ?_
    refine own_icNo X14 own_d_prog_37_method_8_code_13 (tlt (by decide)).2.1 ?_
    refine own_aload X14 own_d_prog_37_method_8_code_16 rfl ?_
    refine own_iload X14 own_d_prog_37_method_8_code_17 rfl ?_
    refine own_iload X14 own_d_prog_37_method_8_code_18 rfl ?_
    refine own_iadd X14 own_d_prog_37_method_8_code_20 ?_
    refine own_laloadF X14 F14_b (i := (kf + 1)) (own_idx_add hfi (n := 1) ⟨by decide, by decide⟩ (by omega)) (by omega) (congrArg Value.long (hF 1).symm) own_d_prog_37_method_8_code_21 ?_
    refine own_lstore X14 #[.val (.ref a), .val (.int at_), .val (.ref b), .val (.int fi), .val (.int (Int32.ofNat 2)), .val (.int sh), .val (.int (1 : Int32)), .val (.long (F 1)), .second, .val (.long sp0), .second] own_d_prog_37_method_8_code_22 rfl ?_
    refine own_aload X14 own_d_prog_37_method_8_code_24 rfl ?_
    refine own_iload X14 own_d_prog_37_method_8_code_25 rfl ?_
    refine own_ipush X14 own_d_prog_37_method_8_code_26 ?_
    refine own_idiv X14 own_d_prog_37_method_8_code_28 (by decide) ?_
    refine own_iload X14 own_d_prog_37_method_8_code_29 rfl ?_
    refine own_iadd X14 own_d_prog_37_method_8_code_31 ?_
    refine own_dup2 X14 own_d_prog_37_method_8_code_32 ?_
    refine own_laloadF X14 F14_a (i := (W + 1)) (own_idx_add hW (n := 1) ⟨by decide, by decide⟩ (by omega)) (by omega) rfl own_d_prog_37_method_8_code_33 ?_
    refine own_lload X14 own_d_prog_37_method_8_code_34 rfl ?_
    refine own_iload X14 own_d_prog_37_method_8_code_36 rfl ?_
    refine own_lshl X14 own_d_prog_37_method_8_code_38 ?_
    refine own_lor X14 own_d_prog_37_method_8_code_39 ?_
    refine own_lastoreF X14 F14_a ga (i := (W + 1)) (own_idx_add hW (n := 1) ⟨by decide, by decide⟩ (by omega)) (by omega) own_d_prog_37_method_8_code_40 ?_
    intro T17 h17 X17 W17 V17
    have K17 : Keep h0 h17 [a] := K14.wr W17 (Or.inl (by simp))
    replace V17 : own_AF Z h17 a .long 4 (own_up (fun j => .long (own_ors g F W sh 1 j)) (W + 1) (.long ((own_ors g F W sh 1 (W + 1)) ||| (own_Lshl (F 1) sh)))) := V17
    have F18_b : own_AF Z h17 b .long 3 (fun j => .long (G j)) := F14_b.other W17 (Ne.symm hab)
    rw [own_up_o1 _ _ _ _ rfl] at V17
    refine own_iload X17 own_d_prog_37_method_8_code_41 rfl ?_
    suffices J20 : ∀ sp1 : Int64, sp1 = own_spill (F 1) sh → own_Wins p e below A T17 (mkF m 58 #[.val (.ref a), .val (.int at_), .val (.ref b), .val (.int fi), .val (.int (Int32.ofNat 2)), .val (.int sh), .val (.int (1 : Int32)), .val (.long (F 1)), .second, .val (.long sp0), .second] [(.long sp1)]) by
      by_cases e1 : sh = (0 : Int32)
      · skip
        refine own_ifNo X17 own_d_prog_37_method_8_code_43 ((if0 _ _).trans (teq e1).2) ?_
        refine own_lpush X17 own_d_prog_37_method_8_code_46 ?_
        refine own_goto X17 own_d_prog_37_method_8_code_47 ?_
        exact J20 _ (by simp only [own_spill, e1, if_true])
      · skip
        refine own_ifYes X17 own_d_prog_37_method_8_code_43 ((if0 _ _).trans (feq e1).2) ?_
        refine own_lload X17 own_d_prog_37_method_8_code_50 rfl ?_
        refine own_ipush X17 own_d_prog_37_method_8_code_52 ?_
        refine own_iload X17 own_d_prog_37_method_8_code_54 rfl ?_
        refine own_isub X17 own_d_prog_37_method_8_code_56 ?_
        refine own_lushr X17 own_d_prog_37_method_8_code_57 ?_
        exact J20 _ (by rw [own_spill, if_neg e1])
    intro sp1 hsp1
    refine own_lstore X17 #[.val (.ref a), .val (.int at_), .val (.ref b), .val (.int fi), .val (.int (Int32.ofNat 2)), .val (.int sh), .val (.int (1 : Int32)), .val (.long (F 1)), .second, .val (.long sp1), .second] own_d_prog_37_method_8_code_58 rfl ?_
    refine own_lload X17 own_d_prog_37_method_8_code_60 rfl ?_
    refine own_lpush X17 own_d_prog_37_method_8_code_62 ?_
    refine own_lcmp X17 own_d_prog_37_method_8_code_63 ?_
    suffices J21 : ∀ (T22 : State) (h22 : Heap) (g2_ : Nat → Value), own_St p l e ({ frames := 0, cells := 0, slots := 0, locals := 0 } : Room) s m #[(.ref a), (.int at_), (.ref b), (.int fi), (.int (Int32.ofNat 2))] below meth c Z n0 prog_37_method_8_code 11 "com/example/levelweave/levelweave/cli/WordBits" T22 h22 0 0 → own_AF Z h22 a .long 4 g2_ → own_AF Z h22 b .long 3 (fun j => .long (G j)) → Keep h0 h22 [a] → g2_ = (fun j => .long (own_ors g F W sh 2 j)) → own_Wins p e below A T22 (mkF m 83 #[.val (.ref a), .val (.int at_), .val (.ref b), .val (.int fi), .val (.int (Int32.ofNat 2)), .val (.int sh), .val (.int (1 : Int32)), .val (.long (F 1)), .second, .val (.long sp1), .second] []) by
      by_cases f1 : sp1 = (0 : Int64)
      · skip
        refine own_ifYes X17 own_d_prog_37_method_8_code_64 ((if0 _ _).trans (teq ((lw_eq sp1 (0 : Int64)).2 f1)).1) ?_
        have q : (own_o1 (own_ors g F W sh 1) (W + 1) (own_Lshl (F 1) sh)) = own_ors g F W sh 2 := by show _ = own_o1 (own_o1 (own_ors g F W sh 1) (W + 1) (own_Lshl (F 1) sh)) (W + 1 + 1) (own_spill (F 1) sh); rw [← hsp1, f1, own_o1_0]
        rw [q] at V17
        exact J21 T17 h17 _ X17 V17 F18_b K17 rfl
      · skip
        refine own_ifNo X17 own_d_prog_37_method_8_code_64 ((if0 _ _).trans (feq (mt (lw_eq sp1 (0 : Int64)).1 f1)).1) ?_
        have hb1 := hsp 1 (by omega) (by rw [← hsp1]; exact f1)
        refine own_aload X17 own_d_prog_37_method_8_code_67 rfl ?_
        refine own_iload X17 own_d_prog_37_method_8_code_68 rfl ?_
        refine own_ipush X17 own_d_prog_37_method_8_code_69 ?_
        refine own_idiv X17 own_d_prog_37_method_8_code_71 (by decide) ?_
        refine own_iload X17 own_d_prog_37_method_8_code_72 rfl ?_
        refine own_iadd X17 own_d_prog_37_method_8_code_74 ?_
        refine own_ipush X17 own_d_prog_37_method_8_code_75 ?_
        refine own_iadd X17 own_d_prog_37_method_8_code_76 ?_
        refine own_dup2 X17 own_d_prog_37_method_8_code_77 ?_
        refine own_laloadF X17 V17 (i := (W + 1 + 1)) (own_idx_add (own_idx_add hW (n := 1) ⟨by decide, by decide⟩ (by omega)) (n := 1) ⟨by decide, by decide⟩ (by omega)) (by omega) rfl own_d_prog_37_method_8_code_78 ?_
        refine own_lload X17 own_d_prog_37_method_8_code_79 rfl ?_
        refine own_lor X17 own_d_prog_37_method_8_code_81 ?_
        refine own_lastoreF X17 V17 ga (i := (W + 1 + 1)) (own_idx_add (own_idx_add hW (n := 1) ⟨by decide, by decide⟩ (by omega)) (n := 1) ⟨by decide, by decide⟩ (by omega)) (by omega) own_d_prog_37_method_8_code_82 ?_
        intro T23 h23 X23 W23 V23
        have K23 : Keep h0 h23 [a] := K17.wr W23 (Or.inl (by simp))
        replace V23 : own_AF Z h23 a .long 4 (own_up (fun j => .long ((own_o1 (own_ors g F W sh 1) (W + 1) (own_Lshl (F 1) sh)) j)) (W + 1 + 1) (.long (((own_o1 (own_ors g F W sh 1) (W + 1) (own_Lshl (F 1) sh)) (W + 1 + 1)) ||| sp1))) := V23
        have F24_b : own_AF Z h23 b .long 3 (fun j => .long (G j)) := F18_b.other W23 (Ne.symm hab)
        rw [own_up_o1 _ _ _ _ rfl, hsp1] at V23
        exact J21 T23 h23 _ X23 V23 F24_b K23 rfl
    intro T22 h22 g2_ X22 F22_a F22_b K22 hs22
    subst hs22
    refine own_iinc X22 #[.val (.ref a), .val (.int at_), .val (.ref b), .val (.int fi), .val (.int (Int32.ofNat 2)), .val (.int sh), .val (.int (2 : Int32)), .val (.long (F 1)), .second, .val (.long sp1), .second] own_d_prog_37_method_8_code_83 rfl rfl ?_
    refine own_goto X22 own_d_prog_37_method_8_code_86 ?_
    refine own_iload X22 own_d_prog_37_method_8_code_9 rfl ?_
    refine own_iload X22 own_d_prog_37_method_8_code_11 rfl ?_
    refine own_icYes X22 own_d_prog_37_method_8_code_13 (flt (by decide)).2.1 ?_
    exact own_ret0 X22 hret fin (by decide) (by decide) ⟨rfl, K22, by rw [hsh]; exact F22_a⟩ own_d_prog_37_method_8_code_89
set_option maxRecDepth 65536 in
set_option maxHeartbeats 40000000 in
theorem own_law (l : Launch) (Z : State) (a0 : Array Value) (hw : ∀ d ∈ tables_1, d.before a0 Z = true) (i0 i1 i2 : Int64) (i3 i4 i5 : Int32) (h0 : Heap) (n0 : Nat) (Z0 : n0 ≤ h0.size)  :
    own_Con l Z n0 x code maxLocals ret room_1 tables_1 #[(.long i0), (.long i1), (.long i2), (.int i3), (.int i4), (.int i5)] h0 (fun v _ => v = some (.int 1)) := by
  refine own_enter (plainFor_of_name own_pn_com_example_levelweave_levelweave_cli_WordBitsOrIntoPinLaw) Z0 #[.val (.long i0), .second, .val (.long i1), .second, .val (.long i2), .second, .val (.int i3), .val (.int i4), .val (.int i5), .unset, .unset, .unset, .unset, .unset, .unset, .unset, .unset, .unset, .unset, .unset, .unset, .unset, .unset, .unset, .unset, .unset, .unset, .unset] (fun m => by first | (simp [entryFrame, mkF, argsToLocals, Value.category, maxLocals]; done) | rfl) ?_
  intro p e s m below meth c T A X0 hret hnm fin
  refine own_ipush X0 own_d_code_0 ?_
  refine own_newarr X0 (hw _ (List.mem_of_getElem? (i := 0) rfl)) own_d_code_1 (n := 3) ⟨by decide, by decide⟩ 3 (Nat.le_refl _) (by decide) (by decide) (by decide) ?_
  intro T1 h1 b1 X1 E1 g1 ga_b1 V1
  replace V1 : own_AL Z h1 b1 .long [(.long (0 : Int64)), (.long (0 : Int64)), (.long (0 : Int64))] := V1
  refine own_dup X1 own_d_code_3 rfl ?_
  refine own_ipush X1 own_d_code_4 ?_
  refine own_lload X1 own_d_code_5 rfl ?_
  refine own_lastore X1 V1 ga_b1 (i := 0) ⟨by decide, by decide⟩ (Nat.le_of_ble_eq_true rfl) own_d_code_6 ?_
  intro T2 h2 X2 W2 V2
  replace V2 : own_AL Z h2 b1 .long [(.long i0), (.long (0 : Int64)), (.long (0 : Int64))] := V2
  refine own_dup X2 own_d_code_7 rfl ?_
  refine own_ipush X2 own_d_code_8 ?_
  refine own_lload X2 own_d_code_9 rfl ?_
  refine own_lastore X2 V2 ga_b1 (i := 1) ⟨by decide, by decide⟩ (Nat.le_of_ble_eq_true rfl) own_d_code_10 ?_
  intro T3 h3 X3 W3 V3
  replace V3 : own_AL Z h3 b1 .long [(.long i0), (.long i1), (.long (0 : Int64))] := V3
  refine own_dup X3 own_d_code_11 rfl ?_
  refine own_ipush X3 own_d_code_12 ?_
  refine own_lload X3 own_d_code_13 rfl ?_
  refine own_ldc2 X3 (hw _ (List.mem_of_getElem? (i := 1) rfl)) own_d_code_14 ?_
  refine own_lxor X3 own_d_code_17 ?_
  refine own_lastore X3 V3 ga_b1 (i := 2) ⟨by decide, by decide⟩ (Nat.le_of_ble_eq_true rfl) own_d_code_18 ?_
  intro T4 h4 X4 W4 V4
  replace V4 : own_AL Z h4 b1 .long [(.long i0), (.long i1), (.long (i0 ^^^ (-1 : Int64)))] := V4
  refine own_astore X4 #[.val (.long i0), .second, .val (.long i1), .second, .val (.long i2), .second, .val (.int i3), .val (.int i4), .val (.int i5), .val (.ref b1), .unset, .unset, .unset, .unset, .unset, .unset, .unset, .unset, .unset, .unset, .unset, .unset, .unset, .unset, .unset, .unset, .unset, .unset] own_d_code_19 rfl ?_
  refine own_iload X4 own_d_code_21 rfl ?_
  refine own_ipush X4 own_d_code_23 ?_
  refine own_iand X4 own_d_code_24 ?_
  generalize hfi : (i4 &&& (1 : Int32)) = fi
  obtain ⟨kf, lkf, fi_⟩ := own_and_idx i4 1 1 (by decide) (by decide)
  rw [hfi] at fi_
  obtain rfl := own_idx_val fi_
  refine own_istore X4 #[.val (.long i0), .second, .val (.long i1), .second, .val (.long i2), .second, .val (.int i3), .val (.int i4), .val (.int i5), .val (.ref b1), .val (.int (Int32.ofNat kf)), .unset, .unset, .unset, .unset, .unset, .unset, .unset, .unset, .unset, .unset, .unset, .unset, .unset, .unset, .unset, .unset, .unset] own_d_code_25 rfl ?_
  refine own_iload X4 own_d_code_27 rfl ?_
  refine own_ipush X4 own_d_code_29 ?_
  refine own_iushr X4 own_d_code_30 ?_
  refine own_ipush X4 own_d_code_31 ?_
  refine own_iand X4 own_d_code_32 ?_
  generalize hsl : ((own_Iushr i4 (1 : Int32)) &&& (1 : Int32)) = sl
  obtain ⟨ks, lks, sl_⟩ := own_and_idx (own_Iushr i4 1) 1 1 (by decide) (by decide)
  rw [hsl] at sl_
  obtain rfl := own_idx_val sl_
  refine own_istore X4 #[.val (.long i0), .second, .val (.long i1), .second, .val (.long i2), .second, .val (.int i3), .val (.int i4), .val (.int i5), .val (.ref b1), .val (.int (Int32.ofNat kf)), .val (.int (Int32.ofNat ks)), .unset, .unset, .unset, .unset, .unset, .unset, .unset, .unset, .unset, .unset, .unset, .unset, .unset, .unset, .unset, .unset] own_d_code_33 rfl ?_
  refine own_iload X4 own_d_code_35 rfl ?_
  refine own_ipush X4 own_d_code_37 ?_
  refine own_iushr X4 own_d_code_38 ?_
  refine own_ipush X4 own_d_code_39 ?_
  refine own_irem X4 own_d_code_40 (by decide) ?_
  generalize hcn : ((own_Iushr i4 (2 : Int32)) % (3 : Int32)) = cn
  obtain ⟨n, ln, cn_⟩ := own_cnt i4
  rw [hcn] at cn_
  obtain rfl := own_idx_val cn_
  refine own_istore X4 #[.val (.long i0), .second, .val (.long i1), .second, .val (.long i2), .second, .val (.int i3), .val (.int i4), .val (.int i5), .val (.ref b1), .val (.int (Int32.ofNat kf)), .val (.int (Int32.ofNat ks)), .val (.int (Int32.ofNat n)), .unset, .unset, .unset, .unset, .unset, .unset, .unset, .unset, .unset, .unset, .unset, .unset, .unset, .unset, .unset] own_d_code_41 rfl ?_
  refine own_iload X4 own_d_code_43 rfl ?_
  refine own_ipush X4 own_d_code_45 ?_
  refine own_iand X4 own_d_code_47 ?_
  generalize hsf : (i3 &&& (63 : Int32)) = sf
  obtain ⟨S, lS, sf_⟩ := own_and_idx i3 63 6 (by decide) (by decide)
  rw [hsf] at sf_
  obtain rfl := own_idx_val sf_
  refine own_istore X4 #[.val (.long i0), .second, .val (.long i1), .second, .val (.long i2), .second, .val (.int i3), .val (.int i4), .val (.int i5), .val (.ref b1), .val (.int (Int32.ofNat kf)), .val (.int (Int32.ofNat ks)), .val (.int (Int32.ofNat n)), .val (.int (Int32.ofNat S)), .unset, .unset, .unset, .unset, .unset, .unset, .unset, .unset, .unset, .unset, .unset, .unset, .unset, .unset] own_d_code_48 rfl ?_
  refine own_ipush X4 own_d_code_50 ?_
  refine own_istore X4 #[.val (.long i0), .second, .val (.long i1), .second, .val (.long i2), .second, .val (.int i3), .val (.int i4), .val (.int i5), .val (.ref b1), .val (.int (Int32.ofNat kf)), .val (.int (Int32.ofNat ks)), .val (.int (Int32.ofNat n)), .val (.int (Int32.ofNat S)), .val (.int (0 : Int32)), .unset, .unset, .unset, .unset, .unset, .unset, .unset, .unset, .unset, .unset, .unset, .unset, .unset] own_d_code_51 rfl ?_
  refine own_iload X4 own_d_code_53 rfl ?_
  obtain ⟨G, hG⟩ : ∃ z : Nat → Int64, z = (fun j => ([i0, i1, (i0 ^^^ (-1 : Int64))] : List Int64).getD j 0) := ⟨_, rfl⟩
  have Vf : own_AF Z h4 b1 .long 3 (fun j => .long (G j)) := (V4.fn 3 rfl (.long 0)).to (fun j hj => by rw [hG]; match j, hj with | 0, _ => rfl | 1, _ => rfl | 2, _ => rfl)
  have hkk : kf < 2 := lkf
  have hks : ks < 2 := lks
  have hS64 : S < 64 := lS
  suffices J5 : ∀ (bs wv : Int32) (W : Nat), own_idx wv W ∧ W + n ≤ 4 ∧ (∀ i, i < n → ¬ own_spill (G (kf + i)) (Int32.ofNat S) = 0 → W + i + 1 < 4) → own_Wins p e below A T4 (mkF m 115 #[.val (.long i0), .second, .val (.long i1), .second, .val (.long i2), .second, .val (.int i3), .val (.int i4), .val (.int i5), .val (.ref b1), .val (.int (Int32.ofNat kf)), .val (.int (Int32.ofNat ks)), .val (.int (Int32.ofNat n)), .val (.int (Int32.ofNat S)), .val (.int bs), .val (.int wv), .unset, .unset, .unset, .unset, .unset, .unset, .unset, .unset, .unset, .unset, .unset, .unset] []) by
    by_cases c1 : (0 : Int32) < (Int32.ofNat n)
    · skip
      refine own_ifNo X4 own_d_code_55 ((if0 _ _).trans (tlt c1).2.2.2) ?_
      have n0_ : 0 < n := (own_idx_lt (m := 0) ⟨by decide, by decide⟩ cn_).mp c1
      refine own_iload X4 own_d_code_58 rfl ?_
      by_cases c2 : (Int32.ofNat S) = (0 : Int32)
      · skip
        refine own_ifYes X4 own_d_code_60 ((if0 _ _).trans (teq c2).1) ?_
        refine own_ipush X4 own_d_code_95 ?_
        refine own_iload X4 own_d_code_96 rfl ?_
        refine own_isub X4 own_d_code_98 ?_
        refine own_iload X4 own_d_code_99 rfl ?_
        refine own_ifYes X4 own_d_code_101 ((if0 _ _).trans (teq rfl).1) ?_
        refine own_ipush X4 own_d_code_108 ?_
        refine own_isub X4 own_d_code_109 ?_
        refine own_iload X4 own_d_code_110 rfl ?_
        refine own_isub X4 own_d_code_112 ?_
        refine own_istore X4 #[.val (.long i0), .second, .val (.long i1), .second, .val (.long i2), .second, .val (.int i3), .val (.int i4), .val (.int i5), .val (.ref b1), .val (.int (Int32.ofNat kf)), .val (.int (Int32.ofNat ks)), .val (.int (Int32.ofNat n)), .val (.int (Int32.ofNat S)), .val (.int (0 : Int32)), .val (.int ((((4 : Int32) - (Int32.ofNat n)) - (0 : Int32)) - (Int32.ofNat ks))), .unset, .unset, .unset, .unset, .unset, .unset, .unset, .unset, .unset, .unset, .unset, .unset] own_d_code_113 rfl ?_
        exact J5 _ _ (4 - n - 0 - ks) ⟨own_idx_sub (own_idx_sub (own_idx_sub (m := 4) ⟨by decide, by decide⟩ cn_ (by omega)) (n := 0) ⟨by decide, by decide⟩ (by omega)) sl_ (by omega), by omega, fun i hi h => absurd (show own_spill (G (kf + i)) (Int32.ofNat S) = 0 by simp only [own_spill, c2, if_true]) h⟩
      · skip
        refine own_ifNo X4 own_d_code_60 ((if0 _ _).trans (feq c2).1) ?_
        refine own_aload X4 own_d_code_63 rfl ?_
        refine own_iload X4 own_d_code_65 rfl ?_
        refine own_iload X4 own_d_code_67 rfl ?_
        refine own_iadd X4 own_d_code_69 ?_
        refine own_ipush X4 own_d_code_70 ?_
        refine own_isub X4 own_d_code_71 ?_
        refine own_laloadF X4 Vf (i := (kf + n - 1)) (own_idx_sub (own_idx_add fi_ cn_ (by omega)) (n := 1) ⟨by decide, by decide⟩ (by omega)) (by omega) rfl own_d_code_72 ?_
        refine own_lstore X4 #[.val (.long i0), .second, .val (.long i1), .second, .val (.long i2), .second, .val (.int i3), .val (.int i4), .val (.int i5), .val (.ref b1), .val (.int (Int32.ofNat kf)), .val (.int (Int32.ofNat ks)), .val (.int (Int32.ofNat n)), .val (.int (Int32.ofNat S)), .val (.int (0 : Int32)), .val (.long (G (kf + n - 1))), .second, .unset, .unset, .unset, .unset, .unset, .unset, .unset, .unset, .unset, .unset, .unset] own_d_code_73 rfl ?_
        refine own_lload X4 own_d_code_75 rfl ?_
        refine own_ipush X4 own_d_code_77 ?_
        refine own_iload X4 own_d_code_79 rfl ?_
        refine own_isub X4 own_d_code_81 ?_
        refine own_lushr X4 own_d_code_82 ?_
        refine own_lpush X4 own_d_code_83 ?_
        refine own_lcmp X4 own_d_code_84 ?_
        by_cases c3 : (own_Lushr (G (kf + n - 1)) ((64 : Int32) - (Int32.ofNat S))) = (0 : Int64)
        · skip
          refine own_ifYes X4 own_d_code_85 ((if0 _ _).trans (teq ((lw_eq (own_Lushr (G (kf + n - 1)) ((64 : Int32) - (Int32.ofNat S))) (0 : Int64)).2 c3)).1) ?_
          refine own_ipush X4 own_d_code_92 ?_
          refine own_istore X4 #[.val (.long i0), .second, .val (.long i1), .second, .val (.long i2), .second, .val (.int i3), .val (.int i4), .val (.int i5), .val (.ref b1), .val (.int (Int32.ofNat kf)), .val (.int (Int32.ofNat ks)), .val (.int (Int32.ofNat n)), .val (.int (Int32.ofNat S)), .val (.int (0 : Int32)), .val (.long (G (kf + n - 1))), .second, .unset, .unset, .unset, .unset, .unset, .unset, .unset, .unset, .unset, .unset, .unset] own_d_code_93 rfl ?_
          refine own_ipush X4 own_d_code_95 ?_
          refine own_iload X4 own_d_code_96 rfl ?_
          refine own_isub X4 own_d_code_98 ?_
          refine own_iload X4 own_d_code_99 rfl ?_
          refine own_ifYes X4 own_d_code_101 ((if0 _ _).trans (teq rfl).1) ?_
          refine own_ipush X4 own_d_code_108 ?_
          refine own_isub X4 own_d_code_109 ?_
          refine own_iload X4 own_d_code_110 rfl ?_
          refine own_isub X4 own_d_code_112 ?_
          refine own_istore X4 #[.val (.long i0), .second, .val (.long i1), .second, .val (.long i2), .second, .val (.int i3), .val (.int i4), .val (.int i5), .val (.ref b1), .val (.int (Int32.ofNat kf)), .val (.int (Int32.ofNat ks)), .val (.int (Int32.ofNat n)), .val (.int (Int32.ofNat S)), .val (.int (0 : Int32)), .val (.int ((((4 : Int32) - (Int32.ofNat n)) - (0 : Int32)) - (Int32.ofNat ks))), .unset, .unset, .unset, .unset, .unset, .unset, .unset, .unset, .unset, .unset, .unset, .unset] own_d_code_113 rfl ?_
          exact J5 _ _ (4 - n - 0 - ks) ⟨own_idx_sub (own_idx_sub (own_idx_sub (m := 4) ⟨by decide, by decide⟩ cn_ (by omega)) (n := 0) ⟨by decide, by decide⟩ (by omega)) sl_ (by omega), by omega, fun i hi h => by
              by_cases q : i + 1 = n
              · exfalso; apply h; rw [own_spill, if_neg c2, show kf + i = kf + n - 1 by omega]; exact c3
              · omega⟩
        · skip
          refine own_ifNo X4 own_d_code_85 ((if0 _ _).trans (feq (mt (lw_eq (own_Lushr (G (kf + n - 1)) ((64 : Int32) - (Int32.ofNat S))) (0 : Int64)).1 c3)).1) ?_
          have n3 : n + ks ≤ 3 := by omega
          refine own_ipush X4 own_d_code_88 ?_
          refine own_goto X4 own_d_code_89 ?_
          refine own_istore X4 #[.val (.long i0), .second, .val (.long i1), .second, .val (.long i2), .second, .val (.int i3), .val (.int i4), .val (.int i5), .val (.ref b1), .val (.int (Int32.ofNat kf)), .val (.int (Int32.ofNat ks)), .val (.int (Int32.ofNat n)), .val (.int (Int32.ofNat S)), .val (.int (1 : Int32)), .val (.long (G (kf + n - 1))), .second, .unset, .unset, .unset, .unset, .unset, .unset, .unset, .unset, .unset, .unset, .unset] own_d_code_93 rfl ?_
          refine own_ipush X4 own_d_code_95 ?_
          refine own_iload X4 own_d_code_96 rfl ?_
          refine own_isub X4 own_d_code_98 ?_
          refine own_iload X4 own_d_code_99 rfl ?_
          refine own_ifNo X4 own_d_code_101 ((if0 _ _).trans (feq (by decide)).1) ?_
          refine own_ipush X4 own_d_code_104 ?_
          refine own_goto X4 own_d_code_105 ?_
          refine own_isub X4 own_d_code_109 ?_
          refine own_iload X4 own_d_code_110 rfl ?_
          refine own_isub X4 own_d_code_112 ?_
          refine own_istore X4 #[.val (.long i0), .second, .val (.long i1), .second, .val (.long i2), .second, .val (.int i3), .val (.int i4), .val (.int i5), .val (.ref b1), .val (.int (Int32.ofNat kf)), .val (.int (Int32.ofNat ks)), .val (.int (Int32.ofNat n)), .val (.int (Int32.ofNat S)), .val (.int (1 : Int32)), .val (.int ((((4 : Int32) - (Int32.ofNat n)) - (1 : Int32)) - (Int32.ofNat ks))), .unset, .unset, .unset, .unset, .unset, .unset, .unset, .unset, .unset, .unset, .unset, .unset] own_d_code_113 rfl ?_
          exact J5 _ _ (4 - n - 1 - ks) ⟨own_idx_sub (own_idx_sub (own_idx_sub (m := 4) ⟨by decide, by decide⟩ cn_ (by omega)) (n := 1) ⟨by decide, by decide⟩ (by omega)) sl_ (by omega), by omega, fun i hi h => by omega⟩
    · skip
      refine own_ifYes X4 own_d_code_55 ((if0 _ _).trans (flt c1).2.2.2) ?_
      have n00 : n = 0 := by have := mt (own_idx_lt (m := 0) ⟨by decide, by decide⟩ cn_).mpr c1; omega
      refine own_ipush X4 own_d_code_95 ?_
      refine own_iload X4 own_d_code_96 rfl ?_
      refine own_isub X4 own_d_code_98 ?_
      refine own_iload X4 own_d_code_99 rfl ?_
      refine own_ifYes X4 own_d_code_101 ((if0 _ _).trans (teq rfl).1) ?_
      refine own_ipush X4 own_d_code_108 ?_
      refine own_isub X4 own_d_code_109 ?_
      refine own_iload X4 own_d_code_110 rfl ?_
      refine own_isub X4 own_d_code_112 ?_
      refine own_istore X4 #[.val (.long i0), .second, .val (.long i1), .second, .val (.long i2), .second, .val (.int i3), .val (.int i4), .val (.int i5), .val (.ref b1), .val (.int (Int32.ofNat kf)), .val (.int (Int32.ofNat ks)), .val (.int (Int32.ofNat n)), .val (.int (Int32.ofNat S)), .val (.int (0 : Int32)), .val (.int ((((4 : Int32) - (Int32.ofNat n)) - (0 : Int32)) - (Int32.ofNat ks))), .unset, .unset, .unset, .unset, .unset, .unset, .unset, .unset, .unset, .unset, .unset, .unset] own_d_code_113 rfl ?_
      exact J5 _ _ (4 - n - 0 - ks) ⟨own_idx_sub (own_idx_sub (own_idx_sub (m := 4) ⟨by decide, by decide⟩ cn_ (by omega)) (n := 0) ⟨by decide, by decide⟩ (by omega)) sl_ (by omega), by omega, fun i hi _ => by omega⟩
  intro bs wv W hsp
  obtain ⟨hwv, hWn, hsp⟩ := hsp
  obtain rfl := own_idx_val hwv
  refine own_iload X4 own_d_code_115 rfl ?_
  refine own_ipush X4 own_d_code_117 ?_
  refine own_imul X4 own_d_code_119 ?_
  refine own_iload X4 own_d_code_120 rfl ?_
  refine own_iadd X4 own_d_code_122 ?_
  generalize hat_ : (((Int32.ofNat W) * (64 : Int32)) + (Int32.ofNat S)) = at_
  have hat : own_idx at_ (64 * W + S) := by rw [← hat_]; exact own_idx_add (own_mul64 (own_idx_nat (by omega)) (by omega)) sf_ (by omega)
  have hdv := own_div64 hat
  rw [show (64 * W + S) / 64 = W by omega, show (64 * W + S) % 64 = S by omega] at hdv
  have hshf : at_ % (64 : Int32) = (Int32.ofNat S) := own_idx_val hdv.2
  refine own_istore X4 #[.val (.long i0), .second, .val (.long i1), .second, .val (.long i2), .second, .val (.int i3), .val (.int i4), .val (.int i5), .val (.ref b1), .val (.int (Int32.ofNat kf)), .val (.int (Int32.ofNat ks)), .val (.int (Int32.ofNat n)), .val (.int (Int32.ofNat S)), .val (.int bs), .val (.int (Int32.ofNat W)), .val (.int at_), .unset, .unset, .unset, .unset, .unset, .unset, .unset, .unset, .unset, .unset, .unset] own_d_code_123 rfl ?_
  refine own_ipush X4 own_d_code_125 ?_
  refine own_newarr X4 (hw _ (List.mem_of_getElem? (i := 0) rfl)) own_d_code_126 (n := 4) ⟨by decide, by decide⟩ 4 (Nat.le_refl _) (by decide) (by decide) (by decide) ?_
  intro T6 h6 b6 X6 E6 g6 ga_b6 V6
  have ne_b1_b6 : b1 ≠ b6 := by rw [g6]; exact Nat.ne_of_lt Vf.lt
  have F7_b1 : own_AF Z h6 b1 .long 3 (fun j => .long (G j)) := Vf.ext E6
  replace V6 : own_AL Z h6 b6 .long [(.long (0 : Int64)), (.long (0 : Int64)), (.long (0 : Int64)), (.long (0 : Int64))] := V6
  refine own_dup X6 own_d_code_128 rfl ?_
  refine own_ipush X6 own_d_code_129 ?_
  refine own_lload X6 own_d_code_130 rfl ?_
  refine own_lastore X6 V6 ga_b6 (i := 0) ⟨by decide, by decide⟩ (Nat.le_of_ble_eq_true rfl) own_d_code_132 ?_
  intro T8 h8 X8 W8 V8
  replace V8 : own_AL Z h8 b6 .long [(.long i2), (.long (0 : Int64)), (.long (0 : Int64)), (.long (0 : Int64))] := V8
  have F9_b1 : own_AF Z h8 b1 .long 3 (fun j => .long (G j)) := F7_b1.other W8 (Ne.symm (Ne.symm ne_b1_b6))
  refine own_dup X8 own_d_code_133 rfl ?_
  refine own_ipush X8 own_d_code_134 ?_
  refine own_lload X8 own_d_code_135 rfl ?_
  refine own_ldc2 X8 (hw _ (List.mem_of_getElem? (i := 1) rfl)) own_d_code_137 ?_
  refine own_lxor X8 own_d_code_140 ?_
  refine own_lastore X8 V8 ga_b6 (i := 1) ⟨by decide, by decide⟩ (Nat.le_of_ble_eq_true rfl) own_d_code_141 ?_
  intro T10 h10 X10 W10 V10
  replace V10 : own_AL Z h10 b6 .long [(.long i2), (.long (i2 ^^^ (-1 : Int64))), (.long (0 : Int64)), (.long (0 : Int64))] := V10
  have F11_b1 : own_AF Z h10 b1 .long 3 (fun j => .long (G j)) := F9_b1.other W10 (Ne.symm (Ne.symm ne_b1_b6))
  refine own_dup X10 own_d_code_142 rfl ?_
  refine own_ipush X10 own_d_code_143 ?_
  refine own_lload X10 own_d_code_144 rfl ?_
  refine own_lastore X10 V10 ga_b6 (i := 2) ⟨by decide, by decide⟩ (Nat.le_of_ble_eq_true rfl) own_d_code_146 ?_
  intro T12 h12 X12 W12 V12
  replace V12 : own_AL Z h12 b6 .long [(.long i2), (.long (i2 ^^^ (-1 : Int64))), (.long i2), (.long (0 : Int64))] := V12
  have F13_b1 : own_AF Z h12 b1 .long 3 (fun j => .long (G j)) := F11_b1.other W12 (Ne.symm (Ne.symm ne_b1_b6))
  refine own_dup X12 own_d_code_147 rfl ?_
  refine own_ipush X12 own_d_code_148 ?_
  refine own_lload X12 own_d_code_149 rfl ?_
  refine own_ldc2 X12 (hw _ (List.mem_of_getElem? (i := 1) rfl)) own_d_code_151 ?_
  refine own_lxor X12 own_d_code_154 ?_
  refine own_lastore X12 V12 ga_b6 (i := 3) ⟨by decide, by decide⟩ (Nat.le_of_ble_eq_true rfl) own_d_code_155 ?_
  intro T14 h14 X14 W14 V14
  replace V14 : own_AL Z h14 b6 .long [(.long i2), (.long (i2 ^^^ (-1 : Int64))), (.long i2), (.long (i2 ^^^ (-1 : Int64)))] := V14
  have F15_b1 : own_AF Z h14 b1 .long 3 (fun j => .long (G j)) := F13_b1.other W14 (Ne.symm (Ne.symm ne_b1_b6))
  refine own_astore X14 #[.val (.long i0), .second, .val (.long i1), .second, .val (.long i2), .second, .val (.int i3), .val (.int i4), .val (.int i5), .val (.ref b1), .val (.int (Int32.ofNat kf)), .val (.int (Int32.ofNat ks)), .val (.int (Int32.ofNat n)), .val (.int (Int32.ofNat S)), .val (.int bs), .val (.int (Int32.ofNat W)), .val (.int at_), .val (.ref b6), .unset, .unset, .unset, .unset, .unset, .unset, .unset, .unset, .unset, .unset] own_d_code_156 rfl ?_
  refine own_aload X14 own_d_code_158 rfl ?_
  refine own_iload X14 own_d_code_160 rfl ?_
  refine own_aload X14 own_d_code_162 rfl ?_
  refine own_iload X14 own_d_code_164 rfl ?_
  refine own_iload X14 own_d_code_166 rfl ?_
  obtain ⟨g, hg⟩ : ∃ z : Nat → Int64, z = (fun j => ([i2, (i2 ^^^ (-1 : Int64)), i2, (i2 ^^^ (-1 : Int64))] : List Int64).getD j 0) := ⟨_, rfl⟩
  have Vt : own_AF Z h14 b6 .long 4 (fun j => .long (g j)) := (V14.fn 4 rfl (.long 0)).to (fun j hj => by rw [hg]; match j, hj with | 0, _ => rfl | 1, _ => rfl | 2, _ => rfl | 3, _ => rfl)
  refine own_callS X14 (y := (⟨"com/example/levelweave/levelweave/cli/WordBits", "orInto", "([JI[JII)V"⟩ : MethodName)) [(.ref b6), (.int at_), (.ref b1), (.int (Int32.ofNat kf)), (.int (Int32.ofNat n))] [] 0 rfl (hw _ (List.mem_of_getElem? (i := 2) rfl)) (hw _ (List.mem_of_getElem? (i := 3) rfl)) (hw _ (List.mem_of_getElem? (i := 4) rfl)) (hw _ (List.mem_of_getElem? (i := 5) rfl)) (by decide) (own_orInto l Z a0 hw b6 b1 at_ (Int32.ofNat kf) n W S kf g G (fun i => G (kf + i)) h14 n0 X14.sz ln fi_ (by omega) hdv.1 hdv.2 hWn (fun _ => rfl) (by rw [hshf]; exact hsp) (Ne.symm ne_b1_b6) Vt F15_b1 ga_b6) own_d_code_168 own_pd___JI_JII_V rfl rfl (by show 2 * 0 + _ ≤ _; exact Nat.le_of_eq rfl) (by decide) (by decide) (by decide) (by decide) ?_
  intro T16 h16 v16 X16 P16
  obtain ⟨rfl, Kc, Ut⟩ := P16
  rw [hshf] at Ut
  have Uf : own_AF Z h16 b1 .long 3 (fun j => .long (G j)) := F15_b1.keep Kc (ninS (Ne.symm (Ne.symm ne_b1_b6)) nin0)
  show own_Wins p e below A T16 (mkF m 171 #[.val (.long i0), .second, .val (.long i1), .second, .val (.long i2), .second, .val (.int i3), .val (.int i4), .val (.int i5), .val (.ref b1), .val (.int (Int32.ofNat kf)), .val (.int (Int32.ofNat ks)), .val (.int (Int32.ofNat n)), .val (.int (Int32.ofNat S)), .val (.int bs), .val (.int (Int32.ofNat W)), .val (.int at_), .val (.ref b6), .unset, .unset, .unset, .unset, .unset, .unset, .unset, .unset, .unset, .unset] [])
  refine own_iload X16 own_d_code_171 rfl ?_
  refine own_ipush X16 own_d_code_173 ?_
  refine own_iand X16 own_d_code_176 ?_
  generalize hbi : (i5 &&& (255 : Int32)) = bi
  obtain ⟨ib, lib, bi_⟩ := own_and_idx i5 255 8 (by decide) (by decide)
  rw [hbi] at bi_
  obtain rfl := own_idx_val bi_
  have hib : ib < 256 := lib
  refine own_istore X16 #[.val (.long i0), .second, .val (.long i1), .second, .val (.long i2), .second, .val (.int i3), .val (.int i4), .val (.int i5), .val (.ref b1), .val (.int (Int32.ofNat kf)), .val (.int (Int32.ofNat ks)), .val (.int (Int32.ofNat n)), .val (.int (Int32.ofNat S)), .val (.int bs), .val (.int (Int32.ofNat W)), .val (.int at_), .val (.ref b6), .val (.int (Int32.ofNat ib)), .unset, .unset, .unset, .unset, .unset, .unset, .unset, .unset, .unset] own_d_code_177 rfl ?_
  refine own_iload X16 own_d_code_179 rfl ?_
  refine own_ipush X16 own_d_code_181 ?_
  refine own_iushr X16 own_d_code_183 ?_
  refine own_ipush X16 own_d_code_184 ?_
  refine own_iand X16 own_d_code_185 ?_
  have hu6 : own_idx (own_Iushr (Int32.ofNat ib) (6 : Int32)) (ib / 64) := own_ushr_idx 6 bi_ (by decide) (by decide)
  have h63 := own_low6 (Int32.ofNat ib) ib bi_
  suffices J17 : ∀ old : Int64, old = g (ib / 64) → own_Wins p e below A T16 (mkF m 200 #[.val (.long i0), .second, .val (.long i1), .second, .val (.long i2), .second, .val (.int i3), .val (.int i4), .val (.int i5), .val (.ref b1), .val (.int (Int32.ofNat kf)), .val (.int (Int32.ofNat ks)), .val (.int (Int32.ofNat n)), .val (.int (Int32.ofNat S)), .val (.int bs), .val (.int (Int32.ofNat W)), .val (.int at_), .val (.ref b6), .val (.int (Int32.ofNat ib)), .unset, .unset, .unset, .unset, .unset, .unset, .unset, .unset, .unset] [(.long old)]) by
    by_cases c5 : ((own_Iushr (Int32.ofNat ib) (6 : Int32)) &&& (1 : Int32)) = (0 : Int32)
    · skip
      refine own_ifNo X16 own_d_code_186 ((if0 _ _).trans (teq c5).2) ?_
      refine own_lload X16 own_d_code_189 rfl ?_
      refine own_goto X16 own_d_code_191 ?_
      exact J17 _ (by rw [hg]; exact own_old i2 ib hib (own_Iushr (Int32.ofNat ib) 6) hu6 c5)
    · skip
      refine own_ifYes X16 own_d_code_186 ((if0 _ _).trans (feq c5).2) ?_
      refine own_lload X16 own_d_code_194 rfl ?_
      refine own_ldc2 X16 (hw _ (List.mem_of_getElem? (i := 1) rfl)) own_d_code_196 ?_
      refine own_lxor X16 own_d_code_199 ?_
      exact J17 _ (by rw [hg]; exact own_old' i2 ib hib (own_Iushr (Int32.ofNat ib) 6) hu6 c5)
  intro old hold
  refine own_lstore X16 #[.val (.long i0), .second, .val (.long i1), .second, .val (.long i2), .second, .val (.int i3), .val (.int i4), .val (.int i5), .val (.ref b1), .val (.int (Int32.ofNat kf)), .val (.int (Int32.ofNat ks)), .val (.int (Int32.ofNat n)), .val (.int (Int32.ofNat S)), .val (.int bs), .val (.int (Int32.ofNat W)), .val (.int at_), .val (.ref b6), .val (.int (Int32.ofNat ib)), .val (.long old), .second, .unset, .unset, .unset, .unset, .unset, .unset, .unset] own_d_code_200 rfl ?_
  refine own_lload X16 own_d_code_202 rfl ?_
  refine own_iload X16 own_d_code_204 rfl ?_
  refine own_ipush X16 own_d_code_206 ?_
  refine own_iand X16 own_d_code_208 ?_
  refine own_lushr X16 own_d_code_209 ?_
  refine own_lpush X16 own_d_code_210 ?_
  refine own_land X16 own_d_code_211 ?_
  refine own_lstore X16 #[.val (.long i0), .second, .val (.long i1), .second, .val (.long i2), .second, .val (.int i3), .val (.int i4), .val (.int i5), .val (.ref b1), .val (.int (Int32.ofNat kf)), .val (.int (Int32.ofNat ks)), .val (.int (Int32.ofNat n)), .val (.int (Int32.ofNat S)), .val (.int bs), .val (.int (Int32.ofNat W)), .val (.int at_), .val (.ref b6), .val (.int (Int32.ofNat ib)), .val (.long old), .second, .val (.long ((own_Lushr old ((Int32.ofNat ib) &&& (63 : Int32))) &&& (1 : Int64))), .second, .unset, .unset, .unset, .unset, .unset] own_d_code_212 rfl ?_
  refine own_lpush X16 own_d_code_214 ?_
  refine own_lstore X16 #[.val (.long i0), .second, .val (.long i1), .second, .val (.long i2), .second, .val (.int i3), .val (.int i4), .val (.int i5), .val (.ref b1), .val (.int (Int32.ofNat kf)), .val (.int (Int32.ofNat ks)), .val (.int (Int32.ofNat n)), .val (.int (Int32.ofNat S)), .val (.int bs), .val (.int (Int32.ofNat W)), .val (.int at_), .val (.ref b6), .val (.int (Int32.ofNat ib)), .val (.long old), .second, .val (.long ((own_Lushr old ((Int32.ofNat ib) &&& (63 : Int32))) &&& (1 : Int64))), .second, .val (.long (0 : Int64)), .second, .unset, .unset, .unset] own_d_code_215 rfl ?_
  refine own_iload X16 own_d_code_217 rfl ?_
  refine own_iload X16 own_d_code_219 rfl ?_
  refine own_isub X16 own_d_code_221 ?_
  generalize hdd : ((Int32.ofNat ib) - at_) = dd
  refine own_istore X16 #[.val (.long i0), .second, .val (.long i1), .second, .val (.long i2), .second, .val (.int i3), .val (.int i4), .val (.int i5), .val (.ref b1), .val (.int (Int32.ofNat kf)), .val (.int (Int32.ofNat ks)), .val (.int (Int32.ofNat n)), .val (.int (Int32.ofNat S)), .val (.int bs), .val (.int (Int32.ofNat W)), .val (.int at_), .val (.ref b6), .val (.int (Int32.ofNat ib)), .val (.long old), .second, .val (.long ((own_Lushr old ((Int32.ofNat ib) &&& (63 : Int32))) &&& (1 : Int64))), .second, .val (.long (0 : Int64)), .second, .val (.int dd), .unset, .unset] own_d_code_222 rfl ?_
  refine own_iload X16 own_d_code_224 rfl ?_
  suffices J18 : ∀ wb : Int64, wb = own_win (fun i => G (kf + i)) (64 * W + S) ib n → own_Wins p e below A T16 (mkF m 260 #[.val (.long i0), .second, .val (.long i1), .second, .val (.long i2), .second, .val (.int i3), .val (.int i4), .val (.int i5), .val (.ref b1), .val (.int (Int32.ofNat kf)), .val (.int (Int32.ofNat ks)), .val (.int (Int32.ofNat n)), .val (.int (Int32.ofNat S)), .val (.int bs), .val (.int (Int32.ofNat W)), .val (.int at_), .val (.ref b6), .val (.int (Int32.ofNat ib)), .val (.long old), .second, .val (.long ((own_Lushr old ((Int32.ofNat ib) &&& (63 : Int32))) &&& (1 : Int64))), .second, .val (.long wb), .second, .val (.int dd), .unset, .unset] []) by
    by_cases d1 : dd < (0 : Int32)
    · skip
      refine own_ifYes X16 own_d_code_226 ((if0 _ _).trans (tlt d1).1) ?_
      exact J18 _ (by rw [own_win, if_neg (by have := own_neg hat bi_ hdd d1; omega)])
    · skip
      refine own_ifNo X16 own_d_code_226 ((if0 _ _).trans (flt d1).1) ?_
      have hle := own_nneg hat bi_ hdd d1
      have hdi : own_idx dd (ib - (64 * W + S)) := by rw [← hdd]; exact own_idx_sub bi_ hat hle
      refine own_iload X16 own_d_code_229 rfl ?_
      refine own_ipush X16 own_d_code_231 ?_
      refine own_iload X16 own_d_code_233 rfl ?_
      refine own_imul X16 own_d_code_235 ?_
      have hcn : own_idx ((64 : Int32) * (Int32.ofNat n)) (64 * n) := by rw [Int32.mul_comm]; exact own_mul64 cn_ (by omega)
      by_cases d2 : dd < ((64 : Int32) * (Int32.ofNat n))
      · skip
        refine own_icNo X16 own_d_code_236 (tlt d2).2.1 ?_
        have hlt := (own_idx_lt hdi hcn).mp d2
        have hu := own_ushr_idx (q := 6) 6 hdi (by decide) (by decide)
        refine own_aload X16 own_d_code_239 rfl ?_
        refine own_iload X16 own_d_code_241 rfl ?_
        refine own_iload X16 own_d_code_243 rfl ?_
        refine own_ipush X16 own_d_code_245 ?_
        refine own_iushr X16 own_d_code_247 ?_
        refine own_iadd X16 own_d_code_248 ?_
        refine own_laloadF X16 Uf (i := (kf + (ib - (64 * W + S)) / 64)) (own_idx_add fi_ hu (by omega)) (by omega) rfl own_d_code_249 ?_
        refine own_iload X16 own_d_code_250 rfl ?_
        refine own_ipush X16 own_d_code_252 ?_
        refine own_iand X16 own_d_code_254 ?_
        refine own_lushr X16 own_d_code_255 ?_
        refine own_lpush X16 own_d_code_256 ?_
        refine own_land X16 own_d_code_257 ?_
        refine own_lstore X16 #[.val (.long i0), .second, .val (.long i1), .second, .val (.long i2), .second, .val (.int i3), .val (.int i4), .val (.int i5), .val (.ref b1), .val (.int (Int32.ofNat kf)), .val (.int (Int32.ofNat ks)), .val (.int (Int32.ofNat n)), .val (.int (Int32.ofNat S)), .val (.int bs), .val (.int (Int32.ofNat W)), .val (.int at_), .val (.ref b6), .val (.int (Int32.ofNat ib)), .val (.long old), .second, .val (.long ((own_Lushr old ((Int32.ofNat ib) &&& (63 : Int32))) &&& (1 : Int64))), .second, .val (.long ((own_Lushr (G (kf + (ib - (64 * W + S)) / 64)) (dd &&& (63 : Int32))) &&& (1 : Int64))), .second, .val (.int dd), .unset, .unset] own_d_code_258 rfl ?_
        exact J18 _ (by rw [own_win, if_pos ⟨hle, hlt⟩, own_bit1 _ _ _ (own_low6 dd _ hdi) (by omega)])
      · skip
        refine own_icYes X16 own_d_code_236 (flt d2).2.1 ?_
        exact J18 _ (by rw [own_win, if_neg (by have := mt (own_idx_lt hdi hcn).mpr d2; omega)])
  intro wb hwb
  refine own_aload X16 own_d_code_260 rfl ?_
  refine own_iload X16 own_d_code_262 rfl ?_
  refine own_ipush X16 own_d_code_264 ?_
  refine own_iushr X16 own_d_code_266 ?_
  refine own_laloadF X16 Ut (i := (ib / 64)) hu6 (by omega) rfl own_d_code_267 ?_
  refine own_iload X16 own_d_code_268 rfl ?_
  refine own_ipush X16 own_d_code_270 ?_
  refine own_iand X16 own_d_code_272 ?_
  refine own_lushr X16 own_d_code_273 ?_
  refine own_lpush X16 own_d_code_274 ?_
  refine own_land X16 own_d_code_275 ?_
  refine own_lstore X16 #[.val (.long i0), .second, .val (.long i1), .second, .val (.long i2), .second, .val (.int i3), .val (.int i4), .val (.int i5), .val (.ref b1), .val (.int (Int32.ofNat kf)), .val (.int (Int32.ofNat ks)), .val (.int (Int32.ofNat n)), .val (.int (Int32.ofNat S)), .val (.int bs), .val (.int (Int32.ofNat W)), .val (.int at_), .val (.ref b6), .val (.int (Int32.ofNat ib)), .val (.long old), .second, .val (.long ((own_Lushr old ((Int32.ofNat ib) &&& (63 : Int32))) &&& (1 : Int64))), .second, .val (.long wb), .second, .val (.int dd), .val (.long ((own_Lushr (own_ors g (fun i => G (kf + i)) W (Int32.ofNat S) n (ib / 64)) ((Int32.ofNat ib) &&& (63 : Int32))) &&& (1 : Int64))), .second] own_d_code_276 rfl ?_
  refine own_lload X16 own_d_code_278 rfl ?_
  refine own_lload X16 own_d_code_280 rfl ?_
  refine own_lload X16 own_d_code_282 rfl ?_
  refine own_lor X16 own_d_code_284 ?_
  refine own_lcmp X16 own_d_code_285 ?_
  refine own_ifNo X16 own_d_code_286 ((if0 _ _).trans (teq ((lw_eq ((own_Lushr (own_ors g (fun i => G (kf + i)) W (Int32.ofNat S) n (ib / 64)) ((Int32.ofNat ib) &&& (63 : Int32))) &&& (1 : Int64)) (((own_Lushr old ((Int32.ofNat ib) &&& (63 : Int32))) &&& (1 : Int64)) ||| wb)).2 (by rw [hold, hwb]; exact own_final g _ W S n ib (Int32.ofNat S) _ sf_ hS64 h63))).2) ?_
  refine own_ipush X16 own_d_code_289 ?_
  refine own_goto X16 own_d_code_290 ?_
  exact own_retZ X16 hret rfl fin (by decide) (by decide) rfl own_d_code_294
set_option maxRecDepth 65536 in
set_option maxHeartbeats 40000000 in
theorem own_comes {Post : Tables → Env → Array Value → State → Outcome → State → Prop} (hpost : ∀ tb e args s v u, (limb_1_1.after args s (.returned v) u = true ∧ limb_1_2.after args s (.returned v) u = true) → FrameEnd s (.returned v) u (Jvm.fieldLocs frame_1_writes args s ++ Jvm.arrayLocs frame_1_arrays args s ++ Jvm.staticLocs frame_1_statics s) 16 128 → Post tb e args s (.returned v) u) :
    ArmFor flags0 classFile x code maxLocals ret World_1 tables_1 room_1 Calls_1 rest_1 Pre_1 Post := by
  intro l hfl _ _ p e ha hc hk s m args below hf hA hF happ hP
  obtain ⟨hcalls, hrest, hpre⟩ := hP
  obtain ⟨-, -, -, hnamed, -, -, -, hat⟩ := (Spec.applies_iff hf).mp happ
  obtain ⟨hg, hn⟩ := and_e (Cond.before_iff.mp (show (Jvm.Cond.and given_1 narrow_1).before args s = true from hpre))
  obtain ⟨gc, g0⟩ := and_e hg
  obtain ⟨q0, g1⟩ := and_e g0
  obtain ⟨q1, g2⟩ := and_e g1
  obtain ⟨q2, g3⟩ := and_e g2
  obtain ⟨q3, g4⟩ := and_e g3
  obtain ⟨q4, g5⟩ := and_e g4
  obtain ⟨w0, w1, w2, w3, w4, w5, rfl⟩ : ∃ w0 w1 w2 w3 w4 w5 : Value, args = #[w0, w1, w2, w3, w4, w5] := by
    have hs : args.size = 6 := by simpa [Cond.value, given_1] using gc
    obtain ⟨L⟩ := args
    match L, hs with
    | [w0, w1, w2, w3, w4, w5], _ => exact ⟨w0, w1, w2, w3, w4, w5, rfl⟩
  have hw := fun d (hd : d ∈ tables_1) => atoms_spec (ws := Jvm.Cond.code x code maxLocals ret :: tables_1) hat d (List.mem_cons_of_mem _ hd)
  obtain ⟨i0, ei0⟩ := isL_v q0
  obtain rfl : w0 = (.long i0) := Option.some.inj ei0
  obtain ⟨i1, ei1⟩ := isL_v q1
  obtain rfl : w1 = (.long i1) := Option.some.inj ei1
  obtain ⟨i2, ei2⟩ := isL_v q2
  obtain rfl : w2 = (.long i2) := Option.some.inj ei2
  obtain ⟨i3, ei3⟩ := is_v q3
  obtain rfl : w3 = (.int i3) := Option.some.inj ei3
  obtain ⟨i4, ei4⟩ := is_v q4
  obtain rfl : w4 = (.int i4) := Option.some.inj ei4
  obtain ⟨i5, ei5⟩ := is_v g5
  obtain rfl : w5 = (.int i5) := Option.some.inj ei5
  obtain ⟨n, o, h1, h2, h3, _, L, rfl, ⟨N, -, rfl⟩, hq⟩ := own_law l s _ hw i0 i1 i2 i3 i4 i5 s.heap s.heap.size (Nat.le_refl _) p e ha hc hk s m _ below hf ((Spec.applies_iff_loose hf).mp happ).1 ⟨rfl, State.Warmed39.refl s, rfl⟩ trivial
  refine ⟨n, _, h1, h2, h3, hpost _ _ _ _ _ _ ⟨Cond.after_iff.mpr rfl, Cond.after_iff.mpr (eq_i res_at (Term.int_eval (1)) rfl)⟩ ⟨hq.1, hq.2.1, (hq.2.2.sift fun y hy => Or.inr (N y hy)).mono (by decide) (by decide)⟩⟩
theorem main_1_1 : Claimed_1_1 := own_comes fun _ _ _ _ _ _ h hF => ⟨h.1, hF⟩
theorem main_1_2 : Claimed_1_2 := own_comes fun _ _ _ _ _ _ h hF => ⟨h.2, hF⟩
end Jvm.Pilot.@@N@@
namespace Jvm.Pilot.@@N@@
open Jvm Jvm.ClassFile Sem Op Lib Jvm.Free Jvm.Stand Jvm.Pilot.@@N@@.Jvm.D
/-! MADE BY PROGRAM (witnessworld.py) out of the Statement's table words and the real class files: 11 classes; the members and pool entries that the words name. The judged class is class 1, her method 1. -/
namespace start1
open Jvm.ClassFile
def u (s : String) : CpInfo := .utf8 (stringToUtf16 s)
/-- a pool by its gaps: so many unusable entries, then the entry; so many at the end -/
def gap : Nat → List CpInfo → List CpInfo
  | 0, r => r
  | n + 1, r => .unusable :: gap n r
def poolList (es : List (Nat × CpInfo)) (last : Nat) : List CpInfo := es.foldr (fun e r => gap e.1 (e.2 :: r)) (gap last [])
def pool (es : List (Nat × CpInfo)) (last : Nat) : Array CpInfo := ⟨poolList es last⟩
def fileOf (pool : Array CpInfo) (this : Nat) (attrs : Array Attribute := #[]) (ms : Array MethodInfo := #[]) (fl : Nat := 33) (sup : Nat := 0) (ifs : Array Nat := #[]) (fds : Array FieldInfo := #[]) : ClassFile where
  minorVersion := 0
  majorVersion := 65
  constantPool := pool
  accessFlags := fl
  thisClass := this
  superClass := sup
  interfaces := ifs
  fields := fds
  methods := ms
  attributes := attrs
def plain (name : String) (sup : Option ClassId) : Class where
  name := name
  kind := .ordinary
  loader := none
  accessFlags := 33
  super := sup
  interfaces := #[]
  cf := none
  fields := #[]
  methods := #[]
  instanceTypes := #[]
  staticTypes := #[]
  resolved := #[]
  callSites := []
  init := .initialized
  statics := none
  mirror := none

def pool0 : Array CpInfo := pool [(5, u "<init>"), (0, u "()V"), (1, .class_ 10), (1, u "java/lang/Object")] 113

def k0m0 : Method := { name := "<init>", desc := "()V", sig := { parameters := [], returnType := none }, accessFlags := 1, code := none }
/-- java/lang/Object -/
def k0 : Class := { plain "java/lang/Object" none with
  accessFlags := 33
  interfaces := #[]
  cf := some (fileOf pool0 8 #[] #[{ accessFlags := 1, nameIndex := 5, descriptorIndex := 6, attributes := #[] }] 33 0 #[] #[])
  fields := #[]
  methods := #[k0m0]
  instanceTypes := #[]
  staticTypes := #[]
  resolved := Array.replicate 124 none
  statics := none }

def pool1 : Array CpInfo := pool [(2, .class_ 4), (1, u "java/lang/Object"), (0, u "<init>"), (0, u "()V"), (0, .long 18446744073709551615), (1, .methodref 10 11), (0, .class_ 12), (0, .nameAndType 13 14), (0, u "com/example/levelweave/levelweave/cli/WordBits"), (0, u "orInto"), (0, u "([JI[JII)V"), (0, .class_ 16), (0, u "com/example/levelweave/levelweave/cli/WordBitsOrIntoPinLaw"), (2, u "law"), (0, u "(JJJIII)Z")] 5

def k1m0 : Method := { name := "<init>", desc := "()V", sig := { parameters := [], returnType := none }, accessFlags := 2, code := none }
def k1c1 : Code := { maxStack := 7, maxLocals := 28, code := code, exceptionTable := #[], attributes := #[] }
def k1m1 : Method := { name := "law", desc := "(JJJIII)Z", sig := { parameters := [.long, .long, .long, .int, .int, .int], returnType := some .boolean }, accessFlags := 9, code := some k1c1 }
/-- com/example/levelweave/levelweave/cli/WordBitsOrIntoPinLaw -/
def k1 : Class := { plain "com/example/levelweave/levelweave/cli/WordBitsOrIntoPinLaw" (some 0) with
  accessFlags := 49
  interfaces := #[]
  cf := some (fileOf pool1 15 #[] #[{ accessFlags := 2, nameIndex := 5, descriptorIndex := 6, attributes := #[] }, { accessFlags := 9, nameIndex := 19, descriptorIndex := 20, attributes := #[] }] 49 2 #[] #[])
  fields := #[]
  methods := #[k1m0, k1m1]
  instanceTypes := #[]
  staticTypes := #[]
  resolved := Array.replicate 26 none
  statics := none }

def pool2 : Array CpInfo := pool [(2, .class_ 4), (1, u "java/lang/Object"), (0, u "<init>"), (0, u "()V"), (3, .class_ 12), (1, u "com/example/levelweave/levelweave/cli/WordBits"), (29, u "orInto"), (0, u "([JI[JII)V")] 3

def k2m0 : Method := { name := "<init>", desc := "()V", sig := { parameters := [], returnType := none }, accessFlags := 2, code := none }
def k2c1 : Code := { maxStack := 7, maxLocals := 11, code := prog_37_method_8_code, exceptionTable := #[], attributes := #[] }
def k2m1 : Method := { name := "orInto", desc := "([JI[JII)V", sig := { parameters := [(.array .long), .int, (.array .long), .int, .int], returnType := none }, accessFlags := 8, code := some k2c1 }
/-- com/example/levelweave/levelweave/cli/WordBits -/
def k2 : Class := { plain "com/example/levelweave/levelweave/cli/WordBits" (some 0) with
  accessFlags := 48
  interfaces := #[]
  cf := some (fileOf pool2 10 #[] #[{ accessFlags := 2, nameIndex := 5, descriptorIndex := 6, attributes := #[] }, { accessFlags := 8, nameIndex := 42, descriptorIndex := 43, attributes := #[] }] 48 2 #[] #[])
  fields := #[]
  methods := #[k2m0, k2m1]
  instanceTypes := #[]
  staticTypes := #[]
  resolved := Array.replicate 47 none
  statics := none }

def pool3 : Array CpInfo := pool [(1, u "java/lang/Cloneable"), (0, .class_ 1), (0, u "java/lang/Object"), (0, .class_ 3)] 3

/-- java/lang/Cloneable -/
def k3 : Class := { plain "java/lang/Cloneable" (some 0) with
  accessFlags := 1537
  interfaces := #[]
  cf := some (fileOf pool3 2 #[] #[] 1537 4 #[] #[])
  fields := #[]
  methods := #[]
  instanceTypes := #[]
  staticTypes := #[]
  resolved := Array.replicate 8 none
  statics := none }

def pool4 : Array CpInfo := pool [(1, u "java/io/Serializable"), (0, .class_ 1), (0, u "java/lang/Object"), (0, .class_ 3)] 3

/-- java/io/Serializable -/
def k4 : Class := { plain "java/io/Serializable" (some 0) with
  accessFlags := 1537
  interfaces := #[]
  cf := some (fileOf pool4 2 #[] #[] 1537 4 #[] #[])
  fields := #[]
  methods := #[]
  instanceTypes := #[]
  staticTypes := #[]
  resolved := Array.replicate 8 none
  statics := none }

/-- the primitive byte -/
def k5 : Class := { plain "byte" none with kind := .primitive 'B', accessFlags := 0x411 }
/-- [B -/
def k6 : Class := { plain "[B" (some 0) with kind := .array 5 .byte, interfaces := #[3, 4], accessFlags := 1041 }

/-- the primitive int -/
def k7 : Class := { plain "int" none with kind := .primitive 'I', accessFlags := 0x411 }
/-- [I -/
def k8 : Class := { plain "[I" (some 0) with kind := .array 7 .int, interfaces := #[3, 4], accessFlags := 1041 }

/-- the primitive long -/
def k9 : Class := { plain "long" none with kind := .primitive 'J', accessFlags := 0x411 }
/-- [J -/
def k10 : Class := { plain "[J" (some 0) with kind := .array 9 .long, interfaces := #[3, 4], accessFlags := 1041 }

def heap : Heap := #[]
def classes : Array Class := #[k0, k1, k2, k3, k4, k5, k6, k7, k8, k9, k10]
def interned : List (Array UInt16 × Addr) := []
def slotsUsed : Nat := 0
def theMethod : MethodId := ⟨1, 1⟩
def args0 : Array Value := #[.long 5, .long 6, .long 7, .int 8, .int 9, .int 10]
def aboutOver (below : List Frame) : State where
  vm := { classes := classes, interned := interned.toArray }
  heap := heap
  slotsUsed := slotsUsed
  threads := #[{ frames := .invoking theMethod args0 :: below }]
def below0 : List Frame := [.native { method := ⟨0, 0⟩, args := #[] }]
def about1 : State := aboutOver below0
def p0 : Program := .bare "" "" ""
def e0 : Env := launch0.env 0 0 0
theorem w_frames : about1.frames = Frame.invoking theMethod args0 :: below0 := rfl
set_option maxRecDepth 65536 in
theorem w_args : argsFit about1.vm theMethod args0 = true := by decide +kernel
set_option maxRecDepth 65536 in
theorem w_heap : heapFits about1 = true := by decide +kernel
set_option maxRecDepth 65536 in
theorem w_runnable : about1.curStatus? = some .runnable := by decide +kernel
set_option maxRecDepth 65536 in
theorem w_alone : about1.alone = true := by decide +kernel
set_option maxRecDepth 65536 in
theorem w_named : about1.methodNamed? x = some theMethod := by decide +kernel
set_option maxRecDepth 65536 in
theorem w_hears : about1.hears theMethod below0 = true := by decide +kernel
set_option maxRecDepth 65536 in
theorem w_ripe : about1.ripe theMethod args0 below0 = true := by decide +kernel
theorem w_running : about1.status = .running := rfl
set_option maxRecDepth 65536 in
theorem w_room : about1.hasRoom e0.platform room_1 = true :=
  launch0.hasRoom_least _ room_1 (by decide +kernel) (by decide +kernel) (by decide +kernel) (by decide +kernel) (by decide +kernel) (by decide +kernel)
theorem allAtoms_all (ts : List Jvm.Cond) (a : Array Jvm.Value) (st : Jvm.State) : (allAtoms ts).before a st = ts.all (fun c => c.before a st) := by
  induction ts with
  | nil => rfl
  | cons c t ih =>
    show (Jvm.Cond.and c (allAtoms t)).before a st = _
    rw [Jvm.Cond.before_and, ih, List.all_cons]
def words1 : List Jvm.Cond := Jvm.Cond.code x code maxLocals ret :: tables_1
/-- a 'code' word, met by the world's own term for the bytes: nothing is compared byte by byte -/
theorem code_word {y : MethodName} {bytes : ByteArray} {mx : Nat} {rt : Option FieldType} {a : Array Value} {s : State} {m : MethodId} {meth : Method} {c : Code} (h1 : s.methodNamed? y = some m) (h2 : s.vm.method? m = some meth) (h3 : meth.code = some c) (h4 : c.code = bytes)
    (h5 : (c.maxLocals == mx && c.exceptionTable.isEmpty && decide (c.maxStack ≤ mostOperands) && decide (meth.sig.returnType = rt) && !meth.locks && decide (parseMethodDescriptor y.desc = some meth.sig)) = true) : (Jvm.Cond.code y bytes mx rt).before a s = true := by
  simp only [Bool.and_eq_true, beq_iff_eq, Bool.not_eq_true', decide_eq_true_eq] at h5
  obtain ⟨⟨⟨⟨⟨g1, g2⟩, g3⟩, g4⟩, g5⟩, g6⟩ := h5
  simp [Cond.before, Cond.holds, Cond.value, h1, h2, h3, h4, g1, g2, g3, g4, g5, g6]
def isCode : Jvm.Cond → Bool
  | .code _ _ _ _ => true
  | _ => false
theorem all_split {L : List Jvm.Cond} {P : Jvm.Cond → Bool} (h1 : L.all (fun c => isCode c || P c) = true) (h2 : ∀ c ∈ L.filter isCode, P c = true) : L.all P = true := by
  refine List.all_eq_true.mpr fun c hc => ?_
  have h := List.all_eq_true.mp h1 c hc
  rcases Bool.eq_false_or_eq_true (isCode c) with hi | hi
  · exact h2 c (List.mem_filter.mpr ⟨hc, hi⟩)
  · simpa [hi] using h
set_option maxRecDepth 65536 in
theorem w_c0 : (Jvm.Cond.code x code maxLocals ret).before args0 about1 = true := code_word (m := ⟨1, 1⟩) (meth := k1m1) (c := k1c1) (by decide +kernel) rfl rfl rfl (by decide +kernel)
set_option maxRecDepth 65536 in
theorem w_c1 : (Jvm.Cond.code ({ cls := "com/example/levelweave/levelweave/cli/WordBits", name := "orInto", desc := "([JI[JII)V" } : Jvm.MethodName) prog_37_method_8_code (11 : Nat) (Option.none : Option Jvm.ClassFile.FieldType)).before args0 about1 = true := code_word (m := ⟨2, 1⟩) (meth := k2m1) (c := k2c1) (by decide +kernel) rfl rfl rfl (by decide +kernel)
def codes1 : List Jvm.Cond := [Jvm.Cond.code x code maxLocals ret, Jvm.Cond.code ({ cls := "com/example/levelweave/levelweave/cli/WordBits", name := "orInto", desc := "([JI[JII)V" } : Jvm.MethodName) prog_37_method_8_code (11 : Nat) (Option.none : Option Jvm.ClassFile.FieldType)]
set_option maxRecDepth 65536 in
theorem codes_eq : words1.filter isCode = codes1 := rfl
theorem w_codes : ∀ c ∈ words1.filter isCode, c.before args0 about1 = true := by
  rw [codes_eq]
  intro c hc
  simp only [codes1, List.mem_cons, List.not_mem_nil, or_false] at hc
  rcases hc with rfl | rfl
  · exact w_c0
  · exact w_c1
set_option maxRecDepth 65536 in
theorem w_t1 : words1.all (fun c => isCode c || c.before args0 about1) = true := by decide +kernel
theorem w_tables : (allAtoms (Jvm.Cond.code x code maxLocals ret :: tables_1)).before args0 about1 = true := by
  rw [allAtoms_all]
  show words1.all (fun c => c.before args0 about1) = true
  refine all_split ?_ w_codes
  rw [w_t1]
set_option maxRecDepth 65536 in
theorem w_case : (Jvm.Cond.and given_1 narrow_1).before args0 about1 = true := by decide +kernel
theorem w_applies : (headSpec (Jvm.Cond.code x code maxLocals ret :: tables_1) room_1).applies x e0.platform about1 = true :=
  (Spec.applies_iff w_frames).mpr ⟨w_running, w_runnable, w_alone, w_named, w_hears, w_ripe, w_room, w_tables⟩
theorem atStart : AtStart classFile x code maxLocals ret World_1 tables_1 room_1 Calls_1 rest_1 Pre_1 launch0 p0 e0 about1 theMethod args0 below0 :=
  ⟨lists_1, trivial, launch0.admits_env _ _ _, launch0.least_env, fairChoices_fair.cas, fairChoices_fair.clock, w_frames, w_args, w_heap, w_applies, trivial, trivial, w_case⟩
end start1
theorem witness_1 : WitnessClaimed_1 := ⟨start1.p0, start1.e0, start1.about1, start1.theMethod, start1.args0, start1.below0, start1.atStart⟩
end Jvm.Pilot.@@N@@
