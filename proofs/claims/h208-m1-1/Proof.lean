import JvmDerived
import JvmDerived.Pilot.@@N@@Statement
import JvmDerived.Pilot.@@N@@Code
set_option linter.unusedVariables false
set_option linter.unusedSimpArgs false
namespace Jvm.Pilot.@@N@@
open Jvm Jvm.ClassFile Sem Op Lib Jvm.Free Jvm.Stand Jvm.LawKit Jvm.RoadKit Bundle Jvm.Pilot.@@N@@.Jvm.D
section OwnLayer
variable {p : Program} {l : Launch} {e : Env} {R : Room} {s : State} {m : MethodId} {args : Array Value} {below : List Frame} {meth : Method} {c : Code} {T : State} {cells slots : Nat} {Z : State} {a0 : Array Value} {h h' : Heap} {n0 : Nat} {A : State → Outcome → Prop} {bs : ByteArray} {maxL : Nat} {own : String} {pc pc' : Nat} {L L' : Array Slot} {st : List Value}
/-- the run that stands over T with the frame f comes to an end that A allows -/
def own_Wins (p : Program) (e : Env) (below : List Frame) (A : State → Outcome → Prop) (T : State) (f : JFrame) : Prop := ∃ U o, Steps p.tables e below (T.setTop f) U ∧ A U o
theorem own_by {T' : State} {f f' : JFrame} (q : ∀ target, Steps p.tables e below (T'.setTop f') target → Steps p.tables e below (T.setTop f) target) (k : own_Wins p e below A T' f') : own_Wins p e below A T f := by
  obtain ⟨U, o, h1, h2⟩ := k
  exact ⟨U, o, q _ h1, h2⟩
/-- where the walk stands: the kit's Stand, the heap, what was written is new, and what the walk knows of the body -/
def own_St (p : Program) (l : Launch) (e : Env) (R : Room) (s : State) (m : MethodId) (args : Array Value) (below : List Frame) (meth : Method) (c : Code) (Z : State) (n0 : Nat) (bs : ByteArray) (maxL : Nat) (own : String) (T : State) (h : Heap) (cells slots : Nat) : Prop :=
  ∃ locs, Stand p l e R s m args below meth c T locs cells slots ∧ T.heap = h ∧ Fr n0 locs ∧ n0 ≤ h.size ∧ p.tables.exec = Jvm.exec ∧ c.code = bs ∧ c.maxLocals = maxL ∧ s.vm.findClass own = some m.cls ∧ Z.Warmed39 s.vm ∧ meth.locks = false
theorem own_St.here (X : own_St p l e R s m args below meth c Z n0 bs maxL own T h cells slots) : At T m c below := by obtain ⟨_, Y, -⟩ := X; exact Y.here
theorem own_St.ex (X : own_St p l e R s m args below meth c Z n0 bs maxL own T h cells slots) : p.tables.exec = Jvm.exec := by obtain ⟨_, -, -, -, -, q, -⟩ := X; exact q
theorem own_St.cd (X : own_St p l e R s m args below meth c Z n0 bs maxL own T h cells slots) : c.code = bs := by obtain ⟨_, -, -, -, -, -, q, -⟩ := X; exact q
theorem own_St.ml (X : own_St p l e R s m args below meth c Z n0 bs maxL own T h cells slots) : c.maxLocals = maxL := by obtain ⟨_, -, -, -, -, -, -, q, -⟩ := X; exact q
theorem own_St.sz (X : own_St p l e R s m args below meth c Z n0 bs maxL own T h cells slots) : n0 ≤ h.size := by obtain ⟨_, -, -, -, q, -⟩ := X; exact q
theorem own_St.wz (X : own_St p l e R s m args below meth c Z n0 bs maxL own T h cells slots) : Z.Warmed39 s.vm := by obtain ⟨_, -, -, -, -, -, -, -, -, q, -⟩ := X; exact q
theorem own_St.more (X : own_St p l e R s m args below meth c Z n0 bs maxL own T h cells slots) {cells' slots' : Nat} (hc : cells ≤ cells') (hs : slots ≤ slots') : own_St p l e R s m args below meth c Z n0 bs maxL own T h cells' slots' := by
  obtain ⟨locs, Y, r⟩ := X
  exact ⟨locs, Y.more hc hs, r⟩
/-- an instruction, with the pc behind it -/
def own_ix (bs : ByteArray) (pc : Nat) (i : Instr) (n pc' : Nat) : Prop := decode bs pc = .ok (i, n) ∧ pc + n = pc'
def own_ik (bs : ByteArray) (pc : Nat) (v : Int32) (pc' : Nat) : Prop := ∃ i : Int, (decode bs pc = .ok (.iconst i, 1) ∧ Int32.ofInt i = v ∧ pc + 1 = pc') ∨ (decode bs pc = .ok (.bipush i, 2) ∧ (Int8.ofInt i).toInt32 = v ∧ pc + 2 = pc') ∨ (decode bs pc = .ok (.sipush i, 3) ∧ (Int16.ofInt i).toInt32 = v ∧ pc + 3 = pc')
def own_lk (bs : ByteArray) (pc : Nat) (v : Int64) (pc' : Nat) : Prop := ∃ k : Fin 2, decode bs pc = .ok (.lconst k, 1) ∧ Int64.ofNat k = v ∧ pc + 1 = pc'
def own_ii (bs : ByteArray) (pc : Nat) (k : Nat) (w : Int32) (pc' : Nat) : Prop := ∃ cst : Int, decode bs pc = .ok (.iinc k cst, 3) ∧ Int32.ofInt cst = w ∧ pc + 3 = pc'
def own_gt (bs : ByteArray) (pc tgt : Nat) : Prop := ∃ o : Int, decode bs pc = .ok (.goto o, 3) ∧ 0 ≤ (pc : Int) + o ∧ ((pc : Int) + o).toNat = tgt
def own_ifc (bs : ByteArray) (pc : Nat) (cd : ClassFile.Cond) (pc' tgt : Nat) : Prop := ∃ o : Int, decode bs pc = .ok (.ifCond cd o, 3) ∧ pc + 3 = pc' ∧ 0 ≤ (pc : Int) + o ∧ ((pc : Int) + o).toNat = tgt
def own_icm (bs : ByteArray) (pc : Nat) (cd : ClassFile.Cond) (pc' tgt : Nat) : Prop := ∃ o : Int, decode bs pc = .ok (.if_icmp cd o, 3) ∧ pc + 3 = pc' ∧ 0 ≤ (pc : Int) + o ∧ ((pc : Int) + o).toNat = tgt
def own_inl (bs : ByteArray) (pc : Nat) (pc' tgt : Nat) : Prop := ∃ o : Int, decode bs pc = .ok (.ifnull o, 3) ∧ pc + 3 = pc' ∧ 0 ≤ (pc : Int) + o ∧ ((pc : Int) + o).toNat = tgt
def own_inn (bs : ByteArray) (pc : Nat) (pc' tgt : Nat) : Prop := ∃ o : Int, decode bs pc = .ok (.ifnonnull o, 3) ∧ pc + 3 = pc' ∧ 0 ≤ (pc : Int) + o ∧ ((pc : Int) + o).toNat = tgt
def own_il (bs : ByteArray) (pc k pc' : Nat) : Prop := (∃ q : Fin 4, decode bs pc = .ok (.iload_n q, 1) ∧ q.val = k ∧ pc + 1 = pc') ∨ (decode bs pc = .ok (.iload k, 2) ∧ pc + 2 = pc')
def own_ll (bs : ByteArray) (pc k pc' : Nat) : Prop := (∃ q : Fin 4, decode bs pc = .ok (.lload_n q, 1) ∧ q.val = k ∧ pc + 1 = pc') ∨ (decode bs pc = .ok (.lload k, 2) ∧ pc + 2 = pc')
def own_al (bs : ByteArray) (pc k pc' : Nat) : Prop := (∃ q : Fin 4, decode bs pc = .ok (.aload_n q, 1) ∧ q.val = k ∧ pc + 1 = pc') ∨ (decode bs pc = .ok (.aload k, 2) ∧ pc + 2 = pc')
def own_si (bs : ByteArray) (pc k pc' : Nat) : Prop := (∃ q : Fin 4, decode bs pc = .ok (.istore_n q, 1) ∧ q.val = k ∧ pc + 1 = pc') ∨ (decode bs pc = .ok (.istore k, 2) ∧ pc + 2 = pc')
def own_sl (bs : ByteArray) (pc k pc' : Nat) : Prop := (∃ q : Fin 4, decode bs pc = .ok (.lstore_n q, 1) ∧ q.val = k ∧ pc + 1 = pc') ∨ (decode bs pc = .ok (.lstore k, 2) ∧ pc + 2 = pc')
def own_sa (bs : ByteArray) (pc k pc' : Nat) : Prop := (∃ q : Fin 4, decode bs pc = .ok (.astore_n q, 1) ∧ q.val = k ∧ pc + 1 = pc') ∨ (decode bs pc = .ok (.astore k, 2) ∧ pc + 2 = pc')
def own_Lshl (x : Int64) (q : Int32) : Int64 := x <<< (q &&& 0x3f).toInt64
def own_Lshr (x : Int64) (q : Int32) : Int64 := x >>> (q &&& 0x3f).toInt64
def own_Lushr (x : Int64) (q : Int32) : Int64 := (x.toUInt64 >>> (q &&& 0x3f).toInt64.toUInt64).toInt64
def own_Ishl (x q : Int32) : Int32 := x <<< (q &&& 31)
def own_Ishr (x q : Int32) : Int32 := x >>> (q &&& 31)
def own_Iushr (x q : Int32) : Int32 := (x.toUInt32 >>> (q &&& 31).toUInt32).toInt32
theorem own_iadd (X : own_St p l e R s m args below meth c Z n0 bs maxL own T h cells slots) {x y : Int32} (d : own_ix bs pc .iadd 1 pc')  (k : own_Wins p e below A T (mkF m pc' L (.int (x + y) :: st))) : own_Wins p e below A T (mkF m pc L (.int y :: .int x :: st)) := by
  obtain ⟨d, rfl⟩ := d
  exact own_by (fun _ q => XS.iadd X.here X.ex rfl (hb X.cd d) rfl q) k
theorem own_isub (X : own_St p l e R s m args below meth c Z n0 bs maxL own T h cells slots) {x y : Int32} (d : own_ix bs pc .isub 1 pc')  (k : own_Wins p e below A T (mkF m pc' L (.int (x - y) :: st))) : own_Wins p e below A T (mkF m pc L (.int y :: .int x :: st)) := by
  obtain ⟨d, rfl⟩ := d
  exact own_by (fun _ q => XS.isub X.here X.ex rfl (hb X.cd d) rfl q) k
theorem own_imul (X : own_St p l e R s m args below meth c Z n0 bs maxL own T h cells slots) {x y : Int32} (d : own_ix bs pc .imul 1 pc')  (k : own_Wins p e below A T (mkF m pc' L (.int (x * y) :: st))) : own_Wins p e below A T (mkF m pc L (.int y :: .int x :: st)) := by
  obtain ⟨d, rfl⟩ := d
  exact own_by (fun _ q => XS.imul X.here X.ex rfl (hb X.cd d) rfl q) k
theorem own_iand (X : own_St p l e R s m args below meth c Z n0 bs maxL own T h cells slots) {x y : Int32} (d : own_ix bs pc .iand 1 pc')  (k : own_Wins p e below A T (mkF m pc' L (.int (x &&& y) :: st))) : own_Wins p e below A T (mkF m pc L (.int y :: .int x :: st)) := by
  obtain ⟨d, rfl⟩ := d
  exact own_by (fun _ q => XS.iand X.here X.ex rfl (hb X.cd d) rfl q) k
theorem own_ior (X : own_St p l e R s m args below meth c Z n0 bs maxL own T h cells slots) {x y : Int32} (d : own_ix bs pc .ior 1 pc')  (k : own_Wins p e below A T (mkF m pc' L (.int (x ||| y) :: st))) : own_Wins p e below A T (mkF m pc L (.int y :: .int x :: st)) := by
  obtain ⟨d, rfl⟩ := d
  exact own_by (fun _ q => XS.ior X.here X.ex rfl (hb X.cd d) rfl q) k
theorem own_ixor (X : own_St p l e R s m args below meth c Z n0 bs maxL own T h cells slots) {x y : Int32} (d : own_ix bs pc .ixor 1 pc')  (k : own_Wins p e below A T (mkF m pc' L (.int (x ^^^ y) :: st))) : own_Wins p e below A T (mkF m pc L (.int y :: .int x :: st)) := by
  obtain ⟨d, rfl⟩ := d
  exact own_by (fun _ q => XS.ixor X.here X.ex rfl (hb X.cd d) rfl q) k
theorem own_ladd (X : own_St p l e R s m args below meth c Z n0 bs maxL own T h cells slots) {x y : Int64} (d : own_ix bs pc .ladd 1 pc')  (k : own_Wins p e below A T (mkF m pc' L (.long (x + y) :: st))) : own_Wins p e below A T (mkF m pc L (.long y :: .long x :: st)) := by
  obtain ⟨d, rfl⟩ := d
  exact own_by (fun _ q => XS.ladd X.here X.ex rfl (hb X.cd d) rfl q) k
theorem own_lsub (X : own_St p l e R s m args below meth c Z n0 bs maxL own T h cells slots) {x y : Int64} (d : own_ix bs pc .lsub 1 pc')  (k : own_Wins p e below A T (mkF m pc' L (.long (x - y) :: st))) : own_Wins p e below A T (mkF m pc L (.long y :: .long x :: st)) := by
  obtain ⟨d, rfl⟩ := d
  exact own_by (fun _ q => XS.lsub X.here X.ex rfl (hb X.cd d) rfl q) k
theorem own_lmul (X : own_St p l e R s m args below meth c Z n0 bs maxL own T h cells slots) {x y : Int64} (d : own_ix bs pc .lmul 1 pc')  (k : own_Wins p e below A T (mkF m pc' L (.long (x * y) :: st))) : own_Wins p e below A T (mkF m pc L (.long y :: .long x :: st)) := by
  obtain ⟨d, rfl⟩ := d
  exact own_by (fun _ q => XS.lmul X.here X.ex rfl (hb X.cd d) rfl q) k
theorem own_land (X : own_St p l e R s m args below meth c Z n0 bs maxL own T h cells slots) {x y : Int64} (d : own_ix bs pc .land 1 pc')  (k : own_Wins p e below A T (mkF m pc' L (.long (x &&& y) :: st))) : own_Wins p e below A T (mkF m pc L (.long y :: .long x :: st)) := by
  obtain ⟨d, rfl⟩ := d
  exact own_by (fun _ q => XS.land X.here X.ex rfl (hb X.cd d) rfl q) k
theorem own_lor (X : own_St p l e R s m args below meth c Z n0 bs maxL own T h cells slots) {x y : Int64} (d : own_ix bs pc .lor 1 pc')  (k : own_Wins p e below A T (mkF m pc' L (.long (x ||| y) :: st))) : own_Wins p e below A T (mkF m pc L (.long y :: .long x :: st)) := by
  obtain ⟨d, rfl⟩ := d
  exact own_by (fun _ q => XS.lor X.here X.ex rfl (hb X.cd d) rfl q) k
theorem own_lxor (X : own_St p l e R s m args below meth c Z n0 bs maxL own T h cells slots) {x y : Int64} (d : own_ix bs pc .lxor 1 pc')  (k : own_Wins p e below A T (mkF m pc' L (.long (x ^^^ y) :: st))) : own_Wins p e below A T (mkF m pc L (.long y :: .long x :: st)) := by
  obtain ⟨d, rfl⟩ := d
  exact own_by (fun _ q => XS.lxor X.here X.ex rfl (hb X.cd d) rfl q) k
theorem own_ishl (X : own_St p l e R s m args below meth c Z n0 bs maxL own T h cells slots) {x y : Int32} (d : own_ix bs pc .ishl 1 pc')  (k : own_Wins p e below A T (mkF m pc' L (.int (own_Ishl x y) :: st))) : own_Wins p e below A T (mkF m pc L (.int y :: .int x :: st)) := by
  obtain ⟨d, rfl⟩ := d
  exact own_by (fun _ q => XS.ishl X.here X.ex rfl (hb X.cd d) rfl q) k
theorem own_ishr (X : own_St p l e R s m args below meth c Z n0 bs maxL own T h cells slots) {x y : Int32} (d : own_ix bs pc .ishr 1 pc')  (k : own_Wins p e below A T (mkF m pc' L (.int (own_Ishr x y) :: st))) : own_Wins p e below A T (mkF m pc L (.int y :: .int x :: st)) := by
  obtain ⟨d, rfl⟩ := d
  exact own_by (fun _ q => XS.ishr X.here X.ex rfl (hb X.cd d) rfl q) k
theorem own_iushr (X : own_St p l e R s m args below meth c Z n0 bs maxL own T h cells slots) {x y : Int32} (d : own_ix bs pc .iushr 1 pc')  (k : own_Wins p e below A T (mkF m pc' L (.int (own_Iushr x y) :: st))) : own_Wins p e below A T (mkF m pc L (.int y :: .int x :: st)) := by
  obtain ⟨d, rfl⟩ := d
  exact own_by (fun _ q => XS.iushr X.here X.ex rfl (hb X.cd d) rfl q) k
theorem own_lshl (X : own_St p l e R s m args below meth c Z n0 bs maxL own T h cells slots) {x : Int64} {y : Int32} (d : own_ix bs pc .lshl 1 pc')  (k : own_Wins p e below A T (mkF m pc' L (.long (own_Lshl x y) :: st))) : own_Wins p e below A T (mkF m pc L (.int y :: .long x :: st)) := by
  obtain ⟨d, rfl⟩ := d
  exact own_by (fun _ q => XS.lshl X.here X.ex rfl (hb X.cd d) rfl q) k
theorem own_lshr (X : own_St p l e R s m args below meth c Z n0 bs maxL own T h cells slots) {x : Int64} {y : Int32} (d : own_ix bs pc .lshr 1 pc')  (k : own_Wins p e below A T (mkF m pc' L (.long (own_Lshr x y) :: st))) : own_Wins p e below A T (mkF m pc L (.int y :: .long x :: st)) := by
  obtain ⟨d, rfl⟩ := d
  exact own_by (fun _ q => XS.lshr X.here X.ex rfl (hb X.cd d) rfl q) k
theorem own_lushr (X : own_St p l e R s m args below meth c Z n0 bs maxL own T h cells slots) {x : Int64} {y : Int32} (d : own_ix bs pc .lushr 1 pc')  (k : own_Wins p e below A T (mkF m pc' L (.long (own_Lushr x y) :: st))) : own_Wins p e below A T (mkF m pc L (.int y :: .long x :: st)) := by
  obtain ⟨d, rfl⟩ := d
  exact own_by (fun _ q => XS.lushr X.here X.ex rfl (hb X.cd d) rfl q) k
theorem own_idiv (X : own_St p l e R s m args below meth c Z n0 bs maxL own T h cells slots) {x y : Int32} (d : own_ix bs pc .idiv 1 pc') (hy : y ≠ 0) (k : own_Wins p e below A T (mkF m pc' L (.int (x / y) :: st))) : own_Wins p e below A T (mkF m pc L (.int y :: .int x :: st)) := by
  obtain ⟨d, rfl⟩ := d
  exact own_by (fun _ q => XS.idiv X.here X.ex rfl (hb X.cd d) rfl hy q) k
theorem own_ldiv (X : own_St p l e R s m args below meth c Z n0 bs maxL own T h cells slots) {x y : Int64} (d : own_ix bs pc .ldiv 1 pc') (hy : y ≠ 0) (k : own_Wins p e below A T (mkF m pc' L (.long (x / y) :: st))) : own_Wins p e below A T (mkF m pc L (.long y :: .long x :: st)) := by
  obtain ⟨d, rfl⟩ := d
  exact own_by (fun _ q => XS.ldiv X.here X.ex rfl (hb X.cd d) rfl hy q) k
theorem own_irem (X : own_St p l e R s m args below meth c Z n0 bs maxL own T h cells slots) {x y : Int32} (d : own_ix bs pc .irem 1 pc') (hy : y ≠ 0) (k : own_Wins p e below A T (mkF m pc' L (.int (x % y) :: st))) : own_Wins p e below A T (mkF m pc L (.int y :: .int x :: st)) := by
  obtain ⟨d, rfl⟩ := d
  have e1 : x - x / y * y = x % y := irem_eq_mod x y
  exact own_by (fun _ q => XS.irem X.here X.ex rfl (hb X.cd d) rfl hy (by rw [e1]; exact q)) k
theorem own_lrem (X : own_St p l e R s m args below meth c Z n0 bs maxL own T h cells slots) {x y : Int64} (d : own_ix bs pc .lrem 1 pc') (hy : y ≠ 0) (k : own_Wins p e below A T (mkF m pc' L (.long (x % y) :: st))) : own_Wins p e below A T (mkF m pc L (.long y :: .long x :: st)) := by
  obtain ⟨d, rfl⟩ := d
  have e1 : x - x / y * y = x % y := lrem_mod x y
  exact own_by (fun _ q => XS.lrem X.here X.ex rfl (hb X.cd d) rfl hy (by rw [e1]; exact q)) k
theorem own_ineg (X : own_St p l e R s m args below meth c Z n0 bs maxL own T h cells slots) {x : Int32} (d : own_ix bs pc .ineg 1 pc')  (k : own_Wins p e below A T (mkF m pc' L (.int (-x) :: st))) : own_Wins p e below A T (mkF m pc L (.int x :: st)) := by
  obtain ⟨d, rfl⟩ := d
  exact own_by (fun _ q => XS.ineg X.here X.ex rfl (hb X.cd d) rfl q) k
theorem own_lneg (X : own_St p l e R s m args below meth c Z n0 bs maxL own T h cells slots) {x : Int64} (d : own_ix bs pc .lneg 1 pc')  (k : own_Wins p e below A T (mkF m pc' L (.long (-x) :: st))) : own_Wins p e below A T (mkF m pc L (.long x :: st)) := by
  obtain ⟨d, rfl⟩ := d
  exact own_by (fun _ q => XS.lneg X.here X.ex rfl (hb X.cd d) rfl q) k
theorem own_i2l (X : own_St p l e R s m args below meth c Z n0 bs maxL own T h cells slots) {x : Int32} (d : own_ix bs pc .i2l 1 pc')  (k : own_Wins p e below A T (mkF m pc' L (.long x.toInt64 :: st))) : own_Wins p e below A T (mkF m pc L (.int x :: st)) := by
  obtain ⟨d, rfl⟩ := d
  exact own_by (fun _ q => XS.i2l X.here X.ex rfl (hb X.cd d) rfl q) k
theorem own_l2i (X : own_St p l e R s m args below meth c Z n0 bs maxL own T h cells slots) {x : Int64} (d : own_ix bs pc .l2i 1 pc')  (k : own_Wins p e below A T (mkF m pc' L (.int x.toInt32 :: st))) : own_Wins p e below A T (mkF m pc L (.long x :: st)) := by
  obtain ⟨d, rfl⟩ := d
  exact own_by (fun _ q => XS.l2i X.here X.ex rfl (hb X.cd d) rfl q) k
theorem own_i2b (X : own_St p l e R s m args below meth c Z n0 bs maxL own T h cells slots) {x : Int32} (d : own_ix bs pc .i2b 1 pc')  (k : own_Wins p e below A T (mkF m pc' L (.int x.toInt8.toInt32 :: st))) : own_Wins p e below A T (mkF m pc L (.int x :: st)) := by
  obtain ⟨d, rfl⟩ := d
  exact own_by (fun _ q => XS.i2b X.here X.ex rfl (hb X.cd d) rfl q) k
theorem own_lcmp (X : own_St p l e R s m args below meth c Z n0 bs maxL own T h cells slots) {x y : Int64} (d : own_ix bs pc .lcmp 1 pc')  (k : own_Wins p e below A T (mkF m pc' L (.int (lcmpW x y) :: st))) : own_Wins p e below A T (mkF m pc L (.long y :: .long x :: st)) := by
  obtain ⟨d, rfl⟩ := d
  exact own_by (fun _ q => XS.lcmp X.here X.ex rfl (hb X.cd d) rfl q) k
theorem own_dup (X : own_St p l e R s m args below meth c Z n0 bs maxL own T h cells slots) {x : Value} (d : own_ix bs pc .dup 1 pc') (hc : x.category = 1) (k : own_Wins p e below A T (mkF m pc' L (x :: x :: st))) : own_Wins p e below A T (mkF m pc L (x :: st)) := by
  obtain ⟨d, rfl⟩ := d
  exact own_by (fun _ q => XS.dup X.here X.ex rfl (hb X.cd d) rfl hc q) k
theorem own_pop (X : own_St p l e R s m args below meth c Z n0 bs maxL own T h cells slots) {x : Value} (d : own_ix bs pc .pop 1 pc') (hc : x.category = 1) (k : own_Wins p e below A T (mkF m pc' L st)) : own_Wins p e below A T (mkF m pc L (x :: st)) := by
  obtain ⟨d, rfl⟩ := d
  exact own_by (fun _ q => XS.pop X.here X.ex rfl (hb X.cd d) rfl hc q) k
theorem own_dup2 (X : own_St p l e R s m args below meth c Z n0 bs maxL own T h cells slots) {x : Int32} {y : Addr} (d : own_ix bs pc .dup2 1 pc')  (k : own_Wins p e below A T (mkF m pc' L (.int x :: .ref y :: .int x :: .ref y :: st))) : own_Wins p e below A T (mkF m pc L (.int x :: .ref y :: st)) := by
  obtain ⟨d, rfl⟩ := d
  refine own_by (fun _ q => ?_) k
  show Steps p.tables e below (T.setTop (mkF m pc L (.int x :: .ref y :: st))) _
  jvm_step X.here [X.here.top, X.ex, (hb X.cd d), Value.category]
  exact q
theorem own_anull (X : own_St p l e R s m args below meth c Z n0 bs maxL own T h cells slots)  (d : own_ix bs pc .aconst_null 1 pc')  (k : own_Wins p e below A T (mkF m pc' L (.null :: st))) : own_Wins p e below A T (mkF m pc L st) := by
  obtain ⟨d, rfl⟩ := d
  exact own_by (fun _ q => XS.aconstNull X.here X.ex rfl (hb X.cd d) q) k
theorem own_ipush (X : own_St p l e R s m args below meth c Z n0 bs maxL own T h cells slots) {v : Int32} (d : own_ik bs pc v pc')  (k : own_Wins p e below A T (mkF m pc' L (.int v :: st))) : own_Wins p e below A T (mkF m pc L st) := by
  obtain ⟨i, ⟨d, rfl, rfl⟩ | ⟨d, rfl, rfl⟩ | ⟨d, rfl, rfl⟩⟩ := d
  · exact own_by (fun _ q => XS.iconst X.here X.ex rfl (hb X.cd d) q) k
  · exact own_by (fun _ q => XS.bipush X.here X.ex rfl (hb X.cd d) q) k
  · exact own_by (fun _ q => XS.sipush X.here X.ex rfl (hb X.cd d) q) k
theorem own_lpush (X : own_St p l e R s m args below meth c Z n0 bs maxL own T h cells slots) {v : Int64} (d : own_lk bs pc v pc')  (k : own_Wins p e below A T (mkF m pc' L (.long v :: st))) : own_Wins p e below A T (mkF m pc L st) := by
  obtain ⟨i, d, rfl, rfl⟩ := d
  exact own_by (fun _ q => XS.lconst X.here X.ex rfl (hb X.cd d) q) k
theorem own_iload (X : own_St p l e R s m args below meth c Z n0 bs maxL own T h cells slots) {i : Nat} {v : Int32} (d : own_il bs pc i pc') (hl : L[i]? = some (.val (.int v))) (k : own_Wins p e below A T (mkF m pc' L (.int v :: st))) : own_Wins p e below A T (mkF m pc L st) := by
  obtain ⟨i', d, rfl, rfl⟩ | ⟨d, rfl⟩ := d
  · exact own_by (fun _ q => XS.iloadN X.here X.ex rfl (hb X.cd d) hl q) k
  · exact own_by (fun _ q => XS.iload X.here X.ex rfl (hb X.cd d) hl q) k
theorem own_lload (X : own_St p l e R s m args below meth c Z n0 bs maxL own T h cells slots) {i : Nat} {v : Int64} (d : own_ll bs pc i pc') (hl : L[i]? = some (.val (.long v))) (k : own_Wins p e below A T (mkF m pc' L (.long v :: st))) : own_Wins p e below A T (mkF m pc L st) := by
  obtain ⟨i', d, rfl, rfl⟩ | ⟨d, rfl⟩ := d
  · exact own_by (fun _ q => XS.lloadN X.here X.ex rfl (hb X.cd d) hl q) k
  · exact own_by (fun _ q => XS.lload X.here X.ex rfl (hb X.cd d) hl q) k
theorem own_aload (X : own_St p l e R s m args below meth c Z n0 bs maxL own T h cells slots) {i : Nat} {v : Addr} (d : own_al bs pc i pc') (hl : L[i]? = some (.val (.ref v))) (k : own_Wins p e below A T (mkF m pc' L (.ref v :: st))) : own_Wins p e below A T (mkF m pc L st) := by
  obtain ⟨i', d, rfl, rfl⟩ | ⟨d, rfl⟩ := d
  · exact own_by (fun _ q => XS.aloadN X.here X.ex rfl (hb X.cd d) hl rfl q) k
  · exact own_by (fun _ q => XS.aload X.here X.ex rfl (hb X.cd d) hl rfl q) k
theorem own_aloadN (X : own_St p l e R s m args below meth c Z n0 bs maxL own T h cells slots) {i : Nat} (d : own_al bs pc i pc') (hl : L[i]? = some (.val .null)) (k : own_Wins p e below A T (mkF m pc' L (.null :: st))) : own_Wins p e below A T (mkF m pc L st) := by
  obtain ⟨i', d, rfl, rfl⟩ | ⟨d, rfl⟩ := d
  · exact own_by (fun _ q => XS.aloadN X.here X.ex rfl (hb X.cd d) hl rfl q) k
  · exact own_by (fun _ q => XS.aload X.here X.ex rfl (hb X.cd d) hl rfl q) k
theorem own_istore (X : own_St p l e R s m args below meth c Z n0 bs maxL own T h cells slots) {i : Nat} {v : Int32} (L' : Array Slot) (d : own_si bs pc i pc') (hl : storeLocals L i (.int v) = some L') (k : own_Wins p e below A T (mkF m pc' L' st)) : own_Wins p e below A T (mkF m pc L (.int v :: st)) := by
  obtain ⟨i', d, rfl, rfl⟩ | ⟨d, rfl⟩ := d
  · exact own_by (fun _ q => XS.istoreN X.here X.ex rfl (hb X.cd d) rfl hl q) k
  · exact own_by (fun _ q => XS.istore X.here X.ex rfl (hb X.cd d) rfl hl q) k
theorem own_lstore (X : own_St p l e R s m args below meth c Z n0 bs maxL own T h cells slots) {i : Nat} {v : Int64} (L' : Array Slot) (d : own_sl bs pc i pc') (hl : storeLocals L i (.long v) = some L') (k : own_Wins p e below A T (mkF m pc' L' st)) : own_Wins p e below A T (mkF m pc L (.long v :: st)) := by
  obtain ⟨i', d, rfl, rfl⟩ | ⟨d, rfl⟩ := d
  · exact own_by (fun _ q => XS.lstoreN X.here X.ex rfl (hb X.cd d) rfl hl q) k
  · exact own_by (fun _ q => XS.lstore X.here X.ex rfl (hb X.cd d) rfl hl q) k
theorem own_astore (X : own_St p l e R s m args below meth c Z n0 bs maxL own T h cells slots) {i : Nat} {v : Addr} (L' : Array Slot) (d : own_sa bs pc i pc') (hl : storeLocals L i (.ref v) = some L') (k : own_Wins p e below A T (mkF m pc' L' st)) : own_Wins p e below A T (mkF m pc L (.ref v :: st)) := by
  obtain ⟨i', d, rfl, rfl⟩ | ⟨d, rfl⟩ := d
  · exact own_by (fun _ q => XS.astoreN X.here X.ex rfl (hb X.cd d) rfl rfl hl q) k
  · exact own_by (fun _ q => XS.astore X.here X.ex rfl (hb X.cd d) rfl rfl hl q) k
theorem own_iinc (X : own_St p l e R s m args below meth c Z n0 bs maxL own T h cells slots) {i : Nat} {x w : Int32} (L' : Array Slot) (d : own_ii bs pc i w pc') (hl : L[i]? = some (.val (.int x))) (hl' : storeLocals L i (.int (x + w)) = some L') (k : own_Wins p e below A T (mkF m pc' L' st)) : own_Wins p e below A T (mkF m pc L st) := by
  obtain ⟨i', d, rfl, rfl⟩ := d
  exact own_by (fun _ q => XS.iinc X.here X.ex rfl (hb X.cd d) hl hl' q) k
theorem own_goto (X : own_St p l e R s m args below meth c Z n0 bs maxL own T h cells slots) (d : own_gt bs pc pc') (k : own_Wins p e below A T (mkF m pc' L st)) : own_Wins p e below A T (mkF m pc L st) := by
  obtain ⟨o, d, h1, h2⟩ := d
  exact own_by (fun _ q => XS.goto X.here X.ex rfl rfl (hb X.cd d) h1 h2 q) k
theorem own_ifYes (X : own_St p l e R s m args below meth c Z n0 bs maxL own T h cells slots) {cd : ClassFile.Cond} {x : Int32} {nx : Nat} (d : own_ifc bs pc cd nx pc') (hc : ifCond.holds cd x = true) (k : own_Wins p e below A T (mkF m pc' L st)) : own_Wins p e below A T (mkF m pc L (.int x :: st)) := by
  obtain ⟨o, d, -, h1, h2⟩ := d
  exact own_by (fun _ q => XS.ifYes X.here X.ex rfl rfl (hb X.cd d) rfl hc h1 h2 q) k
theorem own_ifNo (X : own_St p l e R s m args below meth c Z n0 bs maxL own T h cells slots) {cd : ClassFile.Cond} {x : Int32} {tg : Nat} (d : own_ifc bs pc cd pc' tg) (hc : ifCond.holds cd x = false) (k : own_Wins p e below A T (mkF m pc' L st)) : own_Wins p e below A T (mkF m pc L (.int x :: st)) := by
  obtain ⟨o, d, rfl, h1, h2⟩ := d
  exact own_by (fun _ q => XS.ifNo X.here X.ex rfl (hb X.cd d) rfl hc q) k
theorem own_icYes (X : own_St p l e R s m args below meth c Z n0 bs maxL own T h cells slots) {cd : ClassFile.Cond} {x y : Int32} {nx : Nat} (d : own_icm bs pc cd nx pc') (hc : if_icmp.holds cd x y = true) (k : own_Wins p e below A T (mkF m pc' L st)) : own_Wins p e below A T (mkF m pc L (.int y :: .int x :: st)) := by
  obtain ⟨o, d, -, h1, h2⟩ := d
  exact own_by (fun _ q => XS.icmpYes X.here X.ex rfl rfl (hb X.cd d) rfl hc h1 h2 q) k
theorem own_icNo (X : own_St p l e R s m args below meth c Z n0 bs maxL own T h cells slots) {cd : ClassFile.Cond} {x y : Int32} {tg : Nat} (d : own_icm bs pc cd pc' tg) (hc : if_icmp.holds cd x y = false) (k : own_Wins p e below A T (mkF m pc' L st)) : own_Wins p e below A T (mkF m pc L (.int y :: .int x :: st)) := by
  obtain ⟨o, d, rfl, h1, h2⟩ := d
  exact own_by (fun _ q => XS.icmpNo X.here X.ex rfl (hb X.cd d) rfl hc q) k
theorem own_inlYes (X : own_St p l e R s m args below meth c Z n0 bs maxL own T h cells slots) {nx : Nat} (d : own_inl bs pc nx pc') (k : own_Wins p e below A T (mkF m pc' L st)) : own_Wins p e below A T (mkF m pc L (.null :: st)) := by
  obtain ⟨o, d, -, h1, h2⟩ := d
  exact own_by (fun _ q => XS.ifnullYes X.here X.ex rfl rfl (hb X.cd d) rfl h1 h2 q) k
theorem own_inlNo (X : own_St p l e R s m args below meth c Z n0 bs maxL own T h cells slots) {a : Addr} {tg : Nat} (d : own_inl bs pc pc' tg) (k : own_Wins p e below A T (mkF m pc' L st)) : own_Wins p e below A T (mkF m pc L (.ref a :: st)) := by
  obtain ⟨o, d, rfl, h1, h2⟩ := d
  exact own_by (fun _ q => XS.ifnullNo X.here X.ex rfl (hb X.cd d) rfl q) k
theorem own_innYes (X : own_St p l e R s m args below meth c Z n0 bs maxL own T h cells slots) {a : Addr} {nx : Nat} (d : own_inn bs pc nx pc') (k : own_Wins p e below A T (mkF m pc' L st)) : own_Wins p e below A T (mkF m pc L (.ref a :: st)) := by
  obtain ⟨o, d, -, h1, h2⟩ := d
  exact own_by (fun _ q => XS.ifnonnullYes X.here X.ex rfl rfl (hb X.cd d) rfl h1 h2 q) k
theorem own_innNo (X : own_St p l e R s m args below meth c Z n0 bs maxL own T h cells slots) {tg : Nat} (d : own_inn bs pc pc' tg) (k : own_Wins p e below A T (mkF m pc' L st)) : own_Wins p e below A T (mkF m pc L (.null :: st)) := by
  obtain ⟨o, d, rfl, h1, h2⟩ := d
  exact own_by (fun _ q => XS.ifnonnullNo X.here X.ex rfl (hb X.cd d) rfl q) k
theorem own_ldc (X : own_St p l e R s m args below meth c Z n0 bs maxL own T h cells slots) {i : Nat} {v : Int32} (w : (Jvm.Cond.constant own i v).before a0 Z = true) (d : own_ix bs pc (.ldc i) 2 pc') (k : own_Wins p e below A T (mkF m pc' L (.int v :: st))) : own_Wins p e below A T (mkF m pc L st) := by
  obtain ⟨locs, Y, eT, N, hn, hx, hby, hml, hown, hZ, hlk⟩ := X
  obtain ⟨d, rfl⟩ := d
  exact own_by (Y.ldcInt hx hown (mvT hZ w) (g := mkF m pc L st) rfl (hb hby d)) k
theorem own_ldc2 (X : own_St p l e R s m args below meth c Z n0 bs maxL own T h cells slots) {i : Nat} {v : Int64} (w : (Jvm.Cond.constantLong own i v).before a0 Z = true) (d : own_ix bs pc (.ldc2_w i) 3 pc') (k : own_Wins p e below A T (mkF m pc' L (.long v :: st))) : own_Wins p e below A T (mkF m pc L st) := by
  obtain ⟨locs, Y, eT, N, hn, hx, hby, hml, hown, hZ, hlk⟩ := X
  obtain ⟨d, rfl⟩ := d
  exact own_by (Y.ldc2Long hx hown (mvT hZ w) (g := mkF m pc L st) rfl (hb hby d)) k
/-- an array of primitives: its values as a list -/
def own_AL (Z : State) (h : Heap) (a : Addr) (ty : FieldType) (vs : List Value) : Prop := ∃ c : Cell, Arr Z h a c ty ∧ c.slots = vs.toArray ∧ vs.length < 2147483648
theorem own_AL.lt {a : Addr} {ty : FieldType} {vs : List Value} (V : own_AL Z h a ty vs) : a < h.size := by obtain ⟨c, A, -⟩ := V; exact A.lt
theorem own_AL.ext {a : Addr} {ty : FieldType} {vs : List Value} (V : own_AL Z h a ty vs) (E : Ext h h') : own_AL Z h' a ty vs := by obtain ⟨c, A, r⟩ := V; exact ⟨c, A.ext E, r⟩
theorem own_AL.other {a b : Addr} {sl : Nat} {v : Value} {ty : FieldType} {vs : List Value} (V : own_AL Z h b ty vs) (W : Wr h h' a sl v) (q : b ≠ a) : own_AL Z h' b ty vs := by obtain ⟨c, A, r⟩ := V; exact ⟨c, A.other W q, r⟩
theorem own_AL.keep {a : Addr} {ws : List Addr} {ty : FieldType} {vs : List Value} (V : own_AL Z h a ty vs) (K : Keep h h' ws) (q : a ∉ ws) : own_AL Z h' a ty vs := by obtain ⟨c, A, r⟩ := V; exact ⟨c, ⟨K.2.1 a c A.1 q, A.2⟩, r⟩
theorem own_AL.new {a : Addr} {k : ClassId} {ty : FieldType} {z : Int32} {n : Nat} (A : Arr Z h a (newA k ty z) ty) (hz : z.toNatClampNeg = n) (hn : n < 2147483648) : own_AL Z h a ty (List.replicate n (defaultValue ty)) :=
  ⟨_, A, by simp [newA, hz], by simpa using hn⟩
theorem own_AL.same {a : Addr} {k : Nat} {v : Value} {ty : FieldType} {vs : List Value} (V : own_AL Z h a ty vs) (W : Wr h h' a k v) : own_AL Z h' a ty (vs.set k v) := by
  obtain ⟨c, A, q, r⟩ := V
  exact ⟨_, A.same W, by simp [Cell.setSlot, q], by simpa using r⟩
/-- an index in its two forms -/
def own_idx (j : Int32) (k : Nat) : Prop := ¬ j < 0 ∧ j.toNatClampNeg = k
theorem own_in {j : Int32} {k : Nat} {cl : Cell} {vs : List Value} (hj : own_idx j k) (q : cl.slots = vs.toArray) (hk : k < vs.length) : ¬ (j < 0 ∨ cl.slots.size ≤ j.toNatClampNeg) := by
  rw [q, hj.2]; simp only [List.size_toArray]
  intro z; rcases z with z | z
  · exact hj.1 z
  · omega
theorem own_len {cl : Cell} {vs : List Value} (q : cl.slots = vs.toArray) : cl.slots.size.toInt32 = Int32.ofNat vs.length := by rw [q]; simp [Nat.toInt32]
theorem own_iaload (X : own_St p l e R s m args below meth c Z n0 bs maxL own T h cells slots) {a : Addr} {vs : List Value} (V : own_AL Z h a .int vs) {j : Int32} {i : Nat} {v : Value} (hj : own_idx j i) (hv : vs[i]? = some v) (d : own_ix bs pc .iaload 1 pc') (k : own_Wins p e below A T (mkF m pc' L (v :: st))) : own_Wins p e below A T (mkF m pc L (.int j :: .ref a :: st)) := by
  obtain ⟨locs, Y, eT, N, hn, hx, hby, hml, hown, hZ, hlk⟩ := X
  obtain ⟨d, rfl⟩ := d
  obtain ⟨cl, Ar, q, r⟩ := V
  have hk : i < vs.length := (List.getElem?_eq_some_iff.mp hv).1
  exact own_by (fun t kk => Y.iaload hx (j := j) (v := v) (by rw [eT]; exact Ar.1) (State.isArrayOf_alike hZ.alike Ar.2.1) Ar.2.2 (own_in hj q hk) (by rw [q, hj.2]; simpa using hv) (g := mkF m pc L (.int j :: .ref a :: st)) rfl rfl (hb hby d) t kk) k
theorem own_laload (X : own_St p l e R s m args below meth c Z n0 bs maxL own T h cells slots) {a : Addr} {vs : List Value} (V : own_AL Z h a .long vs) {j : Int32} {i : Nat} {v : Value} (hj : own_idx j i) (hv : vs[i]? = some v) (d : own_ix bs pc .laload 1 pc') (k : own_Wins p e below A T (mkF m pc' L (v :: st))) : own_Wins p e below A T (mkF m pc L (.int j :: .ref a :: st)) := by
  obtain ⟨locs, Y, eT, N, hn, hx, hby, hml, hown, hZ, hlk⟩ := X
  obtain ⟨d, rfl⟩ := d
  obtain ⟨cl, Ar, q, r⟩ := V
  have hk : i < vs.length := (List.getElem?_eq_some_iff.mp hv).1
  exact own_by (fun t kk => Y.laload hx (j := j) (v := v) (by rw [eT]; exact Ar.1) (State.isArrayOf_alike hZ.alike Ar.2.1) Ar.2.2 (own_in hj q hk) (by rw [q, hj.2]; simpa using hv) (g := mkF m pc L (.int j :: .ref a :: st)) rfl rfl (hb hby d) t kk) k
theorem own_baload (X : own_St p l e R s m args below meth c Z n0 bs maxL own T h cells slots) {a : Addr} {vs : List Value} (V : own_AL Z h a .byte vs) {j : Int32} {i : Nat} {v : Value} (hj : own_idx j i) (hv : vs[i]? = some v) (d : own_ix bs pc .baload 1 pc') (k : own_Wins p e below A T (mkF m pc' L (v :: st))) : own_Wins p e below A T (mkF m pc L (.int j :: .ref a :: st)) := by
  obtain ⟨locs, Y, eT, N, hn, hx, hby, hml, hown, hZ, hlk⟩ := X
  obtain ⟨d, rfl⟩ := d
  obtain ⟨cl, Ar, q, r⟩ := V
  have hk : i < vs.length := (List.getElem?_eq_some_iff.mp hv).1
  exact own_by (fun t kk => Y.baloadBytes hx (j := j) (v := v) (by rw [eT]; exact Ar.1) (State.isArrayOf_alike hZ.alike Ar.2.1) Ar.2.2 (own_in hj q hk) (by rw [q, hj.2]; simpa using hv) (g := mkF m pc L (.int j :: .ref a :: st)) rfl rfl (hb hby d) t kk) k
theorem own_alen (X : own_St p l e R s m args below meth c Z n0 bs maxL own T h cells slots) {a : Addr} {ty : FieldType} {vs : List Value} (V : own_AL Z h a ty vs) (d : own_ix bs pc .arraylength 1 pc') (k : own_Wins p e below A T (mkF m pc' L (.int (Int32.ofNat vs.length) :: st))) : own_Wins p e below A T (mkF m pc L (.ref a :: st)) := by
  obtain ⟨locs, Y, eT, N, hn, hx, hby, hml, hown, hZ, hlk⟩ := X
  obtain ⟨d, rfl⟩ := d
  obtain ⟨cl, Ar, q, r⟩ := V
  exact own_by (fun t kk => Y.arraylength hx (by rw [eT]; exact Ar.1) (State.isArrayOf_alike hZ.alike Ar.2.1) (g := mkF m pc L (.ref a :: st)) rfl rfl (hb hby d) t (by rw [own_len q]; exact kk)) k
theorem own_iastore (X : own_St p l e R s m args below meth c Z n0 bs maxL own T h cells slots) {a : Addr} {vs : List Value} (V : own_AL Z h a .int vs) (ga : n0 ≤ a) {j : Int32} {x : Int32} {i : Nat} (hj : own_idx j i) (hk : i < vs.length) (d : own_ix bs pc .iastore 1 pc') (k : ∀ T' h', own_St p l e R s m args below meth c Z n0 bs maxL own T' h' cells slots → Wr h h' a i (.int x) → own_AL Z h' a .int (vs.set i (.int x)) → own_Wins p e below A T' (mkF m pc' L st)) : own_Wins p e below A T (mkF m pc L (.int x :: .int j :: .ref a :: st)) := by
  obtain ⟨locs, Y, eT, N, hn, hx, hby, hml, hown, hZ, hlk⟩ := X
  obtain ⟨d, rfl⟩ := d
  have V0 := V
  obtain ⟨cl, Ar, q, r⟩ := V
  obtain ⟨T', h', Y', e', W', st'⟩ := stI Y hx hZ eT Ar (j := j) (x := x) (own_in hj q hk) (g := mkF m pc L (.int x :: .int j :: .ref a :: st)) rfl rfl (hb hby d)
  have W2 : Wr h h' a i (.int x) := hj.2 ▸ W'
  exact own_by st' (k T' h' ⟨_, Y', e', Fr.snoc Y' N ga, W'.size ▸ hn, hx, hby, hml, hown, hZ, hlk⟩ W2 (V0.same W2))
theorem own_lastore (X : own_St p l e R s m args below meth c Z n0 bs maxL own T h cells slots) {a : Addr} {vs : List Value} (V : own_AL Z h a .long vs) (ga : n0 ≤ a) {j : Int32} {x : Int64} {i : Nat} (hj : own_idx j i) (hk : i < vs.length) (d : own_ix bs pc .lastore 1 pc') (k : ∀ T' h', own_St p l e R s m args below meth c Z n0 bs maxL own T' h' cells slots → Wr h h' a i (.long x) → own_AL Z h' a .long (vs.set i (.long x)) → own_Wins p e below A T' (mkF m pc' L st)) : own_Wins p e below A T (mkF m pc L (.long x :: .int j :: .ref a :: st)) := by
  obtain ⟨locs, Y, eT, N, hn, hx, hby, hml, hown, hZ, hlk⟩ := X
  obtain ⟨d, rfl⟩ := d
  have V0 := V
  obtain ⟨cl, Ar, q, r⟩ := V
  obtain ⟨T', h', Y', e', W', st'⟩ := stJ Y hx hZ eT Ar (j := j) (x := x) (own_in hj q hk) (g := mkF m pc L (.long x :: .int j :: .ref a :: st)) rfl rfl (hb hby d)
  have W2 : Wr h h' a i (.long x) := hj.2 ▸ W'
  exact own_by st' (k T' h' ⟨_, Y', e', Fr.snoc Y' N ga, W'.size ▸ hn, hx, hby, hml, hown, hZ, hlk⟩ W2 (V0.same W2))
theorem own_bastore (X : own_St p l e R s m args below meth c Z n0 bs maxL own T h cells slots) {a : Addr} {vs : List Value} (V : own_AL Z h a .byte vs) (ga : n0 ≤ a) {j : Int32} {x : Int32} {i : Nat} (hj : own_idx j i) (hk : i < vs.length) (d : own_ix bs pc .bastore 1 pc') (k : ∀ T' h', own_St p l e R s m args below meth c Z n0 bs maxL own T' h' cells slots → Wr h h' a i (.int x.toInt8.toInt32) → own_AL Z h' a .byte (vs.set i (.int x.toInt8.toInt32)) → own_Wins p e below A T' (mkF m pc' L st)) : own_Wins p e below A T (mkF m pc L (.int x :: .int j :: .ref a :: st)) := by
  obtain ⟨locs, Y, eT, N, hn, hx, hby, hml, hown, hZ, hlk⟩ := X
  obtain ⟨d, rfl⟩ := d
  have V0 := V
  obtain ⟨cl, Ar, q, r⟩ := V
  obtain ⟨T', h', Y', e', W', st'⟩ := stB Y hx hZ eT Ar (j := j) (x := x) (own_in hj q hk) (g := mkF m pc L (.int x :: .int j :: .ref a :: st)) rfl rfl (hb hby d)
  have W2 : Wr h h' a i (.int x.toInt8.toInt32) := hj.2 ▸ W'
  exact own_by st' (k T' h' ⟨_, Y', e', Fr.snoc Y' N ga, W'.size ▸ hn, hx, hby, hml, hown, hZ, hlk⟩ W2 (V0.same W2))
theorem own_newarr (X : own_St p l e R s m args below meth c Z n0 bs maxL own T h cells slots) {aty : ArrayType} (w : (Jvm.Cond.arrayClass (newarray.typeOf aty)).before a0 Z = true) (d : own_ix bs pc (.newarray aty) 2 pc') {z : Int32} {n : Nat} (hz : own_idx z n) (cap : Nat) (hcap : n ≤ cap) (hb1 : cap * 8 ≤ 536870912) (hc : cells + 1 ≤ R.cells) (hl : slots + cap ≤ R.slots)
    (k : ∀ T' h' a, own_St p l e R s m args below meth c Z n0 bs maxL own T' h' (cells + 1) (slots + cap) → Ext h h' → a = h.size → n0 ≤ a → own_AL Z h' a (newarray.typeOf aty) (List.replicate n (defaultValue (newarray.typeOf aty))) → own_Wins p e below A T' (mkF m pc' L (.ref a :: st))) : own_Wins p e below A T (mkF m pc L (.int z :: st)) := by
  obtain ⟨locs, Y, eT, N, hn, hx, hby, hml, hown, hZ, hlk⟩ := X
  obtain ⟨d, rfl⟩ := d
  obtain ⟨T', h', cA, Y', e', E', A', st'⟩ := newP Y hx hZ w eT (g := mkF m pc L (.int z :: st)) rfl (hb hby d) rfl hz.1 (cap := cap) (by rw [hz.2]; exact hcap) hb1 hc hl
  exact own_by st' (k T' h' _ ⟨_, Y', e', N, Nat.le_trans hn E'.1, hx, hby, hml, hown, hZ, hlk⟩ E' rfl hn (own_AL.new A' hz.2 (by omega)))
def own_up (g : Nat → Value) (k : Nat) (v : Value) : Nat → Value := fun j => if j = k then v else g j
theorem own_up_same (g : Nat → Value) (k : Nat) (v : Value) : own_up g k v k = v := if_pos rfl
theorem own_up_ne (g : Nat → Value) {k j : Nat} (v : Value) (h : j ≠ k) : own_up g k v j = g j := if_neg h
def own_AF (Z : State) (h : Heap) (a : Addr) (ty : FieldType) (n : Nat) (g : Nat → Value) : Prop := ∃ vs, own_AL Z h a ty vs ∧ vs.length = n ∧ ∀ j, j < n → vs[j]? = some (g j)
theorem own_AF.lt {a : Addr} {ty : FieldType} {n : Nat} {g : Nat → Value} (V : own_AF Z h a ty n g) : a < h.size := by obtain ⟨vs, V, -⟩ := V; exact V.lt
theorem own_AF.ext {a : Addr} {ty : FieldType} {n : Nat} {g : Nat → Value} (V : own_AF Z h a ty n g) (E : Ext h h') : own_AF Z h' a ty n g := by obtain ⟨vs, V, r⟩ := V; exact ⟨vs, V.ext E, r⟩
theorem own_AF.other {a b : Addr} {sl : Nat} {v : Value} {ty : FieldType} {n : Nat} {g : Nat → Value} (V : own_AF Z h b ty n g) (W : Wr h h' a sl v) (q : b ≠ a) : own_AF Z h' b ty n g := by obtain ⟨vs, V, r⟩ := V; exact ⟨vs, V.other W q, r⟩
theorem own_AF.keep {a : Addr} {ws : List Addr} {ty : FieldType} {n : Nat} {g : Nat → Value} (V : own_AF Z h a ty n g) (K : Keep h h' ws) (q : a ∉ ws) : own_AF Z h' a ty n g := by obtain ⟨vs, V, r⟩ := V; exact ⟨vs, V.keep K q, r⟩
theorem own_AF.same {a : Addr} {i : Nat} {v : Value} {ty : FieldType} {n : Nat} {g : Nat → Value} (V : own_AF Z h a ty n g) (W : Wr h h' a i v) : own_AF Z h' a ty n (own_up g i v) := by
  obtain ⟨vs, V, hn, hg⟩ := V
  refine ⟨_, V.same W, by simpa using hn, fun j hj => ?_⟩
  by_cases hij : j = i
  · subst hij; rw [own_up_same, List.getElem?_set_self (by omega)]
  · rw [own_up_ne _ _ hij, List.getElem?_set_ne (Ne.symm hij)]; exact hg j hj
theorem own_AF.len {a : Addr} {ty : FieldType} {n : Nat} {g : Nat → Value} (V : own_AF Z h a ty n g) : n < 2147483648 := by obtain ⟨vs, ⟨c, -, -, q⟩, hn, -⟩ := V; omega
theorem own_AL.fn {a : Addr} {ty : FieldType} {vs : List Value} (V : own_AL Z h a ty vs) (n : Nat) (hn : vs.length = n) (d : Value) : own_AF Z h a ty n (fun j => vs.getD j d) := ⟨vs, V, hn, fun j hj => by simp only [List.getD_eq_getElem?_getD]; rw [List.getElem?_eq_getElem (by omega)]; rfl⟩
theorem own_AF.to {a : Addr} {ty : FieldType} {n : Nat} {g g' : Nat → Value} (V : own_AF Z h a ty n g) (e : ∀ j, j < n → g j = g' j) : own_AF Z h a ty n g' := by obtain ⟨vs, V, hn, hg⟩ := V; exact ⟨vs, V, hn, fun j hj => by rw [hg j hj, e j hj]⟩
theorem own_ialoadF (X : own_St p l e R s m args below meth c Z n0 bs maxL own T h cells slots) {a : Addr} {n : Nat} {g : Nat → Value} (V : own_AF Z h a .int n g) {j : Int32} {i : Nat} {v : Value} (hj : own_idx j i) (hi : i < n) (hv : g i = v) (d : own_ix bs pc .iaload 1 pc') (k : own_Wins p e below A T (mkF m pc' L (v :: st))) : own_Wins p e below A T (mkF m pc L (.int j :: .ref a :: st)) := by
  obtain ⟨vs, V, hn, hg⟩ := V
  exact own_iaload X V hj (by rw [hg i hi, hv]) d k
theorem own_laloadF (X : own_St p l e R s m args below meth c Z n0 bs maxL own T h cells slots) {a : Addr} {n : Nat} {g : Nat → Value} (V : own_AF Z h a .long n g) {j : Int32} {i : Nat} {v : Value} (hj : own_idx j i) (hi : i < n) (hv : g i = v) (d : own_ix bs pc .laload 1 pc') (k : own_Wins p e below A T (mkF m pc' L (v :: st))) : own_Wins p e below A T (mkF m pc L (.int j :: .ref a :: st)) := by
  obtain ⟨vs, V, hn, hg⟩ := V
  exact own_laload X V hj (by rw [hg i hi, hv]) d k
theorem own_baloadF (X : own_St p l e R s m args below meth c Z n0 bs maxL own T h cells slots) {a : Addr} {n : Nat} {g : Nat → Value} (V : own_AF Z h a .byte n g) {j : Int32} {i : Nat} {v : Value} (hj : own_idx j i) (hi : i < n) (hv : g i = v) (d : own_ix bs pc .baload 1 pc') (k : own_Wins p e below A T (mkF m pc' L (v :: st))) : own_Wins p e below A T (mkF m pc L (.int j :: .ref a :: st)) := by
  obtain ⟨vs, V, hn, hg⟩ := V
  exact own_baload X V hj (by rw [hg i hi, hv]) d k
theorem own_alenF (X : own_St p l e R s m args below meth c Z n0 bs maxL own T h cells slots) {a : Addr} {ty : FieldType} {n : Nat} {g : Nat → Value} (V : own_AF Z h a ty n g) (d : own_ix bs pc .arraylength 1 pc') (k : own_Wins p e below A T (mkF m pc' L (.int (Int32.ofNat n) :: st))) : own_Wins p e below A T (mkF m pc L (.ref a :: st)) := by
  obtain ⟨vs, V, rfl, hg⟩ := V
  exact own_alen X V d k
theorem own_iastoreF (X : own_St p l e R s m args below meth c Z n0 bs maxL own T h cells slots) {a : Addr} {n : Nat} {g : Nat → Value} (V : own_AF Z h a .int n g) (ga : n0 ≤ a) {j : Int32} {x : Int32} {i : Nat} (hj : own_idx j i) (hi : i < n) (d : own_ix bs pc .iastore 1 pc') (k : ∀ T' h', own_St p l e R s m args below meth c Z n0 bs maxL own T' h' cells slots → Wr h h' a i (.int x) → own_AF Z h' a .int n (own_up g i (.int x)) → own_Wins p e below A T' (mkF m pc' L st)) : own_Wins p e below A T (mkF m pc L (.int x :: .int j :: .ref a :: st)) := by
  have V0 := V
  obtain ⟨vs, V, hn, hg⟩ := V
  exact own_iastore X V ga hj (by omega) d (fun T' h' X' W' _ => k T' h' X' W' (V0.same W'))
theorem own_lastoreF (X : own_St p l e R s m args below meth c Z n0 bs maxL own T h cells slots) {a : Addr} {n : Nat} {g : Nat → Value} (V : own_AF Z h a .long n g) (ga : n0 ≤ a) {j : Int32} {x : Int64} {i : Nat} (hj : own_idx j i) (hi : i < n) (d : own_ix bs pc .lastore 1 pc') (k : ∀ T' h', own_St p l e R s m args below meth c Z n0 bs maxL own T' h' cells slots → Wr h h' a i (.long x) → own_AF Z h' a .long n (own_up g i (.long x)) → own_Wins p e below A T' (mkF m pc' L st)) : own_Wins p e below A T (mkF m pc L (.long x :: .int j :: .ref a :: st)) := by
  have V0 := V
  obtain ⟨vs, V, hn, hg⟩ := V
  exact own_lastore X V ga hj (by omega) d (fun T' h' X' W' _ => k T' h' X' W' (V0.same W'))
theorem own_bastoreF (X : own_St p l e R s m args below meth c Z n0 bs maxL own T h cells slots) {a : Addr} {n : Nat} {g : Nat → Value} (V : own_AF Z h a .byte n g) (ga : n0 ≤ a) {j : Int32} {x : Int32} {i : Nat} (hj : own_idx j i) (hi : i < n) (d : own_ix bs pc .bastore 1 pc') (k : ∀ T' h', own_St p l e R s m args below meth c Z n0 bs maxL own T' h' cells slots → Wr h h' a i (.int x.toInt8.toInt32) → own_AF Z h' a .byte n (own_up g i (.int x.toInt8.toInt32)) → own_Wins p e below A T' (mkF m pc' L st)) : own_Wins p e below A T (mkF m pc L (.int x :: .int j :: .ref a :: st)) := by
  have V0 := V
  obtain ⟨vs, V, hn, hg⟩ := V
  exact own_bastore X V ga hj (by omega) d (fun T' h' X' W' _ => k T' h' X' W' (V0.same W'))
/-- an object of a class with these fields (names and descriptors), holding these values -/
def own_Obj (Z : State) (h : Heap) (a : Addr) (C : String) (ns : List (String × String)) (vs : List Value) : Prop := Exa Z h a C ∧ ns.length = vs.length ∧ ∀ (i : Nat) (n d : String) (v : Value), ns[i]? = some (n, d) → vs[i]? = some v → Fld Z h a C n d v
theorem own_Obj.lt {a : Addr} {C : String} {ns : List (String × String)} {vs : List Value} (O : own_Obj Z h a C ns vs) : a < h.size := O.1.lt
theorem own_Obj.ext {a : Addr} {C : String} {ns : List (String × String)} {vs : List Value} (O : own_Obj Z h a C ns vs) (E : Ext h h') : own_Obj Z h' a C ns vs := ⟨O.1.ext E, O.2.1, fun i n d v h1 h2 => (O.2.2 i n d v h1 h2).ext E⟩
theorem own_Obj.other {a b : Addr} {sl : Nat} {w : Value} {C : String} {ns : List (String × String)} {vs : List Value} (O : own_Obj Z h b C ns vs) (W : Wr h h' a sl w) (q : b ≠ a) : own_Obj Z h' b C ns vs := ⟨O.1.wr W, O.2.1, fun i n d v h1 h2 => (O.2.2 i n d v h1 h2).other W (Or.inl q)⟩
theorem own_Obj.keep {a : Addr} {ws : List Addr} {C : String} {ns : List (String × String)} {vs : List Value} (O : own_Obj Z h a C ns vs) (K : Keep h h' ws) (q : a ∉ ws) : own_Obj Z h' a C ns vs := ⟨O.1.keep K, O.2.1, fun i n d v h1 h2 => (O.2.2 i n d v h1 h2).keep K q⟩
def own_Laid (Z : State) (a0 : Array Value) (C : String) (ns : List (String × String)) : Prop := (∀ q ∈ ns, Laid Z a0 C C q.1 q.2 ∧ ∃ t, parseFieldDescriptor q.2 = some t) ∧ (ns.map (·.1)).Nodup
theorem own_Obj.put {a : Addr} {C n d : String} {ns : List (String × String)} {vs : List Value} {i : Nat} {v : Value} (O : own_Obj Z h a C ns vs) (La : own_Laid Z a0 C ns) (hi : ns[i]? = some (n, d)) (W : Wr h h' a (Jvm.RoadKit.slotOf Z C n d) v) : own_Obj Z h' a C ns (vs.set i v) := by
  refine ⟨O.1.wr W, by simpa using O.2.1, fun j n' d' v' h1 h2 => ?_⟩
  by_cases hij : i = j
  · subst hij
    rw [hi] at h1
    obtain ⟨rfl, rfl⟩ : n = n' ∧ d = d' := by simpa using h1
    have hlt : i < vs.length := by rw [← O.2.1]; exact (List.getElem?_eq_some_iff.mp hi).1
    rw [List.getElem?_set_self hlt] at h2
    cases h2
    exact (O.2.2 i n d vs[i] hi (List.getElem?_eq_getElem hlt)).same W
  · rw [List.getElem?_set_ne hij] at h2
    refine (O.2.2 j n' d' v' h1 h2).other W (Or.inr ?_)
    obtain ⟨L1, t1, e1⟩ := La.1 _ (List.mem_of_getElem? hi)
    obtain ⟨L2, t2, e2⟩ := La.1 _ (List.mem_of_getElem? h1)
    refine slot_ne L2 L1 ?_ e2 e1
    intro hnn
    obtain ⟨li, ei⟩ := List.getElem?_eq_some_iff.mp hi
    obtain ⟨lj, ej⟩ := List.getElem?_eq_some_iff.mp h1
    have hp := List.pairwise_iff_getElem.mp La.2
    rcases Nat.lt_or_gt_of_ne hij with hlt | hlt
    · exact hp i j (by simpa using li) (by simpa using lj) hlt (by simp [ei, ej, hnn])
    · exact hp j i (by simpa using lj) (by simpa using li) hlt (by simp [ei, ej, hnn])
theorem own_getF (X : own_St p l e R s m args below meth c Z n0 bs maxL own T h cells slots) {i k : Nat} {a : Addr} {C n dd host : String} {ns : List (String × String)} {vs : List Value} {v : Value} (w : (Jvm.Cond.fieldLink own i C n dd).before a0 Z = true) (O : own_Obj Z h a C ns vs) (hi : ns[k]? = some (n, dd)) (hv : vs[k]? = some v) (d : own_ix bs pc (.getfield i) 3 pc')
    (kk : ∀ T', own_St p l e R s m args below meth c Z n0 bs maxL own T' h cells slots → own_Wins p e below A T' (mkF m pc' L (v :: st))) : own_Wins p e below A T (mkF m pc L (.ref a :: st)) := by
  obtain ⟨locs, Y, eT, N, hn, hx, hby, hml, hown, hZ, hlk⟩ := X
  obtain ⟨d, rfl⟩ := d
  obtain ⟨T', Y', e', st'⟩ := getF Y hx hZ hown (host := "") (Or.inl w) Via.refl eT (O.2.2 k n dd v hi hv) (g := mkF m pc L (.ref a :: st)) rfl rfl (hb hby d)
  exact own_by st' (kk T' ⟨_, Y', e', N, hn, hx, hby, hml, hown, hZ, hlk⟩)
theorem own_putF (X : own_St p l e R s m args below meth c Z n0 bs maxL own T h cells slots) {i k kc : Nat} {a : Addr} {C n dd : String} {ns : List (String × String)} {vs : List Value} {v v' : Value} {ty : FieldType} (w : (Jvm.Cond.fieldLink own i C n dd).before a0 Z = true) (O : own_Obj Z h a C ns vs) (La : own_Laid Z a0 C ns) (hi : ns[k]? = some (n, dd))
    (Ly : (Jvm.Cond.lays C C n dd).before a0 Z = true ∨ ((Jvm.Cond.laysFinal C C n dd).before a0 Z = true ∧ own = C ∧ meth.name = "<init>")) (wi : (Jvm.Cond.instantiable C kc).before a0 Z = true) (hty : parseFieldDescriptor dd = some ty) (hnr : narrow ty v = v') (hf : fits ty v' = true) (ga : n0 ≤ a) (d : own_ix bs pc (.putfield i) 3 pc')
    (kk : ∀ T' h', own_St p l e R s m args below meth c Z n0 bs maxL own T' h' cells slots → Wr h h' a (Jvm.RoadKit.slotOf Z C n dd) v' → own_Obj Z h' a C ns (vs.set k v') → own_Wins p e below A T' (mkF m pc' L st)) : own_Wins p e below A T (mkF m pc L (v :: .ref a :: st)) := by
  obtain ⟨locs, Y, eT, N, hn, hx, hby, hml, hown, hZ, hlk⟩ := X
  obtain ⟨d, rfl⟩ := d
  have hlt : k < vs.length := by rw [← O.2.1]; exact (List.getElem?_eq_some_iff.mp hi).1
  obtain ⟨T', h', Y', e', W', st'⟩ := putFN Y hx hZ hown w Via.refl eT (O.2.2 k n dd vs[k] hi (List.getElem?_eq_getElem hlt)) O.1 Ly wi hty hnr hf (g := mkF m pc L (v :: .ref a :: st)) rfl rfl (hb hby d)
  exact own_by st' (kk T' h' ⟨_, Y', e', Fr.snoc Y' N ga, W'.size ▸ hn, hx, hby, hml, hown, hZ, hlk⟩ W' (O.put La hi W'))
theorem own_new (X : own_St p l e R s m args below meth c Z n0 bs maxL own T h cells slots) {i nn : Nat} {C : String} {ns : List (String × String)} (w1 : (Jvm.Cond.classLink own i C).before a0 Z = true) (w2 : (Jvm.Cond.instantiable C nn).before a0 Z = true) (w3 : (Jvm.Cond.initialized C).before a0 Z = true) (La : own_Laid Z a0 C ns) (vs : List Value) (hvs : vs = ns.map fun q => match parseFieldDescriptor q.2 with | some t => defaultValue t | none => .null) (d : own_ix bs pc (.new i) 3 pc') (hc : cells + 1 ≤ R.cells) (hl : slots + nn ≤ R.slots)
    (kk : ∀ T' h' a, own_St p l e R s m args below meth c Z n0 bs maxL own T' h' (cells + 1) (slots + nn) → Ext h h' → a = h.size → n0 ≤ a → own_Obj Z h' a C ns vs → own_Wins p e below A T' (mkF m pc' L (.ref a :: st))) : own_Wins p e below A T (mkF m pc L st) := by
  obtain ⟨locs, Y, eT, N, hn, hx, hby, hml, hown, hZ, hlk⟩ := X
  obtain ⟨d, rfl⟩ := d
  obtain ⟨T', h', Y', e', E', A', D', -, st'⟩ := newO Y hx hZ hown w1 w2 w3 eT (g := mkF m pc L st) rfl (hb hby d) hc hl
  refine own_by st' (kk T' h' _ ⟨_, Y', e', N, Nat.le_trans hn E'.1, hx, hby, hml, hown, hZ, hlk⟩ E' rfl hn ⟨A', by simp [hvs], fun j n dd v h1 h2 => ?_⟩)
  obtain ⟨Lq, t, et⟩ := La.1 _ (List.mem_of_getElem? h1)
  rw [hvs, List.getElem?_map, h1] at h2
  simp only [Option.map_some, et, Option.some.injEq] at h2
  subst h2
  exact D' Lq et
theorem own_initO (X : own_St p l e R s m args below meth c Z n0 bs maxL own T h cells slots) {i : Nat} {a : Addr} (w1 : (Jvm.Cond.methodLink own i Lib.objectInit).before a0 Z = true) (w2 : (Jvm.Cond.instanceMethod Lib.objectInit).before a0 Z = true) (w3 : (Jvm.Cond.code Lib.objectInit ⟨#[0xb1]⟩ 1 none).before a0 Z = true) (d : own_ix bs pc (.invokespecial i) 3 pc') (hsz : L.size = maxL) (hf : 1 ≤ R.frames) (Wt : Nat) (hW : 2 * 0 + (st.map fun v => v.category).sum ≤ Wt) (hl : Wt + 12 ≤ R.locals)
    (kk : ∀ T', own_St p l e R s m args below meth c Z n0 bs maxL own T' h cells slots → own_Wins p e below A T' (mkF m pc' L st)) : own_Wins p e below A T (mkF m pc L (.ref a :: st)) := by
  obtain ⟨locs, Y, eT, N, hn, hx, hby, hml, hown, hZ, hlk⟩ := X
  obtain ⟨d, rfl⟩ := d
  obtain ⟨T', Y', e', st'⟩ := initO Y hx hZ hown w1 w2 w3 eT (g := mkF m pc L (.ref a :: st)) rfl (by rw [hml]; exact hsz) rfl (hb hby d) hf (W := Wt) hW hl
  exact own_by st' (kk T' ⟨_, Y', e', N, hn, hx, hby, hml, hown, hZ, hlk⟩)
/-- what a body does, called with these arguments over this heap: it returns v and leaves a heap with P v h' -/
def own_Con (l : Launch) (Z : State) (n0 : Nat) (y : MethodName) (bs : ByteArray) (maxL : Nat) (ret : Option FieldType) (rm : Room) (ws : List Jvm.Cond) (av : Array Value) (h0 : Heap) (P : Option Value → Heap → Prop) : Prop :=
  MetFree l y (head1 (Jvm.Cond.code y bs maxL ret :: ws) rm) (fun a U => a = av ∧ Z.Warmed39 U.vm ∧ U.heap = h0) (fun _ _ _ _ _ => True) (fun _ U o U' => ∃ v L, o = .returned v ∧ (Fr n0 L ∧ n0 ≤ U'.heap.size ∧ P v U'.heap) ∧ FrameEnd U o U' L rm.cells rm.slots)
def own_G (s : State) (below : List Frame) (n0 : Nat) (rm : Room) (P : Option Value → Heap → Prop) (U : State) (o : Outcome) : Prop :=
  U.status = .running ∧ Ended U below o ∧ ∃ v L, o = .returned v ∧ (Fr n0 L ∧ n0 ≤ U.heap.size ∧ P v U.heap) ∧ FrameEnd s o U L rm.cells rm.slots
theorem own_enter {l : Launch} {Z : State} {n0 : Nat} {y : MethodName} {bs : ByteArray} {maxL : Nat} {ret : Option FieldType} {rm : Room} {ws : List Jvm.Cond} {av : Array Value} {h0 : Heap} {P : Option Value → Heap → Prop} (hpl : plainFor y = true) (Z0 : n0 ≤ h0.size) (L0 : Array Slot) (ef : ∀ m, entryFrame m av maxL = mkF m 0 L0 [])
    (body : ∀ (p : Program) (e : Env) (s : State) (m : MethodId) (below : List Frame) (meth : Method) (c : Code) (T : State) (A : State → Outcome → Prop), own_St p l e rm s m av below meth c Z n0 bs maxL y.cls T h0 0 0 → meth.sig.returnType = ret → meth.name = y.name → (∀ U o, own_G s below n0 rm P U o → A U o) → own_Wins p e below A T (mkF m 0 L0 [])) :
    own_Con l Z n0 y bs maxL ret rm ws av h0 P := by
  refine MetFree.of_bodySF hpl hisR ?_
  intro p e s m args below meth c s₁ Bd hml0 hP hK
  obtain ⟨rfl, hZ, hh⟩ := hP
  have hnm := (name_of_methodNamed Bd.named Bd.method).1
  have X0 : own_St p l e rm s m _ below meth c Z n0 bs maxL y.cls s₁ h0 0 0 := ⟨[], Stand.of_body Bd, by rw [← hh, Bd.state]; rfl, Fr.nil n0, Z0, Bd.exec, Bd.bytes, hml0, findClass_of_methodNamed Bd.named, hZ, BodyLoose.notSynchronized Bd⟩
  obtain ⟨U, o, h1, h2⟩ := body p e s m below meth c s₁ (own_G s below n0 rm P) X0 Bd.returns hnm (fun _ _ g => g)
  exact ⟨U, o, castTop (ef m) h1, h2⟩
theorem own_ret0 (X : own_St p l e R s m args below meth c Z n0 bs maxL own T h cells slots) (hret : meth.sig.returnType = none) {P : Option Value → Heap → Prop} (fin : ∀ U o, own_G s below n0 R P U o → A U o) (hc : cells ≤ R.cells) (hs : slots ≤ R.slots) (hP : P none h) (d : own_ix bs pc .return_ 1 pc') : own_Wins p e below A T (mkF m pc L []) := by
  obtain ⟨locs, Y, eT, N, hn, hx, hby, hml, hown, hZ, hlk⟩ := X
  obtain ⟨fs, hr, hrun, hended, hW, hsame⟩ := Y.leave (v := none) (fun _ => rfl) hlk
  have eF : (T.setFrames fs).heap = h := eT
  exact ⟨_, _, Y.returnOut hx hret (hb hby d.1) hr, fin _ _ ⟨hrun, hended, _, _, rfl, ⟨N, by rw [eF]; exact hn, by rw [eF]; exact hP⟩, ⟨_, rfl⟩, hW, hsame.mono hc hs⟩⟩
theorem own_retJ (X : own_St p l e R s m args below meth c Z n0 bs maxL own T h cells slots) {z : Int64} (hret : meth.sig.returnType = some .long) {P : Option Value → Heap → Prop} (fin : ∀ U o, own_G s below n0 R P U o → A U o) (hc : cells ≤ R.cells) (hs : slots ≤ R.slots) (hP : P (some (.long z)) h) (d : own_ix bs pc .lreturn 1 pc') : own_Wins p e below A T (mkF m pc L (.long z :: st)) := by
  obtain ⟨locs, Y, eT, N, hn, hx, hby, hml, hown, hZ, hlk⟩ := X
  obtain ⟨fs, hr, hrun, hended, hW, hsame⟩ := Y.leave (v := (some (.long z))) (fun q => by rw [hret] at q; cases q) hlk
  have eF : (T.setFrames fs).heap = h := eT
  exact ⟨_, _, retOut Y hx hret rfl (Or.inr (Or.inl ⟨rfl, rfl, z, rfl⟩)) (hb hby d.1) hr, fin _ _ ⟨hrun, hended, _, _, rfl, ⟨N, by rw [eF]; exact hn, by rw [eF]; exact hP⟩, ⟨_, rfl⟩, hW, hsame.mono hc hs⟩⟩
theorem own_retI (X : own_St p l e R s m args below meth c Z n0 bs maxL own T h cells slots) {z : Int32} (hret : meth.sig.returnType = some .int) {P : Option Value → Heap → Prop} (fin : ∀ U o, own_G s below n0 R P U o → A U o) (hc : cells ≤ R.cells) (hs : slots ≤ R.slots) (hP : P (some (.int z)) h) (d : own_ix bs pc .ireturn 1 pc') : own_Wins p e below A T (mkF m pc L (.int z :: st)) := by
  obtain ⟨locs, Y, eT, N, hn, hx, hby, hml, hown, hZ, hlk⟩ := X
  obtain ⟨fs, hr, hrun, hended, hW, hsame⟩ := Y.leave (v := (some (.int z))) (fun q => by rw [hret] at q; cases q) hlk
  have eF : (T.setFrames fs).heap = h := eT
  exact ⟨_, _, retOut Y hx hret rfl (Or.inl ⟨rfl, Or.inl rfl, z, rfl⟩) (hb hby d.1) hr, fin _ _ ⟨hrun, hended, _, _, rfl, ⟨N, by rw [eF]; exact hn, by rw [eF]; exact hP⟩, ⟨_, rfl⟩, hW, hsame.mono hc hs⟩⟩
theorem own_retZ (X : own_St p l e R s m args below meth c Z n0 bs maxL own T h cells slots) {z : Int32} (hret : meth.sig.returnType = some .boolean) (hz : narrow .boolean (.int z) = .int z) {P : Option Value → Heap → Prop} (fin : ∀ U o, own_G s below n0 R P U o → A U o) (hc : cells ≤ R.cells) (hs : slots ≤ R.slots) (hP : P (some (.int z)) h) (d : own_ix bs pc .ireturn 1 pc') : own_Wins p e below A T (mkF m pc L (.int z :: st)) := by
  obtain ⟨locs, Y, eT, N, hn, hx, hby, hml, hown, hZ, hlk⟩ := X
  obtain ⟨fs, hr, hrun, hended, hW, hsame⟩ := Y.leave (v := (some (.int z))) (fun q => by rw [hret] at q; cases q) hlk
  have eF : (T.setFrames fs).heap = h := eT
  exact ⟨_, _, retOut Y hx hret hz (Or.inl ⟨rfl, Or.inr (Or.inl rfl), z, rfl⟩) (hb hby d.1) hr, fin _ _ ⟨hrun, hended, _, _, rfl, ⟨N, by rw [eF]; exact hn, by rw [eF]; exact hP⟩, ⟨_, rfl⟩, hW, hsame.mono hc hs⟩⟩
theorem own_retB (X : own_St p l e R s m args below meth c Z n0 bs maxL own T h cells slots) {z : Int32} (hret : meth.sig.returnType = some .byte) (hz : narrow .byte (.int z) = .int z) {P : Option Value → Heap → Prop} (fin : ∀ U o, own_G s below n0 R P U o → A U o) (hc : cells ≤ R.cells) (hs : slots ≤ R.slots) (hP : P (some (.int z)) h) (d : own_ix bs pc .ireturn 1 pc') : own_Wins p e below A T (mkF m pc L (.int z :: st)) := by
  obtain ⟨locs, Y, eT, N, hn, hx, hby, hml, hown, hZ, hlk⟩ := X
  obtain ⟨fs, hr, hrun, hended, hW, hsame⟩ := Y.leave (v := (some (.int z))) (fun q => by rw [hret] at q; cases q) hlk
  have eF : (T.setFrames fs).heap = h := eT
  exact ⟨_, _, retOut Y hx hret hz (Or.inl ⟨rfl, Or.inr (Or.inr (Or.inl rfl)), z, rfl⟩) (hb hby d.1) hr, fin _ _ ⟨hrun, hended, _, _, rfl, ⟨N, by rw [eF]; exact hn, by rw [eF]; exact hP⟩, ⟨_, rfl⟩, hW, hsame.mono hc hs⟩⟩
theorem own_retA (X : own_St p l e R s m args below meth c Z n0 bs maxL own T h cells slots) {z : Addr} {t : FieldType} (hret : meth.sig.returnType = some t) (ht : t.isReference = true) (hn' : narrow t (.ref z) = .ref z) {P : Option Value → Heap → Prop} (fin : ∀ U o, own_G s below n0 R P U o → A U o) (hc : cells ≤ R.cells) (hs : slots ≤ R.slots) (hP : P (some (.ref z)) h) (d : own_ix bs pc .areturn 1 pc') : own_Wins p e below A T (mkF m pc L (.ref z :: st)) := by
  obtain ⟨locs, Y, eT, N, hn, hx, hby, hml, hown, hZ, hlk⟩ := X
  obtain ⟨fs, hr, hrun, hended, hW, hsame⟩ := Y.leave (v := (some (.ref z))) (fun q => by rw [hret] at q; cases q) hlk
  have eF : (T.setFrames fs).heap = h := eT
  exact ⟨_, _, retOut Y hx hret hn' (Or.inr (Or.inr (Or.inr (Or.inr ⟨rfl, ht, rfl⟩)))) (hb hby d.1) hr, fin _ _ ⟨hrun, hended, _, _, rfl, ⟨N, by rw [eF]; exact hn, by rw [eF]; exact hP⟩, ⟨_, rfl⟩, hW, hsame.mono hc hs⟩⟩
theorem own_callS (X : own_St p l e R s m args below meth c Z n0 bs maxL own T h cells slots) {y : MethodName} {bs' : ByteArray} {maxL' : Nat} {ret' : Option FieldType} {rm : Room} {P : Option Value → Heap → Prop} {i : Nat} (argsL rest : List Value) {ps : List FieldType} {r : Option FieldType} (Wt : Nat) (hstk : st = argsL.reverse ++ rest) (w1 : (Jvm.Cond.methodLink own i y).before a0 Z = true) (w2 : (Jvm.Cond.static y).before a0 Z = true) (w3 : (Jvm.Cond.initialized y.cls).before a0 Z = true) (w4 : (Jvm.Cond.code y bs' maxL' ret').before a0 Z = true) (hy : y.cls ≠ "java/lang/invoke/MethodHandle" ∧ y.cls ≠ "java/lang/invoke/VarHandle")
    (C : own_Con l Z n0 y bs' maxL' ret' rm [] argsL.toArray h P) (d : own_ix bs pc (.invokestatic i) 3 pc') (hlen : parseMethodDescriptor y.desc = some ⟨ps, r⟩) (hl2 : argsL.length = ps.length) (hsz : L.size = maxL) (hW : 2 * 0 + (rest.map fun v => v.category).sum ≤ Wt) (hf : rm.frames + 1 ≤ R.frames) (hl : Wt + (maxL' + 11) + rm.locals ≤ R.locals) (hc : cells + rm.cells ≤ R.cells) (hs : slots + rm.slots ≤ R.slots)
    (kk : ∀ T' h' v, own_St p l e R s m args below meth c Z n0 bs maxL own T' h' (cells + rm.cells) (slots + rm.slots) → P v h' → own_Wins p e below A T' (mkF m pc' L (v.toList ++ rest))) : own_Wins p e below A T (mkF m pc L st) := by
  obtain ⟨locs, Y, eT, N, hn, hx, hby, hml, hown, hZ, hlk⟩ := X
  obtain ⟨d, rfl⟩ := d
  obtain ⟨v, _, ⟨T1, L1, k1, n1⟩, -, X1, ⟨Lc, hQ, l1, y1, z1⟩, st1⟩ := Jvm.LawKit.callS Y hx (y := y) hown (mvT hZ w1) (mvT hZ w2) (mvT hZ w3) (mvT hZ w4) hy (backOf (W := Wt) (bytes := bs') (maxL := maxL') (rm := rm) (Q := fun v h' L => Fr n0 L ∧ n0 ≤ h'.size ∧ P v h') C hZ w4 w3 hf hl) (g := mkF m pc L st) rfl (by rw [hml]; exact hsz) (argsL := argsL) (rest := rest) (lenOf hlen hl2) hstk hW (hb hby d) (fun _ _ => ⟨rfl, eT, hc, hs⟩)
  dsimp only [Pt.U, Pt.locs, Pt.cells, Pt.slots] at X1 l1 y1 z1 st1 hQ
  subst l1 y1 z1
  obtain ⟨N1, n1, hP⟩ := hQ
  exact own_by st1 (kk T1 _ v ⟨_, X1, rfl, Fr.app N N1, n1, hx, hby, hml, hown, hZ, hlk⟩ hP)
theorem own_callI (X : own_St p l e R s m args below meth c Z n0 bs maxL own T h cells slots) {y : MethodName} {bs' : ByteArray} {maxL' : Nat} {rm : Room} {P : Option Value → Heap → Prop} {i : Nat} (argsL rest : List Value) {ps : List FieldType} {r : Option FieldType} (Wt : Nat) {a : Addr} (hstk : st = argsL.reverse ++ .ref a :: rest) (hy1 : y.name = "<init>") (w1 : (Jvm.Cond.methodLink own i y).before a0 Z = true) (w2 : (Jvm.Cond.instanceMethod y).before a0 Z = true) (w3 : (Jvm.Cond.initialized y.cls).before a0 Z = true) (w4 : (Jvm.Cond.code y bs' maxL' none).before a0 Z = true) (hy : y.cls ≠ "java/lang/invoke/MethodHandle" ∧ y.cls ≠ "java/lang/invoke/VarHandle")
    (C : own_Con l Z n0 y bs' maxL' none rm [] (.ref a :: argsL).toArray h P) (d : own_ix bs pc (.invokespecial i) 3 pc') (hlen : parseMethodDescriptor y.desc = some ⟨ps, r⟩) (hl2 : argsL.length = ps.length) (hsz : L.size = maxL) (hW : 2 * 0 + (rest.map fun v => v.category).sum ≤ Wt) (hf : rm.frames + 1 ≤ R.frames) (hl : Wt + (maxL' + 11) + rm.locals ≤ R.locals) (hc : cells + rm.cells ≤ R.cells) (hs : slots + rm.slots ≤ R.slots)
    (kk : ∀ T' h' v, own_St p l e R s m args below meth c Z n0 bs maxL own T' h' (cells + rm.cells) (slots + rm.slots) → P v h' → own_Wins p e below A T' (mkF m pc' L (v.toList ++ rest))) : own_Wins p e below A T (mkF m pc L st) := by
  obtain ⟨locs, Y, eT, N, hn, hx, hby, hml, hown, hZ, hlk⟩ := X
  obtain ⟨d, rfl⟩ := d
  obtain ⟨v, _, ⟨T1, L1, k1, n1⟩, -, X1, ⟨Lc, hQ, l1, y1, z1⟩, st1⟩ := Y.specialBack hx (y := y) hy1 hown (mvT hZ w1) (mvT hZ w2) (mvT hZ w4) hy (backOf (W := Wt) (bytes := bs') (maxL := maxL') (rm := rm) (Q := fun v h' L => Fr n0 L ∧ n0 ≤ h'.size ∧ P v h') C hZ w4 w3 hf hl) (g := mkF m pc L st) rfl (by rw [hml]; exact hsz) (Steps.refl _) (a := a) (argsL := argsL) (rest := rest) (lenOf hlen hl2) hstk hW (hb hby d) (fun _ _ => ⟨rfl, eT, hc, hs⟩)
  dsimp only [Pt.U, Pt.locs, Pt.cells, Pt.slots] at X1 l1 y1 z1 st1 hQ
  subst l1 y1 z1
  obtain ⟨N1, n1, hP⟩ := hQ
  exact own_by (fun _ q => st1.trans q) (kk T1 _ v ⟨_, X1, rfl, Fr.app N N1, n1, hx, hby, hml, hown, hZ, hlk⟩ hP)
theorem own_callV (X : own_St p l e R s m args below meth c Z n0 bs maxL own T h cells slots) {y : MethodName} {bs' : ByteArray} {maxL' : Nat} {ret' : Option FieldType} {rm : Room} {P : Option Value → Heap → Prop} {i : Nat} (argsL rest : List Value) {ps : List FieldType} {r : Option FieldType} (Wt : Nat) {a : Addr} (hstk : st = argsL.reverse ++ .ref a :: rest) (w1 : (Jvm.Cond.methodLink own i y).before a0 Z = true) (w2 : (Jvm.Cond.declares y).before a0 Z = true) (w5 : (Jvm.Cond.selects y.cls y y).before a0 Z = true) (w6 : (Jvm.Cond.instanceMethod y).before a0 Z = true) (w3 : (Jvm.Cond.initialized y.cls).before a0 Z = true) (w4 : (Jvm.Cond.code y bs' maxL' ret').before a0 Z = true) (hy : y.cls ≠ "java/lang/invoke/MethodHandle" ∧ y.cls ≠ "java/lang/invoke/VarHandle") (E : Exa Z h a y.cls)
    (C : own_Con l Z n0 y bs' maxL' ret' rm [] (.ref a :: argsL).toArray h P) (d : own_ix bs pc (.invokevirtual i) 3 pc') (hlen : parseMethodDescriptor y.desc = some ⟨ps, r⟩) (hl2 : argsL.length = ps.length) (hsz : L.size = maxL) (hW : 2 * 0 + (rest.map fun v => v.category).sum ≤ Wt) (hf : rm.frames + 1 ≤ R.frames) (hl : Wt + (maxL' + 11) + rm.locals ≤ R.locals) (hc : cells + rm.cells ≤ R.cells) (hs : slots + rm.slots ≤ R.slots)
    (kk : ∀ T' h' v, own_St p l e R s m args below meth c Z n0 bs maxL own T' h' (cells + rm.cells) (slots + rm.slots) → P v h' → own_Wins p e below A T' (mkF m pc' L (v.toList ++ rest))) : own_Wins p e below A T (mkF m pc L st) := by
  obtain ⟨locs, Y, eT, N, hn, hx, hby, hml, hown, hZ, hlk⟩ := X
  obtain ⟨d, rfl⟩ := d
  obtain ⟨cq, kq, qa, qb, qc⟩ := isOf hZ eT E
  obtain ⟨v, _, ⟨T1, L1, k1, n1⟩, -, X1, ⟨Lc, hQ, l1, y1, z1⟩, st1⟩ := Y.virtualBack hx (y := y) (z := y) hown (mvT hZ w1) (mvT hZ w2) (notFace_of_selects (args := #[]) (mvT hZ w5)) (mvT hZ w5) (mvT hZ w6) hy (backOf (W := Wt) (bytes := bs') (maxL := maxL') (rm := rm) (Q := fun v h' L => Fr n0 L ∧ n0 ≤ h'.size ∧ P v h') C hZ w4 w3 hf hl) qa qc (g := mkF m pc L st) rfl (by rw [hml]; exact hsz) (Steps.refl _) (argsL := argsL) (rest := rest) (lenOf hlen hl2) hstk hW (hb hby d) (fun _ _ => ⟨rfl, eT, hc, hs⟩)
  dsimp only [Pt.U, Pt.locs, Pt.cells, Pt.slots] at X1 l1 y1 z1 st1 hQ
  subst l1 y1 z1
  obtain ⟨N1, n1, hP⟩ := hQ
  exact own_by (fun _ q => st1.trans q) (kk T1 _ v ⟨_, X1, rfl, Fr.app N N1, n1, hx, hby, hml, hown, hZ, hlk⟩ hP)
theorem own_callP (X : own_St p l e R s m args below meth c Z n0 bs maxL own T h cells slots) {y : MethodName} {bs' : ByteArray} {maxL' : Nat} {ret' : Option FieldType} {rm : Room} {P : Option Value → Heap → Prop} {i : Nat} (argsL rest : List Value) {ps : List FieldType} {r : Option FieldType} (Wt : Nat) {a : Addr} {kk' : Nat} (hstk : st = argsL.reverse ++ .ref a :: rest) (w1 : (Jvm.Cond.methodLink own i y).before a0 Z = true) (w2 : (Jvm.Cond.privateMethod y).before a0 Z = true) (w6 : (Jvm.Cond.instanceMethod y).before a0 Z = true) (w3 : (Jvm.Cond.initialized y.cls).before a0 Z = true) (w4 : (Jvm.Cond.code y bs' maxL' ret').before a0 Z = true) (wi : (Jvm.Cond.instantiable y.cls kk').before a0 Z = true) (hy : y.cls ≠ "java/lang/invoke/MethodHandle" ∧ y.cls ≠ "java/lang/invoke/VarHandle") (E : Exa Z h a y.cls)
    (C : own_Con l Z n0 y bs' maxL' ret' rm [] (.ref a :: argsL).toArray h P) (d : own_ix bs pc (.invokevirtual i) 3 pc') (hlen : parseMethodDescriptor y.desc = some ⟨ps, r⟩) (hl2 : argsL.length = ps.length) (hsz : L.size = maxL) (hW : 2 * 0 + (rest.map fun v => v.category).sum ≤ Wt) (hf : rm.frames + 1 ≤ R.frames) (hl : Wt + (maxL' + 11) + rm.locals ≤ R.locals) (hc : cells + rm.cells ≤ R.cells) (hs : slots + rm.slots ≤ R.slots)
    (kk : ∀ T' h' v, own_St p l e R s m args below meth c Z n0 bs maxL own T' h' (cells + rm.cells) (slots + rm.slots) → P v h' → own_Wins p e below A T' (mkF m pc' L (v.toList ++ rest))) : own_Wins p e below A T (mkF m pc L st) := by
  obtain ⟨locs, Y, eT, N, hn, hx, hby, hml, hown, hZ, hlk⟩ := X
  obtain ⟨d, rfl⟩ := d
  obtain ⟨cq, q1, q2⟩ := E.cell
  have hpr : s.PrivateAt y := Cond.privateMethod_at (mvP hZ w2 (args := #[]))
  obtain ⟨cI, kI, e1, e2, -, e3, -⟩ := Cond.instantiable_spec (mv (args := #[]) hZ wi)
  have hsel : (Jvm.Cond.selects y.cls y y).before args s = true := Jvm.Stand.selects_self_of_private e1 e2 (by cases hq : kI.isInterface <;> simp_all) hpr (mvT hZ w6) hy
  obtain ⟨v, _, ⟨T1, L1, k1, n1⟩, -, X1, ⟨Lc, hQ, l1, y1, z1⟩, st1⟩ := Y.privateBack hx (y := y) hown (mvT hZ w1) (mvT hZ w6) hsel hpr (mvT hZ w4) hy (backOf (W := Wt) (bytes := bs') (maxL := maxL') (rm := rm) (Q := fun v h' L => Fr n0 L ∧ n0 ≤ h'.size ∧ P v h') C hZ w4 w3 hf hl) (g := mkF m pc L st) rfl (by rw [hml]; exact hsz) (Steps.refl _) (a := a) (by rw [eT]; exact q1) q2 (argsL := argsL) (rest := rest) (lenOf hlen hl2) hstk hW (hb hby d) (fun _ _ => ⟨rfl, eT, hc, hs⟩)
  dsimp only [Pt.U, Pt.locs, Pt.cells, Pt.slots] at X1 l1 y1 z1 st1 hQ
  subst l1 y1 z1
  obtain ⟨N1, n1, hP⟩ := hQ
  exact own_by (fun _ q => st1.trans q) (kk T1 _ v ⟨_, X1, rfl, Fr.app N N1, n1, hx, hby, hml, hown, hZ, hlk⟩ hP)
end OwnLayer
theorem own_Lushr_bv (x : Int64) (q : Int32) (k : Nat) (hk : q.toBitVec.toNat % 64 = k) : (own_Lushr x q).toBitVec = x.toBitVec >>> k := by
  have h5 := (sm64 q k hk).2
  show x.toBitVec >>> ((q &&& 0x3f).toInt64.toBitVec % 64) = _
  rw [BitVec.ushiftRight_eq', BitVec.toNat_umod, (sm64 q k hk).1, BitVec.toNat_ofNat]
  congr 1
  show k % 2 ^ 64 % 64 = k
  omega
theorem own_Lshl_bv (x : Int64) (q : Int32) (k : Nat) (hk : q.toBitVec.toNat % 64 = k) : (own_Lshl x q).toBitVec = x.toBitVec <<< k := by
  show x.toBitVec <<< ((q &&& 0x3f).toInt64.toBitVec.smod 64) = _
  rw [BitVec.shiftLeft_eq', (sm64 q k hk).1, smod64 k (sm64 q k hk).2]
theorem own_Iushr_bv (x q : Int32) (k : Nat) (hk : q.toBitVec.toNat % 32 = k) : (own_Iushr x q).toBitVec = x.toBitVec >>> k := by
  have h1 : (q &&& 31).toBitVec.toNat = k := by
    show (q.toBitVec &&& (31 : Int32).toBitVec).toNat = _
    rw [BitVec.toNat_and, show (31 : Int32).toBitVec.toNat = 2 ^ 5 - 1 from by decide, Nat.and_two_pow_sub_one_eq_mod]; exact hk
  show x.toBitVec >>> ((q &&& 31).toBitVec % 32) = _
  rw [BitVec.ushiftRight_eq', BitVec.toNat_umod, h1]
  congr 1
  show k % 32 = k
  omega

theorem own_idx_iff {j : Int32} {k : Nat} : own_idx j k ↔ j.toInt = (k : Int) := by
  have h0 : (0 : Int32).toInt = 0 := by decide
  have h1 : j.toNatClampNeg = j.toInt.toNat := rfl
  rw [own_idx, Int32.lt_iff_toInt_lt, h0, h1]
  omega
theorem own_idx_nat {k : Nat} (h : k < 2147483648) : own_idx (Int32.ofNat k) k := own_idx_iff.mpr (Int32.toInt_ofNat_of_lt h)
theorem own_idx_add {a b : Int32} {m n : Nat} (ha : own_idx a m) (hb : own_idx b n) (h : m + n < 2147483648) : own_idx (a + b) (m + n) := by
  rw [own_idx_iff] at *
  have h1 := c_iadd a b
  have h2 := rng32 (a + b)
  omega
theorem own_idx_sub {a b : Int32} {m n : Nat} (ha : own_idx a m) (hb : own_idx b n) (h : n ≤ m) : own_idx (a - b) (m - n) := by
  rw [own_idx_iff] at *
  have h1 := c_isub a b
  have h2 := rng32 (a - b)
  have h3 := rng32 a
  omega
theorem own_idx_lt {a b : Int32} {m n : Nat} (ha : own_idx a m) (hb : own_idx b n) : a < b ↔ m < n := by
  rw [own_idx_iff] at *
  rw [Int32.lt_iff_toInt_lt]
  omega
theorem own_idx_eq {a b : Int32} {m n : Nat} (ha : own_idx a m) (hb : own_idx b n) : a = b ↔ m = n := by
  rw [own_idx_iff] at *
  rw [← Int32.toInt_inj]
  omega
theorem own_idx_range {a : Int32} {m : Nat} (ha : own_idx a m) : m < 2147483648 := by
  rw [own_idx_iff] at ha
  have := rng32 a
  omega
theorem own_idx_val {a : Int32} {m : Nat} (ha : own_idx a m) : a = Int32.ofNat m := (own_idx_eq ha (own_idx_nat (own_idx_range ha))).mpr rfl
theorem own_succ (i : Nat) : Int32.ofNat i + 1 = Int32.ofNat (i + 1) := by
  rw [Int32.ofNat_add]; rfl
theorem own_mod_idx (z : Int32) (d : Int32) (n : Nat) (hd : own_idx d n) (hn : 0 < n) : ∃ k, k < n ∧ own_idx ((z &&& 2147483647) % d) k := by
  have h1 := c_mask z 2147483647 31 (by decide) (by decide)
  have hd' := own_idx_iff.mp hd
  have h2 := (c_irem (z &&& 2147483647) d n hd').1 (by rw [h1]; omega)
  refine ⟨((z &&& 2147483647).toInt % (n : Int)).toNat, ?_, ?_⟩
  · have := Int.emod_lt_of_pos (z &&& 2147483647).toInt (show (0 : Int) < n by omega)
    have := Int.emod_nonneg (z &&& 2147483647).toInt (show (n : Int) ≠ 0 by omega)
    omega
  · rw [own_idx_iff, h2]
    have := Int.emod_nonneg (z &&& 2147483647).toInt (show (n : Int) ≠ 0 by omega)
    omega

def own_mx (x y : Int32) : Int32 := if x < y then y else x
/-- how many of the first i events stand at place j - 1; how many stand before j -/
def own_cn (kv : Nat → Nat) : Nat → Nat → Nat
  | 0, _ => 0
  | i + 1, j => own_cn kv i j + (if j = kv i + 1 then 1 else 0)
def own_lw (kv : Nat → Nat) : Nat → Nat → Nat
  | 0, _ => 0
  | i + 1, j => own_lw kv i j + (if kv i < j then 1 else 0)
def own_ps (kv : Nat → Nat) (n : Nat) : Nat → Nat → Nat
  | 0, j => own_cn kv n j
  | a + 1, j => if j = a + 1 then own_ps kv n a (a + 1) + own_ps kv n a a else own_ps kv n a j
theorem own_lw_0 (kv : Nat → Nat) (n : Nat) : own_lw kv n 0 = 0 := by
  induction n with
  | zero => rfl
  | succ n ih => rw [own_lw, ih, if_neg (by omega)]
theorem own_cn_0 (kv : Nat → Nat) (n : Nat) : own_cn kv n 0 = 0 := by
  induction n with
  | zero => rfl
  | succ n ih => rw [own_cn, ih, if_neg (by omega)]
theorem own_lw_succ (kv : Nat → Nat) (n a : Nat) : own_lw kv n (a + 1) = own_lw kv n a + own_cn kv n (a + 1) := by
  induction n with
  | zero => rfl
  | succ n ih =>
    rw [own_lw, own_lw, own_cn, ih]
    by_cases h1 : kv n < a
    · rw [if_pos (by omega), if_pos h1, if_neg (by omega)]; omega
    · by_cases h2 : kv n = a
      · rw [if_pos (by omega), if_neg h1, if_pos (by omega)]; omega
      · rw [if_neg (by omega), if_neg h1, if_neg (by omega)]; omega
theorem own_ps_eq (kv : Nat → Nat) (n : Nat) : ∀ a j, own_ps kv n a j = if j ≤ a then own_lw kv n j else own_cn kv n j := by
  intro a
  induction a with
  | zero =>
    intro j
    rw [own_ps]
    by_cases h : j ≤ 0
    · rw [if_pos h, show j = 0 by omega, own_cn_0, own_lw_0]
    · rw [if_neg h]
  | succ a ih =>
    intro j
    rw [own_ps, ih, ih, ih]
    by_cases h : j = a + 1
    · subst h
      rw [if_pos rfl, if_neg (by omega), if_pos (by omega), if_pos (by omega), own_lw_succ]; omega
    · rw [if_neg h]
      by_cases h2 : j ≤ a
      · rw [if_pos h2, if_pos (by omega)]
      · rw [if_neg h2, if_neg (by omega)]
theorem own_lw_le (kv : Nat → Nat) (n j : Nat) : own_lw kv n j ≤ n := by
  induction n with
  | zero => exact Nat.le_refl _
  | succ n ih => rw [own_lw]; split <;> omega
theorem own_cn_le (kv : Nat → Nat) (n j : Nat) : own_cn kv n j ≤ n := by
  induction n with
  | zero => exact Nat.le_refl _
  | succ n ih => rw [own_cn]; split <;> omega
theorem own_up_cn (kv : Nat → Nat) (i : Nat) : own_up (fun j => .int (Int32.ofNat (own_cn kv i j))) (kv i + 1) (.int (Int32.ofNat (own_cn kv i (kv i + 1) + 1))) = (fun j => .int (Int32.ofNat (own_cn kv (i + 1) j))) := by
  funext j
  simp only [own_up, own_cn]
  by_cases h : j = kv i + 1
  · simp [h]
  · simp [h]
theorem own_up_ps (kv : Nat → Nat) (n a : Nat) : own_up (fun j => .int (Int32.ofNat (own_ps kv n a j))) (a + 1) (.int (Int32.ofNat (own_ps kv n a (a + 1) + own_ps kv n a a))) = (fun j => .int (Int32.ofNat (own_ps kv n (a + 1) j))) := by
  funext j
  simp only [own_up, own_ps]
  by_cases h : j = a + 1
  · simp [h]
  · simp [h]
theorem own_mask7 (z : Int32) : ∃ k, k < 5 ∧ own_idx ((z &&& 7) % 5) k := by
  have h1 := c_mask z 7 3 (by decide) (by decide)
  have h2 := (c_irem (z &&& 7) 5 5 (by decide)).1 (by omega)
  exact ⟨((z &&& 7) % 5).toInt.toNat, by omega, own_idx_iff.mpr (by omega)⟩

theorem own_ev (x0 x1 x2 x3 : Int32) (n j : Nat) (hn : n < 5) (hj : j < n) : ((([x0, x1, x2, x3] : List Int32).take n).map Value.int).getD j (.int 0) = .int (([x0, x1, x2, x3] : List Int32).getD j 0) := by
  match n, hn, j, hj with
  | 1, _, 0, _ => rfl
  | 2, _, 0, _ => rfl
  | 2, _, 1, _ => rfl
  | 3, _, 0, _ => rfl
  | 3, _, 1, _ => rfl
  | 3, _, 2, _ => rfl
  | 4, _, 0, _ => rfl
  | 4, _, 1, _ => rfl
  | 4, _, 2, _ => rfl
  | 4, _, 3, _ => rfl

theorem own_st6 {z0 z1 z2 z3 z4 z5 : Slot} {s6 : Slot} {v : Int32} (h : One s6) : storeLocals #[z0, z1, z2, z3, z4, z5, s6] 6 (.int v) = some #[z0, z1, z2, z3, z4, z5, .val (.int v)] := by
  rcases h with rfl | ⟨w, rfl, hw⟩
  · rfl
  · cases w <;> first | rfl | (simp [Value.category] at hw)
theorem own_d_jdk_29_method_65_code_0 : own_il jdk_29_method_65_code 0 0 1 := Or.inl ⟨0, by decide +kernel, rfl, rfl⟩
theorem own_d_jdk_29_method_65_code_1 : own_il jdk_29_method_65_code 1 1 2 := Or.inl ⟨1, by decide +kernel, rfl, rfl⟩
theorem own_d_jdk_29_method_65_code_2 : own_icm jdk_29_method_65_code 2 .lt 5 9 := ⟨7, by decide +kernel, rfl, by decide, by decide⟩
theorem own_d_jdk_29_method_65_code_9 : own_il jdk_29_method_65_code 9 1 10 := Or.inl ⟨1, by decide +kernel, rfl, rfl⟩
theorem own_d_jdk_29_method_65_code_10 : own_ix jdk_29_method_65_code 10 .ireturn 1 11 := ⟨by decide +kernel, rfl⟩
theorem own_d_jdk_29_method_65_code_5 : own_il jdk_29_method_65_code 5 0 6 := Or.inl ⟨0, by decide +kernel, rfl, rfl⟩
theorem own_d_jdk_29_method_65_code_6 : own_gt jdk_29_method_65_code 6 10 := ⟨4, by decide +kernel, by decide, by decide⟩
theorem own_d_method_3_code_0 : own_il method_3_code 0 0 1 := Or.inl ⟨0, by decide +kernel, rfl, rfl⟩
theorem own_d_method_3_code_1 : own_ifc method_3_code 1 .ne 4 8 := ⟨7, by decide +kernel, rfl, by decide, by decide⟩
theorem own_d_method_3_code_4 : own_ik method_3_code 4 0 5 := ⟨0, Or.inl ⟨by decide +kernel, by decide, rfl⟩⟩
theorem own_d_method_3_code_5 : own_ix method_3_code 5 (.newarray .int) 2 7 := ⟨by decide +kernel, rfl⟩
theorem own_d_method_3_code_7 : own_ix method_3_code 7 .areturn 1 8 := ⟨by decide +kernel, rfl⟩
theorem own_d_method_3_code_8 : own_il method_3_code 8 0 9 := Or.inl ⟨0, by decide +kernel, rfl, rfl⟩
theorem own_d_method_3_code_9 : own_ik method_3_code 9 1 10 := ⟨1, Or.inl ⟨by decide +kernel, by decide, rfl⟩⟩
theorem own_d_method_3_code_10 : own_icm method_3_code 10 .ne 13 21 := ⟨11, by decide +kernel, rfl, by decide, by decide⟩
theorem own_d_method_3_code_13 : own_ik method_3_code 13 1 14 := ⟨1, Or.inl ⟨by decide +kernel, by decide, rfl⟩⟩
theorem own_d_method_3_code_14 : own_ix method_3_code 14 (.newarray .int) 2 16 := ⟨by decide +kernel, rfl⟩
theorem own_d_method_3_code_16 : own_ix method_3_code 16 .dup 1 17 := ⟨by decide +kernel, rfl⟩
theorem own_d_method_3_code_17 : own_ik method_3_code 17 0 18 := ⟨0, Or.inl ⟨by decide +kernel, by decide, rfl⟩⟩
theorem own_d_method_3_code_18 : own_il method_3_code 18 1 19 := Or.inl ⟨1, by decide +kernel, rfl, rfl⟩
theorem own_d_method_3_code_19 : own_ix method_3_code 19 .iastore 1 20 := ⟨by decide +kernel, rfl⟩
theorem own_d_method_3_code_20 : own_ix method_3_code 20 .areturn 1 21 := ⟨by decide +kernel, rfl⟩
theorem own_d_method_3_code_21 : own_il method_3_code 21 0 22 := Or.inl ⟨0, by decide +kernel, rfl, rfl⟩
theorem own_d_method_3_code_22 : own_ik method_3_code 22 2 23 := ⟨2, Or.inl ⟨by decide +kernel, by decide, rfl⟩⟩
theorem own_d_method_3_code_23 : own_icm method_3_code 23 .ne 26 38 := ⟨15, by decide +kernel, rfl, by decide, by decide⟩
theorem own_d_method_3_code_26 : own_ik method_3_code 26 2 27 := ⟨2, Or.inl ⟨by decide +kernel, by decide, rfl⟩⟩
theorem own_d_method_3_code_27 : own_ix method_3_code 27 (.newarray .int) 2 29 := ⟨by decide +kernel, rfl⟩
theorem own_d_method_3_code_29 : own_ix method_3_code 29 .dup 1 30 := ⟨by decide +kernel, rfl⟩
theorem own_d_method_3_code_30 : own_ik method_3_code 30 0 31 := ⟨0, Or.inl ⟨by decide +kernel, by decide, rfl⟩⟩
theorem own_d_method_3_code_31 : own_il method_3_code 31 1 32 := Or.inl ⟨1, by decide +kernel, rfl, rfl⟩
theorem own_d_method_3_code_32 : own_ix method_3_code 32 .iastore 1 33 := ⟨by decide +kernel, rfl⟩
theorem own_d_method_3_code_33 : own_ix method_3_code 33 .dup 1 34 := ⟨by decide +kernel, rfl⟩
theorem own_d_method_3_code_34 : own_ik method_3_code 34 1 35 := ⟨1, Or.inl ⟨by decide +kernel, by decide, rfl⟩⟩
theorem own_d_method_3_code_35 : own_il method_3_code 35 2 36 := Or.inl ⟨2, by decide +kernel, rfl, rfl⟩
theorem own_d_method_3_code_36 : own_ix method_3_code 36 .iastore 1 37 := ⟨by decide +kernel, rfl⟩
theorem own_d_method_3_code_37 : own_ix method_3_code 37 .areturn 1 38 := ⟨by decide +kernel, rfl⟩
theorem own_d_method_3_code_38 : own_il method_3_code 38 0 39 := Or.inl ⟨0, by decide +kernel, rfl, rfl⟩
theorem own_d_method_3_code_39 : own_ik method_3_code 39 3 40 := ⟨3, Or.inl ⟨by decide +kernel, by decide, rfl⟩⟩
theorem own_d_method_3_code_40 : own_icm method_3_code 40 .ne 43 59 := ⟨19, by decide +kernel, rfl, by decide, by decide⟩
theorem own_d_method_3_code_43 : own_ik method_3_code 43 3 44 := ⟨3, Or.inl ⟨by decide +kernel, by decide, rfl⟩⟩
theorem own_d_method_3_code_44 : own_ix method_3_code 44 (.newarray .int) 2 46 := ⟨by decide +kernel, rfl⟩
theorem own_d_method_3_code_46 : own_ix method_3_code 46 .dup 1 47 := ⟨by decide +kernel, rfl⟩
theorem own_d_method_3_code_47 : own_ik method_3_code 47 0 48 := ⟨0, Or.inl ⟨by decide +kernel, by decide, rfl⟩⟩
theorem own_d_method_3_code_48 : own_il method_3_code 48 1 49 := Or.inl ⟨1, by decide +kernel, rfl, rfl⟩
theorem own_d_method_3_code_49 : own_ix method_3_code 49 .iastore 1 50 := ⟨by decide +kernel, rfl⟩
theorem own_d_method_3_code_50 : own_ix method_3_code 50 .dup 1 51 := ⟨by decide +kernel, rfl⟩
theorem own_d_method_3_code_51 : own_ik method_3_code 51 1 52 := ⟨1, Or.inl ⟨by decide +kernel, by decide, rfl⟩⟩
theorem own_d_method_3_code_52 : own_il method_3_code 52 2 53 := Or.inl ⟨2, by decide +kernel, rfl, rfl⟩
theorem own_d_method_3_code_53 : own_ix method_3_code 53 .iastore 1 54 := ⟨by decide +kernel, rfl⟩
theorem own_d_method_3_code_54 : own_ix method_3_code 54 .dup 1 55 := ⟨by decide +kernel, rfl⟩
theorem own_d_method_3_code_55 : own_ik method_3_code 55 2 56 := ⟨2, Or.inl ⟨by decide +kernel, by decide, rfl⟩⟩
theorem own_d_method_3_code_56 : own_il method_3_code 56 3 57 := Or.inl ⟨3, by decide +kernel, rfl, rfl⟩
theorem own_d_method_3_code_57 : own_ix method_3_code 57 .iastore 1 58 := ⟨by decide +kernel, rfl⟩
theorem own_d_method_3_code_58 : own_ix method_3_code 58 .areturn 1 59 := ⟨by decide +kernel, rfl⟩
theorem own_d_method_3_code_59 : own_ik method_3_code 59 4 60 := ⟨4, Or.inl ⟨by decide +kernel, by decide, rfl⟩⟩
theorem own_d_method_3_code_60 : own_ix method_3_code 60 (.newarray .int) 2 62 := ⟨by decide +kernel, rfl⟩
theorem own_d_method_3_code_62 : own_ix method_3_code 62 .dup 1 63 := ⟨by decide +kernel, rfl⟩
theorem own_d_method_3_code_63 : own_ik method_3_code 63 0 64 := ⟨0, Or.inl ⟨by decide +kernel, by decide, rfl⟩⟩
theorem own_d_method_3_code_64 : own_il method_3_code 64 1 65 := Or.inl ⟨1, by decide +kernel, rfl, rfl⟩
theorem own_d_method_3_code_65 : own_ix method_3_code 65 .iastore 1 66 := ⟨by decide +kernel, rfl⟩
theorem own_d_method_3_code_66 : own_ix method_3_code 66 .dup 1 67 := ⟨by decide +kernel, rfl⟩
theorem own_d_method_3_code_67 : own_ik method_3_code 67 1 68 := ⟨1, Or.inl ⟨by decide +kernel, by decide, rfl⟩⟩
theorem own_d_method_3_code_68 : own_il method_3_code 68 2 69 := Or.inl ⟨2, by decide +kernel, rfl, rfl⟩
theorem own_d_method_3_code_69 : own_ix method_3_code 69 .iastore 1 70 := ⟨by decide +kernel, rfl⟩
theorem own_d_method_3_code_70 : own_ix method_3_code 70 .dup 1 71 := ⟨by decide +kernel, rfl⟩
theorem own_d_method_3_code_71 : own_ik method_3_code 71 2 72 := ⟨2, Or.inl ⟨by decide +kernel, by decide, rfl⟩⟩
theorem own_d_method_3_code_72 : own_il method_3_code 72 3 73 := Or.inl ⟨3, by decide +kernel, rfl, rfl⟩
theorem own_d_method_3_code_73 : own_ix method_3_code 73 .iastore 1 74 := ⟨by decide +kernel, rfl⟩
theorem own_d_method_3_code_74 : own_ix method_3_code 74 .dup 1 75 := ⟨by decide +kernel, rfl⟩
theorem own_d_method_3_code_75 : own_ik method_3_code 75 3 76 := ⟨3, Or.inl ⟨by decide +kernel, by decide, rfl⟩⟩
theorem own_d_method_3_code_76 : own_il method_3_code 76 4 78 := Or.inr ⟨by decide +kernel, rfl⟩
theorem own_d_method_3_code_78 : own_ix method_3_code 78 .iastore 1 79 := ⟨by decide +kernel, rfl⟩
theorem own_d_method_3_code_79 : own_ix method_3_code 79 .areturn 1 80 := ⟨by decide +kernel, rfl⟩
theorem own_pn_com_example_tideline_tideline_ArrivalOrderStartsPinLaw : plainName "com/example/tideline/tideline/ArrivalOrderStartsPinLaw" = true := by first | (simp [plainName, overriddenIn]; done) | decide +kernel
theorem own_d_prog_1_method_2_code_0 : own_il prog_1_method_2_code 0 1 1 := Or.inl ⟨1, by decide +kernel, rfl, rfl⟩
theorem own_d_prog_1_method_2_code_1 : own_ik prog_1_method_2_code 1 1 2 := ⟨1, Or.inl ⟨by decide +kernel, by decide, rfl⟩⟩
theorem own_d_prog_1_method_2_code_2 : own_ix prog_1_method_2_code 2 .iadd 1 3 := ⟨by decide +kernel, rfl⟩
theorem own_d_prog_1_method_2_code_3 : own_ix prog_1_method_2_code 3 (.newarray .int) 2 5 := ⟨by decide +kernel, rfl⟩
theorem own_d_prog_1_method_2_code_5 : own_sa prog_1_method_2_code 5 2 6 := Or.inl ⟨2, by decide +kernel, rfl, rfl⟩
theorem own_d_prog_1_method_2_code_6 : own_al prog_1_method_2_code 6 0 7 := Or.inl ⟨0, by decide +kernel, rfl, rfl⟩
theorem own_d_prog_1_method_2_code_7 : own_sa prog_1_method_2_code 7 3 8 := Or.inl ⟨3, by decide +kernel, rfl, rfl⟩
theorem own_d_prog_1_method_2_code_8 : own_al prog_1_method_2_code 8 3 9 := Or.inl ⟨3, by decide +kernel, rfl, rfl⟩
theorem own_d_prog_1_method_2_code_9 : own_ix prog_1_method_2_code 9 .arraylength 1 10 := ⟨by decide +kernel, rfl⟩
theorem own_d_prog_1_method_2_code_10 : own_si prog_1_method_2_code 10 4 12 := Or.inr ⟨by decide +kernel, rfl⟩
theorem own_d_prog_1_method_2_code_12 : own_ik prog_1_method_2_code 12 0 13 := ⟨0, Or.inl ⟨by decide +kernel, by decide, rfl⟩⟩
theorem own_d_prog_1_method_2_code_13 : own_si prog_1_method_2_code 13 5 15 := Or.inr ⟨by decide +kernel, rfl⟩
theorem own_d_prog_1_method_2_code_15 : own_il prog_1_method_2_code 15 5 17 := Or.inr ⟨by decide +kernel, rfl⟩
theorem own_d_prog_1_method_2_code_17 : own_il prog_1_method_2_code 17 4 19 := Or.inr ⟨by decide +kernel, rfl⟩
theorem own_d_prog_1_method_2_code_19 : own_icm prog_1_method_2_code 19 .ge 22 44 := ⟨25, by decide +kernel, rfl, by decide, by decide⟩
theorem own_d_prog_1_method_2_code_44 : own_ik prog_1_method_2_code 44 0 45 := ⟨0, Or.inl ⟨by decide +kernel, by decide, rfl⟩⟩
theorem own_d_prog_1_method_2_code_45 : own_si prog_1_method_2_code 45 3 46 := Or.inl ⟨3, by decide +kernel, rfl, rfl⟩
theorem own_d_prog_1_method_2_code_46 : own_il prog_1_method_2_code 46 3 47 := Or.inl ⟨3, by decide +kernel, rfl, rfl⟩
theorem own_d_prog_1_method_2_code_47 : own_il prog_1_method_2_code 47 1 48 := Or.inl ⟨1, by decide +kernel, rfl, rfl⟩
theorem own_d_prog_1_method_2_code_48 : own_icm prog_1_method_2_code 48 .ge 51 68 := ⟨20, by decide +kernel, rfl, by decide, by decide⟩
theorem own_d_prog_1_method_2_code_68 : own_al prog_1_method_2_code 68 2 69 := Or.inl ⟨2, by decide +kernel, rfl, rfl⟩
theorem own_d_prog_1_method_2_code_69 : own_ix prog_1_method_2_code 69 .areturn 1 70 := ⟨by decide +kernel, rfl⟩
theorem own_d_prog_1_method_2_code_51 : own_al prog_1_method_2_code 51 2 52 := Or.inl ⟨2, by decide +kernel, rfl, rfl⟩
theorem own_d_prog_1_method_2_code_52 : own_il prog_1_method_2_code 52 3 53 := Or.inl ⟨3, by decide +kernel, rfl, rfl⟩
theorem own_d_prog_1_method_2_code_53 : own_ik prog_1_method_2_code 53 1 54 := ⟨1, Or.inl ⟨by decide +kernel, by decide, rfl⟩⟩
theorem own_d_prog_1_method_2_code_54 : own_ix prog_1_method_2_code 54 .iadd 1 55 := ⟨by decide +kernel, rfl⟩
theorem own_d_prog_1_method_2_code_55 : own_ix prog_1_method_2_code 55 .dup2 1 56 := ⟨by decide +kernel, rfl⟩
theorem own_d_prog_1_method_2_code_56 : own_ix prog_1_method_2_code 56 .iaload 1 57 := ⟨by decide +kernel, rfl⟩
theorem own_d_prog_1_method_2_code_57 : own_al prog_1_method_2_code 57 2 58 := Or.inl ⟨2, by decide +kernel, rfl, rfl⟩
theorem own_d_prog_1_method_2_code_58 : own_il prog_1_method_2_code 58 3 59 := Or.inl ⟨3, by decide +kernel, rfl, rfl⟩
theorem own_d_prog_1_method_2_code_59 : own_ix prog_1_method_2_code 59 .iaload 1 60 := ⟨by decide +kernel, rfl⟩
theorem own_d_prog_1_method_2_code_60 : own_ix prog_1_method_2_code 60 .iadd 1 61 := ⟨by decide +kernel, rfl⟩
theorem own_d_prog_1_method_2_code_61 : own_ix prog_1_method_2_code 61 .iastore 1 62 := ⟨by decide +kernel, rfl⟩
theorem own_d_prog_1_method_2_code_62 : own_ii prog_1_method_2_code 62 3 1 65 := ⟨1, by decide +kernel, by decide, rfl⟩
theorem own_d_prog_1_method_2_code_65 : own_gt prog_1_method_2_code 65 46 := ⟨(-19), by decide +kernel, by decide, by decide⟩
theorem own_d_prog_1_method_2_code_22 : own_al prog_1_method_2_code 22 3 23 := Or.inl ⟨3, by decide +kernel, rfl, rfl⟩
theorem own_d_prog_1_method_2_code_23 : own_il prog_1_method_2_code 23 5 25 := Or.inr ⟨by decide +kernel, rfl⟩
theorem own_d_prog_1_method_2_code_25 : own_ix prog_1_method_2_code 25 .iaload 1 26 := ⟨by decide +kernel, rfl⟩
theorem own_d_prog_1_method_2_code_26 : own_si prog_1_method_2_code 26 6 28 := Or.inr ⟨by decide +kernel, rfl⟩
theorem own_d_prog_1_method_2_code_28 : own_al prog_1_method_2_code 28 2 29 := Or.inl ⟨2, by decide +kernel, rfl, rfl⟩
theorem own_d_prog_1_method_2_code_29 : own_il prog_1_method_2_code 29 6 31 := Or.inr ⟨by decide +kernel, rfl⟩
theorem own_d_prog_1_method_2_code_31 : own_ik prog_1_method_2_code 31 1 32 := ⟨1, Or.inl ⟨by decide +kernel, by decide, rfl⟩⟩
theorem own_d_prog_1_method_2_code_32 : own_ix prog_1_method_2_code 32 .iadd 1 33 := ⟨by decide +kernel, rfl⟩
theorem own_d_prog_1_method_2_code_33 : own_ix prog_1_method_2_code 33 .dup2 1 34 := ⟨by decide +kernel, rfl⟩
theorem own_d_prog_1_method_2_code_34 : own_ix prog_1_method_2_code 34 .iaload 1 35 := ⟨by decide +kernel, rfl⟩
theorem own_d_prog_1_method_2_code_35 : own_ik prog_1_method_2_code 35 1 36 := ⟨1, Or.inl ⟨by decide +kernel, by decide, rfl⟩⟩
theorem own_d_prog_1_method_2_code_36 : own_ix prog_1_method_2_code 36 .iadd 1 37 := ⟨by decide +kernel, rfl⟩
theorem own_d_prog_1_method_2_code_37 : own_ix prog_1_method_2_code 37 .iastore 1 38 := ⟨by decide +kernel, rfl⟩
theorem own_d_prog_1_method_2_code_38 : own_ii prog_1_method_2_code 38 5 1 41 := ⟨1, by decide +kernel, by decide, rfl⟩
theorem own_d_prog_1_method_2_code_41 : own_gt prog_1_method_2_code 41 15 := ⟨(-26), by decide +kernel, by decide, by decide⟩
theorem own_pn_com_example_tideline_tideline_ArrivalOrder : plainName "com/example/tideline/tideline/ArrivalOrder" = true := by first | (simp [plainName, overriddenIn]; done) | decide +kernel
theorem own_d_method_5_code_0 : own_ik method_5_code 0 0 1 := ⟨0, Or.inl ⟨by decide +kernel, by decide, rfl⟩⟩
theorem own_d_method_5_code_1 : own_si method_5_code 1 6 3 := Or.inr ⟨by decide +kernel, rfl⟩
theorem own_d_method_5_code_3 : own_il method_5_code 3 1 4 := Or.inl ⟨1, by decide +kernel, rfl, rfl⟩
theorem own_d_method_5_code_4 : own_ifc method_5_code 4 .le 7 15 := ⟨11, by decide +kernel, rfl, by decide, by decide⟩
theorem own_d_method_5_code_7 : own_il method_5_code 7 2 8 := Or.inl ⟨2, by decide +kernel, rfl, rfl⟩
theorem own_d_method_5_code_8 : own_il method_5_code 8 0 9 := Or.inl ⟨0, by decide +kernel, rfl, rfl⟩
theorem own_d_method_5_code_9 : own_icm method_5_code 9 .ge 12 15 := ⟨6, by decide +kernel, rfl, by decide, by decide⟩
theorem own_d_method_5_code_12 : own_ii method_5_code 12 6 1 15 := ⟨1, by decide +kernel, by decide, rfl⟩
theorem own_d_method_5_code_15 : own_il method_5_code 15 1 16 := Or.inl ⟨1, by decide +kernel, rfl, rfl⟩
theorem own_d_method_5_code_16 : own_ik method_5_code 16 1 17 := ⟨1, Or.inl ⟨by decide +kernel, by decide, rfl⟩⟩
theorem own_d_method_5_code_17 : own_icm method_5_code 17 .le 20 28 := ⟨11, by decide +kernel, rfl, by decide, by decide⟩
theorem own_d_method_5_code_20 : own_il method_5_code 20 3 21 := Or.inl ⟨3, by decide +kernel, rfl, rfl⟩
theorem own_d_method_5_code_21 : own_il method_5_code 21 0 22 := Or.inl ⟨0, by decide +kernel, rfl, rfl⟩
theorem own_d_method_5_code_22 : own_icm method_5_code 22 .ge 25 28 := ⟨6, by decide +kernel, rfl, by decide, by decide⟩
theorem own_d_method_5_code_25 : own_ii method_5_code 25 6 1 28 := ⟨1, by decide +kernel, by decide, rfl⟩
theorem own_d_method_5_code_28 : own_il method_5_code 28 1 29 := Or.inl ⟨1, by decide +kernel, rfl, rfl⟩
theorem own_d_method_5_code_29 : own_ik method_5_code 29 2 30 := ⟨2, Or.inl ⟨by decide +kernel, by decide, rfl⟩⟩
theorem own_d_method_5_code_30 : own_icm method_5_code 30 .le 33 42 := ⟨12, by decide +kernel, rfl, by decide, by decide⟩
theorem own_d_method_5_code_33 : own_il method_5_code 33 4 35 := Or.inr ⟨by decide +kernel, rfl⟩
theorem own_d_method_5_code_35 : own_il method_5_code 35 0 36 := Or.inl ⟨0, by decide +kernel, rfl, rfl⟩
theorem own_d_method_5_code_36 : own_icm method_5_code 36 .ge 39 42 := ⟨6, by decide +kernel, rfl, by decide, by decide⟩
theorem own_d_method_5_code_39 : own_ii method_5_code 39 6 1 42 := ⟨1, by decide +kernel, by decide, rfl⟩
theorem own_d_method_5_code_42 : own_il method_5_code 42 1 43 := Or.inl ⟨1, by decide +kernel, rfl, rfl⟩
theorem own_d_method_5_code_43 : own_ik method_5_code 43 3 44 := ⟨3, Or.inl ⟨by decide +kernel, by decide, rfl⟩⟩
theorem own_d_method_5_code_44 : own_icm method_5_code 44 .le 47 56 := ⟨12, by decide +kernel, rfl, by decide, by decide⟩
theorem own_d_method_5_code_47 : own_il method_5_code 47 5 49 := Or.inr ⟨by decide +kernel, rfl⟩
theorem own_d_method_5_code_49 : own_il method_5_code 49 0 50 := Or.inl ⟨0, by decide +kernel, rfl, rfl⟩
theorem own_d_method_5_code_50 : own_icm method_5_code 50 .ge 53 56 := ⟨6, by decide +kernel, rfl, by decide, by decide⟩
theorem own_d_method_5_code_53 : own_ii method_5_code 53 6 1 56 := ⟨1, by decide +kernel, by decide, rfl⟩
theorem own_d_method_5_code_56 : own_il method_5_code 56 6 58 := Or.inr ⟨by decide +kernel, rfl⟩
theorem own_d_method_5_code_58 : own_ix method_5_code 58 .ireturn 1 59 := ⟨by decide +kernel, rfl⟩
theorem own_d_method_4_code_0 : own_il method_4_code 0 1 1 := Or.inl ⟨1, by decide +kernel, rfl, rfl⟩
theorem own_d_method_4_code_1 : own_al method_4_code 1 0 2 := Or.inl ⟨0, by decide +kernel, rfl, rfl⟩
theorem own_d_method_4_code_2 : own_ix method_4_code 2 .arraylength 1 3 := ⟨by decide +kernel, rfl⟩
theorem own_d_method_4_code_3 : own_icm method_4_code 3 .lt 6 8 := ⟨5, by decide +kernel, rfl, by decide, by decide⟩
theorem own_d_method_4_code_8 : own_al method_4_code 8 0 9 := Or.inl ⟨0, by decide +kernel, rfl, rfl⟩
theorem own_d_method_4_code_9 : own_il method_4_code 9 1 10 := Or.inl ⟨1, by decide +kernel, rfl, rfl⟩
theorem own_d_method_4_code_10 : own_ix method_4_code 10 .iaload 1 11 := ⟨by decide +kernel, rfl⟩
theorem own_d_method_4_code_11 : own_il method_4_code 11 1 12 := Or.inl ⟨1, by decide +kernel, rfl, rfl⟩
theorem own_d_method_4_code_12 : own_il method_4_code 12 2 13 := Or.inl ⟨2, by decide +kernel, rfl, rfl⟩
theorem own_d_method_4_code_13 : own_il method_4_code 13 3 14 := Or.inl ⟨3, by decide +kernel, rfl, rfl⟩
theorem own_d_method_4_code_14 : own_il method_4_code 14 4 16 := Or.inr ⟨by decide +kernel, rfl⟩
theorem own_d_method_4_code_16 : own_il method_4_code 16 5 18 := Or.inr ⟨by decide +kernel, rfl⟩
theorem own_d_method_4_code_18 : own_il method_4_code 18 6 20 := Or.inr ⟨by decide +kernel, rfl⟩
theorem own_pd__IIIIII_I : parseMethodDescriptor "(IIIIII)I" = some ⟨[.int, .int, .int, .int, .int, .int], some .int⟩ := by decide +kernel
theorem own_d_method_4_code_20 : own_ix method_4_code 20 (.invokestatic 30) 3 23 := ⟨by decide +kernel, rfl⟩
theorem own_d_method_4_code_23 : own_icm method_4_code 23 .ne 26 30 := ⟨7, by decide +kernel, rfl, by decide, by decide⟩
theorem own_d_method_4_code_26 : own_ik method_4_code 26 1 27 := ⟨1, Or.inl ⟨by decide +kernel, by decide, rfl⟩⟩
theorem own_d_method_4_code_27 : own_gt method_4_code 27 31 := ⟨4, by decide +kernel, by decide, by decide⟩
theorem own_d_method_4_code_31 : own_ix method_4_code 31 .ireturn 1 32 := ⟨by decide +kernel, rfl⟩
theorem own_d_method_4_code_6 : own_ik method_4_code 6 1 7 := ⟨1, Or.inl ⟨by decide +kernel, by decide, rfl⟩⟩
theorem own_d_method_4_code_7 : own_ix method_4_code 7 .ireturn 1 8 := ⟨by decide +kernel, rfl⟩
theorem own_d_code_0 : own_il code 0 0 1 := Or.inl ⟨0, by decide +kernel, rfl, rfl⟩
theorem own_d_code_1 : own_ik code 1 7 3 := ⟨7, Or.inr (Or.inl ⟨by decide +kernel, by decide, rfl⟩)⟩
theorem own_d_code_3 : own_ix code 3 .iand 1 4 := ⟨by decide +kernel, rfl⟩
theorem own_d_code_4 : own_ik code 4 5 5 := ⟨5, Or.inl ⟨by decide +kernel, by decide, rfl⟩⟩
theorem own_d_code_5 : own_ix code 5 .irem 1 6 := ⟨by decide +kernel, rfl⟩
theorem own_d_code_6 : own_si code 6 6 8 := Or.inr ⟨by decide +kernel, rfl⟩
theorem own_d_code_8 : own_il code 8 6 10 := Or.inr ⟨by decide +kernel, rfl⟩
theorem own_d_code_10 : own_ifc code 10 .ne 13 17 := ⟨7, by decide +kernel, rfl, by decide, by decide⟩
theorem own_d_code_13 : own_ik code 13 0 14 := ⟨0, Or.inl ⟨by decide +kernel, by decide, rfl⟩⟩
theorem own_d_code_14 : own_gt code 14 23 := ⟨9, by decide +kernel, by decide, by decide⟩
theorem own_d_code_17 : own_il code 17 1 18 := Or.inl ⟨1, by decide +kernel, rfl, rfl⟩
theorem own_d_code_18 : own_ik code 18 7 20 := ⟨7, Or.inr (Or.inl ⟨by decide +kernel, by decide, rfl⟩)⟩
theorem own_d_code_20 : own_ix code 20 .iand 1 21 := ⟨by decide +kernel, rfl⟩
theorem own_d_code_21 : own_ik code 21 5 22 := ⟨5, Or.inl ⟨by decide +kernel, by decide, rfl⟩⟩
theorem own_d_code_22 : own_ix code 22 .irem 1 23 := ⟨by decide +kernel, rfl⟩
theorem own_d_code_23 : own_si code 23 7 25 := Or.inr ⟨by decide +kernel, rfl⟩
theorem own_d_code_25 : own_il code 25 6 27 := Or.inr ⟨by decide +kernel, rfl⟩
theorem own_d_code_27 : own_ik code 27 1 28 := ⟨1, Or.inl ⟨by decide +kernel, by decide, rfl⟩⟩
theorem own_pd__II_I : parseMethodDescriptor "(II)I" = some ⟨[.int, .int], some .int⟩ := by decide +kernel
theorem own_d_code_28 : own_ix code 28 (.invokestatic 7) 3 31 := ⟨by decide +kernel, rfl⟩
theorem own_d_code_31 : own_si code 31 8 33 := Or.inr ⟨by decide +kernel, rfl⟩
theorem own_d_code_33 : own_il code 33 2 34 := Or.inl ⟨2, by decide +kernel, rfl, rfl⟩
theorem own_d_code_34 : own_ix code 34 (.ldc 13) 2 36 := ⟨by decide +kernel, rfl⟩
theorem own_d_code_36 : own_ix code 36 .iand 1 37 := ⟨by decide +kernel, rfl⟩
theorem own_d_code_37 : own_il code 37 8 39 := Or.inr ⟨by decide +kernel, rfl⟩
theorem own_d_code_39 : own_ix code 39 .irem 1 40 := ⟨by decide +kernel, rfl⟩
theorem own_d_code_40 : own_si code 40 9 42 := Or.inr ⟨by decide +kernel, rfl⟩
theorem own_d_code_42 : own_il code 42 3 43 := Or.inl ⟨3, by decide +kernel, rfl, rfl⟩
theorem own_d_code_43 : own_ix code 43 (.ldc 13) 2 45 := ⟨by decide +kernel, rfl⟩
theorem own_d_code_45 : own_ix code 45 .iand 1 46 := ⟨by decide +kernel, rfl⟩
theorem own_d_code_46 : own_il code 46 8 48 := Or.inr ⟨by decide +kernel, rfl⟩
theorem own_d_code_48 : own_ix code 48 .irem 1 49 := ⟨by decide +kernel, rfl⟩
theorem own_d_code_49 : own_si code 49 10 51 := Or.inr ⟨by decide +kernel, rfl⟩
theorem own_d_code_51 : own_il code 51 4 53 := Or.inr ⟨by decide +kernel, rfl⟩
theorem own_d_code_53 : own_ix code 53 (.ldc 13) 2 55 := ⟨by decide +kernel, rfl⟩
theorem own_d_code_55 : own_ix code 55 .iand 1 56 := ⟨by decide +kernel, rfl⟩
theorem own_d_code_56 : own_il code 56 8 58 := Or.inr ⟨by decide +kernel, rfl⟩
theorem own_d_code_58 : own_ix code 58 .irem 1 59 := ⟨by decide +kernel, rfl⟩
theorem own_d_code_59 : own_si code 59 11 61 := Or.inr ⟨by decide +kernel, rfl⟩
theorem own_d_code_61 : own_il code 61 5 63 := Or.inr ⟨by decide +kernel, rfl⟩
theorem own_d_code_63 : own_ix code 63 (.ldc 13) 2 65 := ⟨by decide +kernel, rfl⟩
theorem own_d_code_65 : own_ix code 65 .iand 1 66 := ⟨by decide +kernel, rfl⟩
theorem own_d_code_66 : own_il code 66 8 68 := Or.inr ⟨by decide +kernel, rfl⟩
theorem own_d_code_68 : own_ix code 68 .irem 1 69 := ⟨by decide +kernel, rfl⟩
theorem own_d_code_69 : own_si code 69 12 71 := Or.inr ⟨by decide +kernel, rfl⟩
theorem own_d_code_71 : own_il code 71 7 73 := Or.inr ⟨by decide +kernel, rfl⟩
theorem own_d_code_73 : own_il code 73 9 75 := Or.inr ⟨by decide +kernel, rfl⟩
theorem own_d_code_75 : own_il code 75 10 77 := Or.inr ⟨by decide +kernel, rfl⟩
theorem own_d_code_77 : own_il code 77 11 79 := Or.inr ⟨by decide +kernel, rfl⟩
theorem own_d_code_79 : own_il code 79 12 81 := Or.inr ⟨by decide +kernel, rfl⟩
theorem own_pd__IIIII__I : parseMethodDescriptor "(IIIII)[I" = some ⟨[.int, .int, .int, .int, .int], some (.array .int)⟩ := by decide +kernel
theorem own_d_code_81 : own_ix code 81 (.invokestatic 14) 3 84 := ⟨by decide +kernel, rfl⟩
theorem own_d_code_84 : own_sa code 84 13 86 := Or.inr ⟨by decide +kernel, rfl⟩
theorem own_d_code_86 : own_al code 86 13 88 := Or.inr ⟨by decide +kernel, rfl⟩
theorem own_d_code_88 : own_il code 88 6 90 := Or.inr ⟨by decide +kernel, rfl⟩
theorem own_pd___II__I : parseMethodDescriptor "([II)[I" = some ⟨[(.array .int), .int], some (.array .int)⟩ := by decide +kernel
theorem own_d_code_90 : own_ix code 90 (.invokestatic 20) 3 93 := ⟨by decide +kernel, rfl⟩
theorem own_d_code_93 : own_sa code 93 14 95 := Or.inr ⟨by decide +kernel, rfl⟩
theorem own_d_code_95 : own_al code 95 14 97 := Or.inr ⟨by decide +kernel, rfl⟩
theorem own_d_code_97 : own_ix code 97 .arraylength 1 98 := ⟨by decide +kernel, rfl⟩
theorem own_d_code_98 : own_il code 98 6 100 := Or.inr ⟨by decide +kernel, rfl⟩
theorem own_d_code_100 : own_ik code 100 1 101 := ⟨1, Or.inl ⟨by decide +kernel, by decide, rfl⟩⟩
theorem own_d_code_101 : own_ix code 101 .iadd 1 102 := ⟨by decide +kernel, rfl⟩
theorem own_d_code_102 : own_icm code 102 .eq 105 107 := ⟨5, by decide +kernel, rfl, by decide, by decide⟩
theorem own_d_code_107 : own_al code 107 13 109 := Or.inr ⟨by decide +kernel, rfl⟩
theorem own_d_code_109 : own_ix code 109 .arraylength 1 110 := ⟨by decide +kernel, rfl⟩
theorem own_d_code_110 : own_il code 110 7 112 := Or.inr ⟨by decide +kernel, rfl⟩
theorem own_d_code_112 : own_icm code 112 .eq 115 117 := ⟨5, by decide +kernel, rfl, by decide, by decide⟩
theorem own_d_code_117 : own_il code 117 7 119 := Or.inr ⟨by decide +kernel, rfl⟩
theorem own_d_code_119 : own_ifc code 119 .le 122 133 := ⟨14, by decide +kernel, rfl, by decide, by decide⟩
theorem own_d_code_122 : own_al code 122 13 124 := Or.inr ⟨by decide +kernel, rfl⟩
theorem own_d_code_124 : own_ik code 124 0 125 := ⟨0, Or.inl ⟨by decide +kernel, by decide, rfl⟩⟩
theorem own_d_code_125 : own_ix code 125 .iaload 1 126 := ⟨by decide +kernel, rfl⟩
theorem own_d_code_126 : own_il code 126 9 128 := Or.inr ⟨by decide +kernel, rfl⟩
theorem own_d_code_128 : own_icm code 128 .eq 131 133 := ⟨5, by decide +kernel, rfl, by decide, by decide⟩
theorem own_d_code_133 : own_il code 133 7 135 := Or.inr ⟨by decide +kernel, rfl⟩
theorem own_d_code_135 : own_ik code 135 1 136 := ⟨1, Or.inl ⟨by decide +kernel, by decide, rfl⟩⟩
theorem own_d_code_136 : own_icm code 136 .le 139 150 := ⟨14, by decide +kernel, rfl, by decide, by decide⟩
theorem own_d_code_139 : own_al code 139 13 141 := Or.inr ⟨by decide +kernel, rfl⟩
theorem own_d_code_141 : own_ik code 141 1 142 := ⟨1, Or.inl ⟨by decide +kernel, by decide, rfl⟩⟩
theorem own_d_code_142 : own_ix code 142 .iaload 1 143 := ⟨by decide +kernel, rfl⟩
theorem own_d_code_143 : own_il code 143 10 145 := Or.inr ⟨by decide +kernel, rfl⟩
theorem own_d_code_145 : own_icm code 145 .eq 148 150 := ⟨5, by decide +kernel, rfl, by decide, by decide⟩
theorem own_d_code_150 : own_il code 150 7 152 := Or.inr ⟨by decide +kernel, rfl⟩
theorem own_d_code_152 : own_ik code 152 2 153 := ⟨2, Or.inl ⟨by decide +kernel, by decide, rfl⟩⟩
theorem own_d_code_153 : own_icm code 153 .le 156 167 := ⟨14, by decide +kernel, rfl, by decide, by decide⟩
theorem own_d_code_156 : own_al code 156 13 158 := Or.inr ⟨by decide +kernel, rfl⟩
theorem own_d_code_158 : own_ik code 158 2 159 := ⟨2, Or.inl ⟨by decide +kernel, by decide, rfl⟩⟩
theorem own_d_code_159 : own_ix code 159 .iaload 1 160 := ⟨by decide +kernel, rfl⟩
theorem own_d_code_160 : own_il code 160 11 162 := Or.inr ⟨by decide +kernel, rfl⟩
theorem own_d_code_162 : own_icm code 162 .eq 165 167 := ⟨5, by decide +kernel, rfl, by decide, by decide⟩
theorem own_d_code_167 : own_il code 167 7 169 := Or.inr ⟨by decide +kernel, rfl⟩
theorem own_d_code_169 : own_ik code 169 3 170 := ⟨3, Or.inl ⟨by decide +kernel, by decide, rfl⟩⟩
theorem own_d_code_170 : own_icm code 170 .le 173 184 := ⟨14, by decide +kernel, rfl, by decide, by decide⟩
theorem own_d_code_173 : own_al code 173 13 175 := Or.inr ⟨by decide +kernel, rfl⟩
theorem own_d_code_175 : own_ik code 175 3 176 := ⟨3, Or.inl ⟨by decide +kernel, by decide, rfl⟩⟩
theorem own_d_code_176 : own_ix code 176 .iaload 1 177 := ⟨by decide +kernel, rfl⟩
theorem own_d_code_177 : own_il code 177 12 179 := Or.inr ⟨by decide +kernel, rfl⟩
theorem own_d_code_179 : own_icm code 179 .eq 182 184 := ⟨5, by decide +kernel, rfl, by decide, by decide⟩
theorem own_d_code_184 : own_al code 184 14 186 := Or.inr ⟨by decide +kernel, rfl⟩
theorem own_d_code_186 : own_ik code 186 0 187 := ⟨0, Or.inl ⟨by decide +kernel, by decide, rfl⟩⟩
theorem own_d_code_187 : own_il code 187 7 189 := Or.inr ⟨by decide +kernel, rfl⟩
theorem own_d_code_189 : own_il code 189 9 191 := Or.inr ⟨by decide +kernel, rfl⟩
theorem own_d_code_191 : own_il code 191 10 193 := Or.inr ⟨by decide +kernel, rfl⟩
theorem own_d_code_193 : own_il code 193 11 195 := Or.inr ⟨by decide +kernel, rfl⟩
theorem own_d_code_195 : own_il code 195 12 197 := Or.inr ⟨by decide +kernel, rfl⟩
theorem own_pd___IIIIIII_Z : parseMethodDescriptor "([IIIIIII)Z" = some ⟨[(.array .int), .int, .int, .int, .int, .int, .int], some .boolean⟩ := by decide +kernel
theorem own_d_code_197 : own_ix code 197 (.invokestatic 26) 3 200 := ⟨by decide +kernel, rfl⟩
theorem own_d_code_200 : own_ifc code 200 .eq 203 283 := ⟨83, by decide +kernel, rfl, by decide, by decide⟩
theorem own_d_code_203 : own_al code 203 14 205 := Or.inr ⟨by decide +kernel, rfl⟩
theorem own_d_code_205 : own_ik code 205 1 206 := ⟨1, Or.inl ⟨by decide +kernel, by decide, rfl⟩⟩
theorem own_d_code_206 : own_il code 206 7 208 := Or.inr ⟨by decide +kernel, rfl⟩
theorem own_d_code_208 : own_il code 208 9 210 := Or.inr ⟨by decide +kernel, rfl⟩
theorem own_d_code_210 : own_il code 210 10 212 := Or.inr ⟨by decide +kernel, rfl⟩
theorem own_d_code_212 : own_il code 212 11 214 := Or.inr ⟨by decide +kernel, rfl⟩
theorem own_d_code_214 : own_il code 214 12 216 := Or.inr ⟨by decide +kernel, rfl⟩
theorem own_d_code_216 : own_ix code 216 (.invokestatic 26) 3 219 := ⟨by decide +kernel, rfl⟩
theorem own_d_code_219 : own_ifc code 219 .eq 222 283 := ⟨64, by decide +kernel, rfl, by decide, by decide⟩
theorem own_d_code_222 : own_al code 222 14 224 := Or.inr ⟨by decide +kernel, rfl⟩
theorem own_d_code_224 : own_ik code 224 2 225 := ⟨2, Or.inl ⟨by decide +kernel, by decide, rfl⟩⟩
theorem own_d_code_225 : own_il code 225 7 227 := Or.inr ⟨by decide +kernel, rfl⟩
theorem own_d_code_227 : own_il code 227 9 229 := Or.inr ⟨by decide +kernel, rfl⟩
theorem own_d_code_229 : own_il code 229 10 231 := Or.inr ⟨by decide +kernel, rfl⟩
theorem own_d_code_231 : own_il code 231 11 233 := Or.inr ⟨by decide +kernel, rfl⟩
theorem own_d_code_233 : own_il code 233 12 235 := Or.inr ⟨by decide +kernel, rfl⟩
theorem own_d_code_235 : own_ix code 235 (.invokestatic 26) 3 238 := ⟨by decide +kernel, rfl⟩
theorem own_d_code_238 : own_ifc code 238 .eq 241 283 := ⟨45, by decide +kernel, rfl, by decide, by decide⟩
theorem own_d_code_241 : own_al code 241 14 243 := Or.inr ⟨by decide +kernel, rfl⟩
theorem own_d_code_243 : own_ik code 243 3 244 := ⟨3, Or.inl ⟨by decide +kernel, by decide, rfl⟩⟩
theorem own_d_code_244 : own_il code 244 7 246 := Or.inr ⟨by decide +kernel, rfl⟩
theorem own_d_code_246 : own_il code 246 9 248 := Or.inr ⟨by decide +kernel, rfl⟩
theorem own_d_code_248 : own_il code 248 10 250 := Or.inr ⟨by decide +kernel, rfl⟩
theorem own_d_code_250 : own_il code 250 11 252 := Or.inr ⟨by decide +kernel, rfl⟩
theorem own_d_code_252 : own_il code 252 12 254 := Or.inr ⟨by decide +kernel, rfl⟩
theorem own_d_code_254 : own_ix code 254 (.invokestatic 26) 3 257 := ⟨by decide +kernel, rfl⟩
theorem own_d_code_257 : own_ifc code 257 .eq 260 283 := ⟨26, by decide +kernel, rfl, by decide, by decide⟩
theorem own_d_code_260 : own_al code 260 14 262 := Or.inr ⟨by decide +kernel, rfl⟩
theorem own_d_code_262 : own_ik code 262 4 263 := ⟨4, Or.inl ⟨by decide +kernel, by decide, rfl⟩⟩
theorem own_d_code_263 : own_il code 263 7 265 := Or.inr ⟨by decide +kernel, rfl⟩
theorem own_d_code_265 : own_il code 265 9 267 := Or.inr ⟨by decide +kernel, rfl⟩
theorem own_d_code_267 : own_il code 267 10 269 := Or.inr ⟨by decide +kernel, rfl⟩
theorem own_d_code_269 : own_il code 269 11 271 := Or.inr ⟨by decide +kernel, rfl⟩
theorem own_d_code_271 : own_il code 271 12 273 := Or.inr ⟨by decide +kernel, rfl⟩
theorem own_d_code_273 : own_ix code 273 (.invokestatic 26) 3 276 := ⟨by decide +kernel, rfl⟩
theorem own_d_code_276 : own_ifc code 276 .eq 279 283 := ⟨7, by decide +kernel, rfl, by decide, by decide⟩
theorem own_d_code_279 : own_ik code 279 1 280 := ⟨1, Or.inl ⟨by decide +kernel, by decide, rfl⟩⟩
theorem own_d_code_280 : own_gt code 280 284 := ⟨4, by decide +kernel, by decide, by decide⟩
theorem own_d_code_284 : own_ix code 284 .ireturn 1 285 := ⟨by decide +kernel, rfl⟩
set_option maxRecDepth 65536 in
set_option maxHeartbeats 40000000 in
theorem own_max (l : Launch) (Z : State) (a0 : Array Value) (hw : ∀ d ∈ tables_1, d.before a0 Z = true) (x_ y_ : Int32) (h0 : Heap) (n0 : Nat) (Z0 : n0 ≤ h0.size)  :
    own_Con l Z n0 (⟨"java/lang/Math", "max", "(II)I"⟩ : MethodName) jdk_29_method_65_code 2 (some .int) ({ frames := 0, cells := 0, slots := 0, locals := 0 } : Room) [] #[(.int x_), (.int y_)] h0 (fun v h' => v = some (.int (own_mx x_ y_)) ∧ h' = h0) := by
  refine own_enter (Jvm.Free.JP.mathPlain rfl (by decide +kernel)) Z0 #[.val (.int x_), .val (.int y_)] (fun m => by first | (simp [entryFrame, mkF, argsToLocals, Value.category]; done) | rfl) ?_
  intro p e s m below meth c T A X0 hret hnm fin
  refine own_iload X0 own_d_jdk_29_method_65_code_0 rfl ?_
  refine own_iload X0 own_d_jdk_29_method_65_code_1 rfl ?_
  by_cases c1 : x_ < y_
  · skip
    refine own_icYes X0 own_d_jdk_29_method_65_code_2 (tlt c1).1 ?_
    refine own_iload X0 own_d_jdk_29_method_65_code_9 rfl ?_
    exact own_retI X0 hret fin (by decide) (by decide) ⟨by rw [own_mx, if_pos c1], rfl⟩ own_d_jdk_29_method_65_code_10
  · skip
    refine own_icNo X0 own_d_jdk_29_method_65_code_2 (flt c1).1 ?_
    refine own_iload X0 own_d_jdk_29_method_65_code_5 rfl ?_
    refine own_goto X0 own_d_jdk_29_method_65_code_6 ?_
    exact own_retI X0 hret fin (by decide) (by decide) ⟨by rw [own_mx, if_neg c1], rfl⟩ own_d_jdk_29_method_65_code_10
set_option maxRecDepth 65536 in
set_option maxHeartbeats 40000000 in
theorem own_build (l : Launch) (Z : State) (a0 : Array Value) (hw : ∀ d ∈ tables_1, d.before a0 Z = true) (n : Nat) (a0v a1 a2 a3 : Int32) (h0 : Heap) (n0 : Nat) (Z0 : n0 ≤ h0.size) (hn : n < 5) :
    own_Con l Z n0 (⟨"com/example/tideline/tideline/ArrivalOrderStartsPinLaw", "build", "(IIIII)[I"⟩ : MethodName) method_3_code 5 (some (.array .int)) ({ frames := 0, cells := 1, slots := 4, locals := 0 } : Room) [] #[(.int (Int32.ofNat n)), (.int a0v), (.int a1), (.int a2), (.int a3)] h0 (fun v h' => ∃ b, v = some (.ref b) ∧ Keep h0 h' [] ∧ h0.size ≤ b ∧ n0 ≤ b ∧ own_AL Z h' b .int ((([a0v, a1, a2, a3] : List Int32).take n).map Value.int)) := by
  refine own_enter (plainFor_of_name own_pn_com_example_tideline_tideline_ArrivalOrderStartsPinLaw) Z0 #[.val (.int (Int32.ofNat n)), .val (.int a0v), .val (.int a1), .val (.int a2), .val (.int a3)] (fun m => by first | (simp [entryFrame, mkF, argsToLocals, Value.category]; done) | rfl) ?_
  intro p e s m below meth c T A X0 hret hnm fin
  have hn_ : own_idx (Int32.ofNat n) n := own_idx_nat (by omega)
  refine own_iload X0 own_d_method_3_code_0 rfl ?_
  by_cases c0 : (Int32.ofNat n) = (0 : Int32)
  · skip
    refine own_ifNo X0 own_d_method_3_code_1 ((if0 _ _).trans (teq c0).2) ?_
    obtain rfl : n = 0 := (own_idx_eq hn_ (n := 0) ⟨by decide, by decide⟩).mp c0
    refine own_ipush X0 own_d_method_3_code_4 ?_
    refine own_newarr X0 (hw _ (List.mem_of_getElem? (i := 9) rfl)) own_d_method_3_code_5 (n := 0) ⟨by decide, by decide⟩ 0 (Nat.le_refl _) (by decide) (by decide) (by decide) ?_
    intro T1 h1 b1 X1 E1 g1 ga_b1 V1
    have sz_b1 : h0.size ≤ b1 := by rw [g1]; exact (Keep.refl h0 []).1
    have K1 : Keep h0 h1 [] := (Keep.refl h0 []).ext E1
    replace V1 : own_AL Z h1 b1 .int [] := V1
    exact own_retA X1 hret rfl rfl fin (by decide) (by decide) ⟨b1, rfl, K1, sz_b1, ga_b1, V1⟩ own_d_method_3_code_7
  · skip
    refine own_ifYes X0 own_d_method_3_code_1 ((if0 _ _).trans (feq c0).2) ?_
    have n0 : n ≠ 0 := mt (own_idx_eq hn_ (n := 0) ⟨by decide, by decide⟩).mpr c0
    refine own_iload X0 own_d_method_3_code_8 rfl ?_
    refine own_ipush X0 own_d_method_3_code_9 ?_
    by_cases c1 : (Int32.ofNat n) = (1 : Int32)
    · skip
      refine own_icNo X0 own_d_method_3_code_10 (teq c1).2 ?_
      obtain rfl : n = 1 := (own_idx_eq hn_ (n := 1) ⟨by decide, by decide⟩).mp c1
      refine own_ipush X0 own_d_method_3_code_13 ?_
      refine own_newarr X0 (hw _ (List.mem_of_getElem? (i := 9) rfl)) own_d_method_3_code_14 (n := 1) ⟨by decide, by decide⟩ 1 (Nat.le_refl _) (by decide) (by decide) (by decide) ?_
      intro T2 h2 b2 X2 E2 g2 ga_b2 V2
      have sz_b2 : h0.size ≤ b2 := by rw [g2]; exact (Keep.refl h0 []).1
      have K2 : Keep h0 h2 [] := (Keep.refl h0 []).ext E2
      replace V2 : own_AL Z h2 b2 .int [(.int (0 : Int32))] := V2
      refine own_dup X2 own_d_method_3_code_16 rfl ?_
      refine own_ipush X2 own_d_method_3_code_17 ?_
      refine own_iload X2 own_d_method_3_code_18 rfl ?_
      refine own_iastore X2 V2 ga_b2 (i := 0) ⟨by decide, by decide⟩ (Nat.le_of_ble_eq_true rfl) own_d_method_3_code_19 ?_
      intro T3 h3 X3 W3 V3
      have K3 : Keep h0 h3 [] := K2.wr W3 (Or.inr sz_b2)
      replace V3 : own_AL Z h3 b2 .int [(.int a0v)] := V3
      exact own_retA X3 hret rfl rfl fin (by decide) (by decide) ⟨b2, rfl, K3, sz_b2, ga_b2, V3⟩ own_d_method_3_code_20
    · skip
      refine own_icYes X0 own_d_method_3_code_10 (feq c1).2 ?_
      have n1 : n ≠ 1 := mt (own_idx_eq hn_ (n := 1) ⟨by decide, by decide⟩).mpr c1
      refine own_iload X0 own_d_method_3_code_21 rfl ?_
      refine own_ipush X0 own_d_method_3_code_22 ?_
      by_cases c2 : (Int32.ofNat n) = (2 : Int32)
      · skip
        refine own_icNo X0 own_d_method_3_code_23 (teq c2).2 ?_
        obtain rfl : n = 2 := (own_idx_eq hn_ (n := 2) ⟨by decide, by decide⟩).mp c2
        refine own_ipush X0 own_d_method_3_code_26 ?_
        refine own_newarr X0 (hw _ (List.mem_of_getElem? (i := 9) rfl)) own_d_method_3_code_27 (n := 2) ⟨by decide, by decide⟩ 2 (Nat.le_refl _) (by decide) (by decide) (by decide) ?_
        intro T4 h4 b4 X4 E4 g4 ga_b4 V4
        have sz_b4 : h0.size ≤ b4 := by rw [g4]; exact (Keep.refl h0 []).1
        have K4 : Keep h0 h4 [] := (Keep.refl h0 []).ext E4
        replace V4 : own_AL Z h4 b4 .int [(.int (0 : Int32)), (.int (0 : Int32))] := V4
        refine own_dup X4 own_d_method_3_code_29 rfl ?_
        refine own_ipush X4 own_d_method_3_code_30 ?_
        refine own_iload X4 own_d_method_3_code_31 rfl ?_
        refine own_iastore X4 V4 ga_b4 (i := 0) ⟨by decide, by decide⟩ (Nat.le_of_ble_eq_true rfl) own_d_method_3_code_32 ?_
        intro T5 h5 X5 W5 V5
        have K5 : Keep h0 h5 [] := K4.wr W5 (Or.inr sz_b4)
        replace V5 : own_AL Z h5 b4 .int [(.int a0v), (.int (0 : Int32))] := V5
        refine own_dup X5 own_d_method_3_code_33 rfl ?_
        refine own_ipush X5 own_d_method_3_code_34 ?_
        refine own_iload X5 own_d_method_3_code_35 rfl ?_
        refine own_iastore X5 V5 ga_b4 (i := 1) ⟨by decide, by decide⟩ (Nat.le_of_ble_eq_true rfl) own_d_method_3_code_36 ?_
        intro T6 h6 X6 W6 V6
        have K6 : Keep h0 h6 [] := K5.wr W6 (Or.inr sz_b4)
        replace V6 : own_AL Z h6 b4 .int [(.int a0v), (.int a1)] := V6
        exact own_retA X6 hret rfl rfl fin (by decide) (by decide) ⟨b4, rfl, K6, sz_b4, ga_b4, V6⟩ own_d_method_3_code_37
      · skip
        refine own_icYes X0 own_d_method_3_code_23 (feq c2).2 ?_
        have n2 : n ≠ 2 := mt (own_idx_eq hn_ (n := 2) ⟨by decide, by decide⟩).mpr c2
        refine own_iload X0 own_d_method_3_code_38 rfl ?_
        refine own_ipush X0 own_d_method_3_code_39 ?_
        by_cases c3 : (Int32.ofNat n) = (3 : Int32)
        · skip
          refine own_icNo X0 own_d_method_3_code_40 (teq c3).2 ?_
          obtain rfl : n = 3 := (own_idx_eq hn_ (n := 3) ⟨by decide, by decide⟩).mp c3
          refine own_ipush X0 own_d_method_3_code_43 ?_
          refine own_newarr X0 (hw _ (List.mem_of_getElem? (i := 9) rfl)) own_d_method_3_code_44 (n := 3) ⟨by decide, by decide⟩ 3 (Nat.le_refl _) (by decide) (by decide) (by decide) ?_
          intro T7 h7 b7 X7 E7 g7 ga_b7 V7
          have sz_b7 : h0.size ≤ b7 := by rw [g7]; exact (Keep.refl h0 []).1
          have K7 : Keep h0 h7 [] := (Keep.refl h0 []).ext E7
          replace V7 : own_AL Z h7 b7 .int [(.int (0 : Int32)), (.int (0 : Int32)), (.int (0 : Int32))] := V7
          refine own_dup X7 own_d_method_3_code_46 rfl ?_
          refine own_ipush X7 own_d_method_3_code_47 ?_
          refine own_iload X7 own_d_method_3_code_48 rfl ?_
          refine own_iastore X7 V7 ga_b7 (i := 0) ⟨by decide, by decide⟩ (Nat.le_of_ble_eq_true rfl) own_d_method_3_code_49 ?_
          intro T8 h8 X8 W8 V8
          have K8 : Keep h0 h8 [] := K7.wr W8 (Or.inr sz_b7)
          replace V8 : own_AL Z h8 b7 .int [(.int a0v), (.int (0 : Int32)), (.int (0 : Int32))] := V8
          refine own_dup X8 own_d_method_3_code_50 rfl ?_
          refine own_ipush X8 own_d_method_3_code_51 ?_
          refine own_iload X8 own_d_method_3_code_52 rfl ?_
          refine own_iastore X8 V8 ga_b7 (i := 1) ⟨by decide, by decide⟩ (Nat.le_of_ble_eq_true rfl) own_d_method_3_code_53 ?_
          intro T9 h9 X9 W9 V9
          have K9 : Keep h0 h9 [] := K8.wr W9 (Or.inr sz_b7)
          replace V9 : own_AL Z h9 b7 .int [(.int a0v), (.int a1), (.int (0 : Int32))] := V9
          refine own_dup X9 own_d_method_3_code_54 rfl ?_
          refine own_ipush X9 own_d_method_3_code_55 ?_
          refine own_iload X9 own_d_method_3_code_56 rfl ?_
          refine own_iastore X9 V9 ga_b7 (i := 2) ⟨by decide, by decide⟩ (Nat.le_of_ble_eq_true rfl) own_d_method_3_code_57 ?_
          intro T10 h10 X10 W10 V10
          have K10 : Keep h0 h10 [] := K9.wr W10 (Or.inr sz_b7)
          replace V10 : own_AL Z h10 b7 .int [(.int a0v), (.int a1), (.int a2)] := V10
          exact own_retA X10 hret rfl rfl fin (by decide) (by decide) ⟨b7, rfl, K10, sz_b7, ga_b7, V10⟩ own_d_method_3_code_58
        · skip
          refine own_icYes X0 own_d_method_3_code_40 (feq c3).2 ?_
          have n3 : n ≠ 3 := mt (own_idx_eq hn_ (n := 3) ⟨by decide, by decide⟩).mpr c3
          obtain rfl : n = 4 := by omega
          refine own_ipush X0 own_d_method_3_code_59 ?_
          refine own_newarr X0 (hw _ (List.mem_of_getElem? (i := 9) rfl)) own_d_method_3_code_60 (n := 4) ⟨by decide, by decide⟩ 4 (Nat.le_refl _) (by decide) (by decide) (by decide) ?_
          intro T11 h11 b11 X11 E11 g11 ga_b11 V11
          have sz_b11 : h0.size ≤ b11 := by rw [g11]; exact (Keep.refl h0 []).1
          have K11 : Keep h0 h11 [] := (Keep.refl h0 []).ext E11
          replace V11 : own_AL Z h11 b11 .int [(.int (0 : Int32)), (.int (0 : Int32)), (.int (0 : Int32)), (.int (0 : Int32))] := V11
          refine own_dup X11 own_d_method_3_code_62 rfl ?_
          refine own_ipush X11 own_d_method_3_code_63 ?_
          refine own_iload X11 own_d_method_3_code_64 rfl ?_
          refine own_iastore X11 V11 ga_b11 (i := 0) ⟨by decide, by decide⟩ (Nat.le_of_ble_eq_true rfl) own_d_method_3_code_65 ?_
          intro T12 h12 X12 W12 V12
          have K12 : Keep h0 h12 [] := K11.wr W12 (Or.inr sz_b11)
          replace V12 : own_AL Z h12 b11 .int [(.int a0v), (.int (0 : Int32)), (.int (0 : Int32)), (.int (0 : Int32))] := V12
          refine own_dup X12 own_d_method_3_code_66 rfl ?_
          refine own_ipush X12 own_d_method_3_code_67 ?_
          refine own_iload X12 own_d_method_3_code_68 rfl ?_
          refine own_iastore X12 V12 ga_b11 (i := 1) ⟨by decide, by decide⟩ (Nat.le_of_ble_eq_true rfl) own_d_method_3_code_69 ?_
          intro T13 h13 X13 W13 V13
          have K13 : Keep h0 h13 [] := K12.wr W13 (Or.inr sz_b11)
          replace V13 : own_AL Z h13 b11 .int [(.int a0v), (.int a1), (.int (0 : Int32)), (.int (0 : Int32))] := V13
          refine own_dup X13 own_d_method_3_code_70 rfl ?_
          refine own_ipush X13 own_d_method_3_code_71 ?_
          refine own_iload X13 own_d_method_3_code_72 rfl ?_
          refine own_iastore X13 V13 ga_b11 (i := 2) ⟨by decide, by decide⟩ (Nat.le_of_ble_eq_true rfl) own_d_method_3_code_73 ?_
          intro T14 h14 X14 W14 V14
          have K14 : Keep h0 h14 [] := K13.wr W14 (Or.inr sz_b11)
          replace V14 : own_AL Z h14 b11 .int [(.int a0v), (.int a1), (.int a2), (.int (0 : Int32))] := V14
          refine own_dup X14 own_d_method_3_code_74 rfl ?_
          refine own_ipush X14 own_d_method_3_code_75 ?_
          refine own_iload X14 own_d_method_3_code_76 rfl ?_
          refine own_iastore X14 V14 ga_b11 (i := 3) ⟨by decide, by decide⟩ (Nat.le_of_ble_eq_true rfl) own_d_method_3_code_78 ?_
          intro T15 h15 X15 W15 V15
          have K15 : Keep h0 h15 [] := K14.wr W15 (Or.inr sz_b11)
          replace V15 : own_AL Z h15 b11 .int [(.int a0v), (.int a1), (.int a2), (.int a3)] := V15
          exact own_retA X15 hret rfl rfl fin (by decide) (by decide) ⟨b11, rfl, K15, sz_b11, ga_b11, V15⟩ own_d_method_3_code_79
set_option maxRecDepth 65536 in
set_option maxHeartbeats 40000000 in
theorem own_starts (l : Launch) (Z : State) (a0 : Array Value) (hw : ∀ d ∈ tables_1, d.before a0 Z = true) (ea : Addr) (na n : Nat) (ev : Nat → Int32) (kv : Nat → Nat) (h0 : Heap) (n0 : Nat) (Z0 : n0 ≤ h0.size) (hna : na < 5) (hn : n < 5) (hev : ∀ j, j < n → own_idx (ev j) (kv j) ∧ kv j < na) (Ve : own_AF Z h0 ea .int n (fun j => .int (ev j))) :
    own_Con l Z n0 (⟨"com/example/tideline/tideline/ArrivalOrder", "starts", "([II)[I"⟩ : MethodName) prog_1_method_2_code 7 (some (.array .int)) ({ frames := 0, cells := 1, slots := 5, locals := 0 } : Room) [] #[(.ref ea), (.int (Int32.ofNat na))] h0 (fun v h' => ∃ b, v = some (.ref b) ∧ Keep h0 h' [] ∧ h0.size ≤ b ∧ n0 ≤ b ∧ own_AF Z h' b .int (na + 1) (fun j => .int (Int32.ofNat (own_ps kv n na j)))) := by
  refine own_enter (plainFor_of_name own_pn_com_example_tideline_tideline_ArrivalOrder) Z0 #[.val (.ref ea), .val (.int (Int32.ofNat na)), .unset, .unset, .unset, .unset, .unset] (fun m => by first | (simp [entryFrame, mkF, argsToLocals, Value.category]; done) | rfl) ?_
  intro p e s m below meth c T A X0 hret hnm fin
  have hna_ : own_idx (Int32.ofNat na) na := own_idx_nat (by omega)
  have hn_ : own_idx (Int32.ofNat n) n := own_idx_nat (by omega)
  refine own_iload X0 own_d_prog_1_method_2_code_0 rfl ?_
  refine own_ipush X0 own_d_prog_1_method_2_code_1 ?_
  refine own_iadd X0 own_d_prog_1_method_2_code_2 ?_
  refine own_newarr X0 (hw _ (List.mem_of_getElem? (i := 9) rfl)) own_d_prog_1_method_2_code_3 (n := (na + 1)) (own_idx_add hna_ (n := 1) ⟨by decide, by decide⟩ (by omega)) 5 (by omega) (by decide) (by decide) (by decide) ?_
  intro T1 h1 b1 X1 E1 g1 ga_b1 V1
  have ne_ea_b1 : ea ≠ b1 := by rw [g1]; exact Nat.ne_of_lt Ve.lt
  have sz_b1 : h0.size ≤ b1 := by rw [g1]; exact (Keep.refl h0 []).1
  have K1 : Keep h0 h1 [] := (Keep.refl h0 []).ext E1
  have F2_ea : own_AF Z h1 ea .int n (fun j => .int (ev j)) := Ve.ext E1
  replace V1 : own_AL Z h1 b1 .int (List.replicate (na + 1) (.int (0 : Int32))) := V1
  have Vc : own_AF Z h1 b1 .int (na + 1) (fun j => .int (Int32.ofNat (own_cn kv 0 j))) := (V1.fn (na + 1) (by simp) (.int 0)).to (fun j hj => by simp [List.getD_eq_getElem?_getD, hj, own_cn])
  refine own_astore X1 #[.val (.ref ea), .val (.int (Int32.ofNat na)), .val (.ref b1), .unset, .unset, .unset, .unset] own_d_prog_1_method_2_code_5 rfl ?_
  refine own_aload X1 own_d_prog_1_method_2_code_6 rfl ?_
  refine own_astore X1 #[.val (.ref ea), .val (.int (Int32.ofNat na)), .val (.ref b1), .val (.ref ea), .unset, .unset, .unset] own_d_prog_1_method_2_code_7 rfl ?_
  refine own_aload X1 own_d_prog_1_method_2_code_8 rfl ?_
  refine own_alenF X1 F2_ea own_d_prog_1_method_2_code_9 ?_
  refine own_istore X1 #[.val (.ref ea), .val (.int (Int32.ofNat na)), .val (.ref b1), .val (.ref ea), .val (.int (Int32.ofNat n)), .unset, .unset] own_d_prog_1_method_2_code_10 rfl ?_
  refine own_ipush X1 own_d_prog_1_method_2_code_12 ?_
  refine own_istore X1 #[.val (.ref ea), .val (.int (Int32.ofNat na)), .val (.ref b1), .val (.ref ea), .val (.int (Int32.ofNat n)), .val (.int (0 : Int32)), .unset] own_d_prog_1_method_2_code_13 rfl ?_
  suffices LOOP : ∀ (r i : Nat) (Tq : State) (hq : Heap) (s6 : Slot), i + r = n → One s6 → own_St p l e ({ frames := 0, cells := 1, slots := 5, locals := 0 } : Room) s m #[(.ref ea), (.int (Int32.ofNat na))] below meth c Z n0 prog_1_method_2_code 7 "com/example/tideline/tideline/ArrivalOrder" Tq hq 1 5 → own_AF Z hq ea .int n (fun j => .int (ev j)) → own_AF Z hq b1 .int (na + 1) (fun j => .int (Int32.ofNat (own_cn kv i j))) → Keep h0 hq [] → own_Wins p e below A Tq (mkF m 15 #[.val (.ref ea), .val (.int (Int32.ofNat na)), .val (.ref b1), .val (.ref ea), .val (.int (Int32.ofNat n)), .val (.int (Int32.ofNat i)), s6] []) by
    exact LOOP n 0 T1 h1 _ (by omega) One.u X1 F2_ea Vc K1
  intro r
  induction r with
  | zero =>
    intro i Tq hq s6 hi ho Xq Veq Vcq Kq
    obtain rfl : i = n := by omega
    skip
    refine own_iload Xq own_d_prog_1_method_2_code_15 rfl ?_
    refine own_iload Xq own_d_prog_1_method_2_code_17 rfl ?_
    refine own_icYes Xq own_d_prog_1_method_2_code_19 (flt Int32.lt_irrefl).2.1 ?_
    refine own_ipush Xq own_d_prog_1_method_2_code_44 ?_
    refine own_istore Xq #[.val (.ref ea), .val (.int (Int32.ofNat na)), .val (.ref b1), .val (.int (0 : Int32)), .val (.int (Int32.ofNat i)), .val (.int (Int32.ofNat i)), s6] own_d_prog_1_method_2_code_45 rfl ?_
    suffices LOOP2 : ∀ (r2 q_ : Nat) (Tr : State) (hr : Heap), q_ + r2 = na → own_St p l e ({ frames := 0, cells := 1, slots := 5, locals := 0 } : Room) s m #[(.ref ea), (.int (Int32.ofNat na))] below meth c Z n0 prog_1_method_2_code 7 "com/example/tideline/tideline/ArrivalOrder" Tr hr 1 5 → own_AF Z hr ea .int i (fun j => .int (ev j)) → own_AF Z hr b1 .int (na + 1) (fun j => .int (Int32.ofNat (own_ps kv i q_ j))) → Keep h0 hr [] → own_Wins p e below A Tr (mkF m 46 #[.val (.ref ea), .val (.int (Int32.ofNat na)), .val (.ref b1), .val (.int (Int32.ofNat q_)), .val (.int (Int32.ofNat i)), .val (.int (Int32.ofNat i)), s6] []) by
      exact LOOP2 na 0 Tq hq (by omega) Xq Veq Vcq Kq
    intro r2
    induction r2 with
    | zero =>
      intro q_ Tr hr hq_ Xr Ver Vcr Kr
      obtain rfl : q_ = na := by omega
      refine own_iload Xr own_d_prog_1_method_2_code_46 rfl ?_
      refine own_iload Xr own_d_prog_1_method_2_code_47 rfl ?_
      refine own_icYes Xr own_d_prog_1_method_2_code_48 (flt Int32.lt_irrefl).2.1 ?_
      refine own_aload Xr own_d_prog_1_method_2_code_68 rfl ?_
      exact own_retA Xr hret rfl rfl fin (by decide) (by decide) ⟨b1, rfl, Kr, sz_b1, ga_b1, Vcr⟩ own_d_prog_1_method_2_code_69
    | succ r2 ih2 =>
      intro q_ Tr hr hq_ Xr Ver Vcr Kr
      have hq8 : own_idx (Int32.ofNat q_) q_ := own_idx_nat (by omega)
      refine own_iload Xr own_d_prog_1_method_2_code_46 rfl ?_
      refine own_iload Xr own_d_prog_1_method_2_code_47 rfl ?_
      refine own_icNo Xr own_d_prog_1_method_2_code_48 (tlt ((own_idx_lt hq8 hna_).mpr (by omega))).2.1 ?_
      refine own_aload Xr own_d_prog_1_method_2_code_51 rfl ?_
      refine own_iload Xr own_d_prog_1_method_2_code_52 rfl ?_
      refine own_ipush Xr own_d_prog_1_method_2_code_53 ?_
      refine own_iadd Xr own_d_prog_1_method_2_code_54 ?_
      refine own_dup2 Xr own_d_prog_1_method_2_code_55 ?_
      refine own_ialoadF Xr Vcr (i := (q_ + 1)) (own_idx_add hq8 (n := 1) ⟨by decide, by decide⟩ (by omega)) (by omega) rfl own_d_prog_1_method_2_code_56 ?_
      refine own_aload Xr own_d_prog_1_method_2_code_57 rfl ?_
      refine own_iload Xr own_d_prog_1_method_2_code_58 rfl ?_
      refine own_ialoadF Xr Vcr (i := q_) hq8 (by omega) rfl own_d_prog_1_method_2_code_59 ?_
      refine own_iadd Xr own_d_prog_1_method_2_code_60 ?_
      refine own_iastoreF Xr Vcr ga_b1 (i := (q_ + 1)) (own_idx_add hq8 (n := 1) ⟨by decide, by decide⟩ (by omega)) (by omega) own_d_prog_1_method_2_code_61 ?_
      intro T3 h3 X3 W3 V3
      have K3 : Keep h0 h3 [] := Kr.wr W3 (Or.inr sz_b1)
      replace V3 : own_AF Z h3 b1 .int (na + 1) (own_up (fun j => .int (Int32.ofNat (own_ps kv i q_ j))) (q_ + 1) (.int ((Int32.ofNat (own_ps kv i q_ (q_ + 1))) + (Int32.ofNat (own_ps kv i q_ q_))))) := V3
      have F4_ea : own_AF Z h3 ea .int i (fun j => .int (ev j)) := Ver.other W3 (Ne.symm (Ne.symm ne_ea_b1))
      rw [← Int32.ofNat_add, own_up_ps] at V3
      refine own_iinc X3 #[.val (.ref ea), .val (.int (Int32.ofNat na)), .val (.ref b1), .val (.int ((Int32.ofNat q_) + (1 : Int32))), .val (.int (Int32.ofNat i)), .val (.int (Int32.ofNat i)), s6] own_d_prog_1_method_2_code_62 rfl rfl ?_
      refine own_goto X3 own_d_prog_1_method_2_code_65 ?_
      rw [own_succ]
      exact ih2 (q_ + 1) _ _ (by omega) X3 F4_ea V3 K3
  | succ r ih =>
    intro i Tq hq s6 hi ho Xq Veq Vcq Kq
    have hi8 : own_idx (Int32.ofNat i) i := own_idx_nat (by omega)
    refine own_iload Xq own_d_prog_1_method_2_code_15 rfl ?_
    refine own_iload Xq own_d_prog_1_method_2_code_17 rfl ?_
    refine own_icNo Xq own_d_prog_1_method_2_code_19 (tlt ((own_idx_lt hi8 hn_).mpr (by omega))).2.1 ?_
    refine own_aload Xq own_d_prog_1_method_2_code_22 rfl ?_
    refine own_iload Xq own_d_prog_1_method_2_code_23 rfl ?_
    refine own_ialoadF Xq Veq (i := i) hi8 (by omega) rfl own_d_prog_1_method_2_code_25 ?_
    refine own_istore Xq #[.val (.ref ea), .val (.int (Int32.ofNat na)), .val (.ref b1), .val (.ref ea), .val (.int (Int32.ofNat n)), .val (.int (Int32.ofNat i)), .val (.int (ev i))] own_d_prog_1_method_2_code_26 (own_st6 ho) ?_
    have hev_ := hev i (by omega)
    refine own_aload Xq own_d_prog_1_method_2_code_28 rfl ?_
    refine own_iload Xq own_d_prog_1_method_2_code_29 rfl ?_
    refine own_ipush Xq own_d_prog_1_method_2_code_31 ?_
    refine own_iadd Xq own_d_prog_1_method_2_code_32 ?_
    refine own_dup2 Xq own_d_prog_1_method_2_code_33 ?_
    refine own_ialoadF Xq Vcq (i := (kv i + 1)) (own_idx_add hev_.1 (n := 1) ⟨by decide, by decide⟩ (by omega)) (by omega) rfl own_d_prog_1_method_2_code_34 ?_
    refine own_ipush Xq own_d_prog_1_method_2_code_35 ?_
    refine own_iadd Xq own_d_prog_1_method_2_code_36 ?_
    refine own_iastoreF Xq Vcq ga_b1 (i := (kv i + 1)) (own_idx_add hev_.1 (n := 1) ⟨by decide, by decide⟩ (by omega)) (by omega) own_d_prog_1_method_2_code_37 ?_
    intro T5 h5 X5 W5 V5
    have K5 : Keep h0 h5 [] := Kq.wr W5 (Or.inr sz_b1)
    replace V5 : own_AF Z h5 b1 .int (na + 1) (own_up (fun j => .int (Int32.ofNat (own_cn kv i j))) (kv i + 1) (.int ((Int32.ofNat (own_cn kv i (kv i + 1))) + (1 : Int32)))) := V5
    have F6_ea : own_AF Z h5 ea .int n (fun j => .int (ev j)) := Veq.other W5 (Ne.symm (Ne.symm ne_ea_b1))
    rw [own_succ, own_up_cn] at V5
    refine own_iinc X5 #[.val (.ref ea), .val (.int (Int32.ofNat na)), .val (.ref b1), .val (.ref ea), .val (.int (Int32.ofNat n)), .val (.int ((Int32.ofNat i) + (1 : Int32))), .val (.int (ev i))] own_d_prog_1_method_2_code_38 rfl rfl ?_
    refine own_goto X5 own_d_prog_1_method_2_code_41 ?_
    rw [own_succ]
    exact ih (i + 1) _ _ _ (by omega) (One.val rfl) X5 F6_ea V5 K5
set_option maxRecDepth 65536 in
set_option maxHeartbeats 40000000 in
theorem own_below (l : Launch) (Z : State) (a0 : Array Value) (hw : ∀ d ∈ tables_1, d.before a0 Z = true) (pa : Int32) (n p_ k0 k1 k2 k3 : Nat) (x0 x1 x2 x3 : Int32) (h0 : Heap) (n0 : Nat) (Z0 : n0 ≤ h0.size) (hn : n < 5) (hp : own_idx pa p_) (hk0 : own_idx x0 k0) (hk1 : own_idx x1 k1) (hk2 : own_idx x2 k2) (hk3 : own_idx x3 k3) :
    own_Con l Z n0 (⟨"com/example/tideline/tideline/ArrivalOrderStartsPinLaw", "below", "(IIIIII)I"⟩ : MethodName) method_5_code 7 (some .int) ({ frames := 0, cells := 0, slots := 0, locals := 0 } : Room) [] #[(.int pa), (.int (Int32.ofNat n)), (.int x0), (.int x1), (.int x2), (.int x3)] h0 (fun v h' => v = some (.int (Int32.ofNat (own_lw (fun j => ([k0, k1, k2, k3] : List Nat).getD j 0) n p_))) ∧ h' = h0) := by
  refine own_enter (plainFor_of_name own_pn_com_example_tideline_tideline_ArrivalOrderStartsPinLaw) Z0 #[.val (.int pa), .val (.int (Int32.ofNat n)), .val (.int x0), .val (.int x1), .val (.int x2), .val (.int x3), .unset] (fun m => by first | (simp [entryFrame, mkF, argsToLocals, Value.category]; done) | rfl) ?_
  intro p e s m below meth c T A X0 hret hnm fin
  have hn_ : own_idx (Int32.ofNat n) n := own_idx_nat (by omega)
  refine own_ipush X0 own_d_method_5_code_0 ?_
  refine own_istore X0 #[.val (.int pa), .val (.int (Int32.ofNat n)), .val (.int x0), .val (.int x1), .val (.int x2), .val (.int x3), .val (.int (0 : Int32))] own_d_method_5_code_1 rfl ?_
  refine own_iload X0 own_d_method_5_code_3 rfl ?_
  suffices J1 : ∀ m1 : Nat, m1 = own_lw (fun j => ([k0, k1, k2, k3] : List Nat).getD j 0) (min n 1) p_ → own_Wins p e below A T (mkF m 15 #[.val (.int pa), .val (.int (Int32.ofNat n)), .val (.int x0), .val (.int x1), .val (.int x2), .val (.int x3), .val (.int (Int32.ofNat m1))] []) by
    by_cases c0 : (0 : Int32) < (Int32.ofNat n)
    · skip
      refine own_ifNo X0 own_d_method_5_code_4 ((if0 _ _).trans (tlt c0).2.2.2) ?_
      have l0 : 0 < n := (own_idx_lt (m := 0) ⟨by decide, by decide⟩ hn_).mp c0
      refine own_iload X0 own_d_method_5_code_7 rfl ?_
      refine own_iload X0 own_d_method_5_code_8 rfl ?_
      by_cases d0 : x0 < pa
      · skip
        refine own_icNo X0 own_d_method_5_code_9 (tlt d0).2.1 ?_
        refine own_iinc X0 #[.val (.int pa), .val (.int (Int32.ofNat n)), .val (.int x0), .val (.int x1), .val (.int x2), .val (.int x3), .val (.int (1 : Int32))] own_d_method_5_code_12 rfl rfl ?_
        exact J1 (0 + 1) (by rw [show min n 1 = 0 + 1 by omega]; show _ = own_lw _ 0 p_ + (if k0 < p_ then 1 else 0); rw [if_pos ((own_idx_lt hk0 hp).mp d0)]; rfl)
      · skip
        refine own_icYes X0 own_d_method_5_code_9 (flt d0).2.1 ?_
        exact J1 0 (by rw [show min n 1 = 0 + 1 by omega]; show _ = own_lw _ 0 p_ + (if k0 < p_ then 1 else 0); rw [if_neg (mt (own_idx_lt hk0 hp).mpr d0)]; rfl)
    · skip
      refine own_ifYes X0 own_d_method_5_code_4 ((if0 _ _).trans (flt c0).2.2.2) ?_
      have l0 : ¬ 0 < n := mt (own_idx_lt (m := 0) ⟨by decide, by decide⟩ hn_).mpr c0
      exact J1 0 (by rw [show min n 1 = 0 by omega]; rfl)
  intro m1 hm1
  refine own_iload X0 own_d_method_5_code_15 rfl ?_
  refine own_ipush X0 own_d_method_5_code_16 ?_
  suffices J2 : ∀ m2 : Nat, m2 = own_lw (fun j => ([k0, k1, k2, k3] : List Nat).getD j 0) (min n 2) p_ → own_Wins p e below A T (mkF m 28 #[.val (.int pa), .val (.int (Int32.ofNat n)), .val (.int x0), .val (.int x1), .val (.int x2), .val (.int x3), .val (.int (Int32.ofNat m2))] []) by
    by_cases c1 : (1 : Int32) < (Int32.ofNat n)
    · skip
      refine own_icNo X0 own_d_method_5_code_17 (tlt c1).2.2.2 ?_
      have l1 : 1 < n := (own_idx_lt (m := 1) ⟨by decide, by decide⟩ hn_).mp c1
      refine own_iload X0 own_d_method_5_code_20 rfl ?_
      refine own_iload X0 own_d_method_5_code_21 rfl ?_
      by_cases d1 : x1 < pa
      · skip
        refine own_icNo X0 own_d_method_5_code_22 (tlt d1).2.1 ?_
        refine own_iinc X0 #[.val (.int pa), .val (.int (Int32.ofNat n)), .val (.int x0), .val (.int x1), .val (.int x2), .val (.int x3), .val (.int ((Int32.ofNat m1) + (1 : Int32)))] own_d_method_5_code_25 rfl rfl ?_
        rw [own_succ]; exact J2 (m1 + 1) (by rw [show min n 2 = 1 + 1 by omega]; show _ = own_lw _ 1 p_ + (if k1 < p_ then 1 else 0); rw [if_pos ((own_idx_lt hk1 hp).mp d1), hm1, show min n 1 = 1 by omega])
      · skip
        refine own_icYes X0 own_d_method_5_code_22 (flt d1).2.1 ?_
        exact J2 m1 (by rw [show min n 2 = 1 + 1 by omega]; show _ = own_lw _ 1 p_ + (if k1 < p_ then 1 else 0); rw [if_neg (mt (own_idx_lt hk1 hp).mpr d1), hm1, show min n 1 = 1 by omega]; rfl)
    · skip
      refine own_icYes X0 own_d_method_5_code_17 (flt c1).2.2.2 ?_
      have l1 : ¬ 1 < n := mt (own_idx_lt (m := 1) ⟨by decide, by decide⟩ hn_).mpr c1
      exact J2 m1 (by rw [show min n 2 = min n 1 by omega]; exact hm1)
  intro m2 hm2
  refine own_iload X0 own_d_method_5_code_28 rfl ?_
  refine own_ipush X0 own_d_method_5_code_29 ?_
  suffices J3 : ∀ m3 : Nat, m3 = own_lw (fun j => ([k0, k1, k2, k3] : List Nat).getD j 0) (min n 3) p_ → own_Wins p e below A T (mkF m 42 #[.val (.int pa), .val (.int (Int32.ofNat n)), .val (.int x0), .val (.int x1), .val (.int x2), .val (.int x3), .val (.int (Int32.ofNat m3))] []) by
    by_cases c2 : (2 : Int32) < (Int32.ofNat n)
    · skip
      refine own_icNo X0 own_d_method_5_code_30 (tlt c2).2.2.2 ?_
      have l2 : 2 < n := (own_idx_lt (m := 2) ⟨by decide, by decide⟩ hn_).mp c2
      refine own_iload X0 own_d_method_5_code_33 rfl ?_
      refine own_iload X0 own_d_method_5_code_35 rfl ?_
      by_cases d2 : x2 < pa
      · skip
        refine own_icNo X0 own_d_method_5_code_36 (tlt d2).2.1 ?_
        refine own_iinc X0 #[.val (.int pa), .val (.int (Int32.ofNat n)), .val (.int x0), .val (.int x1), .val (.int x2), .val (.int x3), .val (.int ((Int32.ofNat m2) + (1 : Int32)))] own_d_method_5_code_39 rfl rfl ?_
        rw [own_succ]; exact J3 (m2 + 1) (by rw [show min n 3 = 2 + 1 by omega]; show _ = own_lw _ 2 p_ + (if k2 < p_ then 1 else 0); rw [if_pos ((own_idx_lt hk2 hp).mp d2), hm2, show min n 2 = 2 by omega])
      · skip
        refine own_icYes X0 own_d_method_5_code_36 (flt d2).2.1 ?_
        exact J3 m2 (by rw [show min n 3 = 2 + 1 by omega]; show _ = own_lw _ 2 p_ + (if k2 < p_ then 1 else 0); rw [if_neg (mt (own_idx_lt hk2 hp).mpr d2), hm2, show min n 2 = 2 by omega]; rfl)
    · skip
      refine own_icYes X0 own_d_method_5_code_30 (flt c2).2.2.2 ?_
      have l2 : ¬ 2 < n := mt (own_idx_lt (m := 2) ⟨by decide, by decide⟩ hn_).mpr c2
      exact J3 m2 (by rw [show min n 3 = min n 2 by omega]; exact hm2)
  intro m3 hm3
  refine own_iload X0 own_d_method_5_code_42 rfl ?_
  refine own_ipush X0 own_d_method_5_code_43 ?_
  suffices J4 : ∀ m4 : Nat, m4 = own_lw (fun j => ([k0, k1, k2, k3] : List Nat).getD j 0) (min n 4) p_ → own_Wins p e below A T (mkF m 56 #[.val (.int pa), .val (.int (Int32.ofNat n)), .val (.int x0), .val (.int x1), .val (.int x2), .val (.int x3), .val (.int (Int32.ofNat m4))] []) by
    by_cases c3 : (3 : Int32) < (Int32.ofNat n)
    · skip
      refine own_icNo X0 own_d_method_5_code_44 (tlt c3).2.2.2 ?_
      have l3 : 3 < n := (own_idx_lt (m := 3) ⟨by decide, by decide⟩ hn_).mp c3
      refine own_iload X0 own_d_method_5_code_47 rfl ?_
      refine own_iload X0 own_d_method_5_code_49 rfl ?_
      by_cases d3 : x3 < pa
      · skip
        refine own_icNo X0 own_d_method_5_code_50 (tlt d3).2.1 ?_
        refine own_iinc X0 #[.val (.int pa), .val (.int (Int32.ofNat n)), .val (.int x0), .val (.int x1), .val (.int x2), .val (.int x3), .val (.int ((Int32.ofNat m3) + (1 : Int32)))] own_d_method_5_code_53 rfl rfl ?_
        rw [own_succ]; exact J4 (m3 + 1) (by rw [show min n 4 = 3 + 1 by omega]; show _ = own_lw _ 3 p_ + (if k3 < p_ then 1 else 0); rw [if_pos ((own_idx_lt hk3 hp).mp d3), hm3, show min n 3 = 3 by omega])
      · skip
        refine own_icYes X0 own_d_method_5_code_50 (flt d3).2.1 ?_
        exact J4 m3 (by rw [show min n 4 = 3 + 1 by omega]; show _ = own_lw _ 3 p_ + (if k3 < p_ then 1 else 0); rw [if_neg (mt (own_idx_lt hk3 hp).mpr d3), hm3, show min n 3 = 3 by omega]; rfl)
    · skip
      refine own_icYes X0 own_d_method_5_code_44 (flt c3).2.2.2 ?_
      have l3 : ¬ 3 < n := mt (own_idx_lt (m := 3) ⟨by decide, by decide⟩ hn_).mpr c3
      exact J4 m3 (by rw [show min n 4 = min n 3 by omega]; exact hm3)
  intro m4 hm4
  refine own_iload X0 own_d_method_5_code_56 rfl ?_
  exact own_retI X0 hret fin (by decide) (by decide) ⟨by rw [hm4, show min n 4 = n by omega], rfl⟩ own_d_method_5_code_58
set_option maxRecDepth 65536 in
set_option maxHeartbeats 40000000 in
theorem own_check (l : Launch) (Z : State) (a0 : Array Value) (hw : ∀ d ∈ tables_1, d.before a0 Z = true) (a : Addr) (pa : Int32) (n na p_ k0 k1 k2 k3 : Nat) (x0 x1 x2 x3 : Int32) (h0 : Heap) (n0 : Nat) (Z0 : n0 ≤ h0.size) (hn : n < 5) (hna : na < 5) (hp : own_idx pa p_) (hk0 : own_idx x0 k0) (hk1 : own_idx x1 k1) (hk2 : own_idx x2 k2) (hk3 : own_idx x3 k3) (V : own_AF Z h0 a .int (na + 1) (fun j => .int (Int32.ofNat (own_ps (fun j => ([k0, k1, k2, k3] : List Nat).getD j 0) n na j)))) :
    own_Con l Z n0 (⟨"com/example/tideline/tideline/ArrivalOrderStartsPinLaw", "check", "([IIIIIII)Z"⟩ : MethodName) method_4_code 7 (some .boolean) ({ frames := 1, cells := 0, slots := 0, locals := 19 } : Room) [] #[(.ref a), (.int pa), (.int (Int32.ofNat n)), (.int x0), (.int x1), (.int x2), (.int x3)] h0 (fun v h' => v = some (.int 1) ∧ h' = h0) := by
  refine own_enter (plainFor_of_name own_pn_com_example_tideline_tideline_ArrivalOrderStartsPinLaw) Z0 #[.val (.ref a), .val (.int pa), .val (.int (Int32.ofNat n)), .val (.int x0), .val (.int x1), .val (.int x2), .val (.int x3)] (fun m => by first | (simp [entryFrame, mkF, argsToLocals, Value.category]; done) | rfl) ?_
  intro p e s m below meth c T A X0 hret hnm fin
  have hna_ : own_idx (Int32.ofNat (na + 1)) (na + 1) := own_idx_nat (by omega)
  refine own_iload X0 own_d_method_4_code_0 rfl ?_
  refine own_aload X0 own_d_method_4_code_1 rfl ?_
  refine own_alenF X0 V own_d_method_4_code_2 ?_
  by_cases c1 : pa < (Int32.ofNat (na + 1))
  · skip
    refine own_icYes X0 own_d_method_4_code_3 (tlt c1).1 ?_
    refine own_aload X0 own_d_method_4_code_8 rfl ?_
    refine own_iload X0 own_d_method_4_code_9 rfl ?_
    refine own_ialoadF X0 V (i := p_) hp ((own_idx_lt hp hna_).mp c1) rfl own_d_method_4_code_10 ?_
    refine own_iload X0 own_d_method_4_code_11 rfl ?_
    refine own_iload X0 own_d_method_4_code_12 rfl ?_
    refine own_iload X0 own_d_method_4_code_13 rfl ?_
    refine own_iload X0 own_d_method_4_code_14 rfl ?_
    refine own_iload X0 own_d_method_4_code_16 rfl ?_
    refine own_iload X0 own_d_method_4_code_18 rfl ?_
    refine own_callS X0 (y := (⟨"com/example/tideline/tideline/ArrivalOrderStartsPinLaw", "below", "(IIIIII)I"⟩ : MethodName)) [(.int pa), (.int (Int32.ofNat n)), (.int x0), (.int x1), (.int x2), (.int x3)] [(.int (Int32.ofNat (own_ps (fun j => ([k0, k1, k2, k3] : List Nat).getD j 0) n na p_)))] 1 rfl (hw _ (List.mem_of_getElem? (i := 17) rfl)) (hw _ (List.mem_of_getElem? (i := 18) rfl)) (hw _ (List.mem_of_getElem? (i := 7) rfl)) (hw _ (List.mem_of_getElem? (i := 19) rfl)) (by decide) (own_below l Z a0 hw pa n p_ k0 k1 k2 k3 x0 x1 x2 x3 h0 n0 X0.sz hn hp hk0 hk1 hk2 hk3) own_d_method_4_code_20 own_pd__IIIIII_I rfl rfl (by show 2 * 0 + _ ≤ _; exact Nat.le_of_eq rfl) (by decide) (by decide) (by decide) (by decide) ?_
    intro T1 h1 v1 X1 P1
    obtain ⟨rfl, eh1⟩ := P1
    rw [eh1] at X1
    show own_Wins p e below A T1 (mkF m 23 #[.val (.ref a), .val (.int pa), .val (.int (Int32.ofNat n)), .val (.int x0), .val (.int x1), .val (.int x2), .val (.int x3)] [(.int (Int32.ofNat (own_lw (fun j => ([k0, k1, k2, k3] : List Nat).getD j 0) n p_))), (.int (Int32.ofNat (own_ps (fun j => ([k0, k1, k2, k3] : List Nat).getD j 0) n na p_)))])
    have heq : Int32.ofNat (own_ps (fun j => ([k0, k1, k2, k3] : List Nat).getD j 0) n na p_) = Int32.ofNat (own_lw (fun j => ([k0, k1, k2, k3] : List Nat).getD j 0) n p_) := by rw [own_ps_eq, if_pos (by have := (own_idx_lt hp hna_).mp c1; omega)]
    refine own_icNo X1 own_d_method_4_code_23 (teq heq).2 ?_
    refine own_ipush X1 own_d_method_4_code_26 ?_
    refine own_goto X1 own_d_method_4_code_27 ?_
    exact own_retZ X1 hret rfl fin (by decide) (by decide) ⟨rfl, rfl⟩ own_d_method_4_code_31
  · skip
    refine own_icNo X0 own_d_method_4_code_3 (flt c1).1 ?_
    refine own_ipush X0 own_d_method_4_code_6 ?_
    exact own_retZ X0 hret rfl fin (by decide) (by decide) ⟨rfl, rfl⟩ own_d_method_4_code_7
set_option maxRecDepth 65536 in
set_option maxHeartbeats 40000000 in
theorem own_law (l : Launch) (Z : State) (a0 : Array Value) (hw : ∀ d ∈ tables_1, d.before a0 Z = true) (i0 i1 i2 i3 i4 i5 : Int32) (h0 : Heap) (n0 : Nat) (Z0 : n0 ≤ h0.size)  :
    own_Con l Z n0 x code maxLocals ret room_1 tables_1 #[(.int i0), (.int i1), (.int i2), (.int i3), (.int i4), (.int i5)] h0 (fun v _ => v = some (.int 1)) := by
  refine own_enter (plainFor_of_name own_pn_com_example_tideline_tideline_ArrivalOrderStartsPinLaw) Z0 #[.val (.int i0), .val (.int i1), .val (.int i2), .val (.int i3), .val (.int i4), .val (.int i5), .unset, .unset, .unset, .unset, .unset, .unset, .unset, .unset, .unset] (fun m => by first | (simp [entryFrame, mkF, argsToLocals, Value.category, maxLocals]; done) | rfl) ?_
  intro p e s m below meth c T A X0 hret hnm fin
  refine own_iload X0 own_d_code_0 rfl ?_
  refine own_ipush X0 own_d_code_1 ?_
  refine own_iand X0 own_d_code_3 ?_
  refine own_ipush X0 own_d_code_4 ?_
  refine own_irem X0 own_d_code_5 (by decide) ?_
  generalize har : ((i0 &&& (7 : Int32)) % (5 : Int32)) = ar
  obtain ⟨na, lna, ar_⟩ := own_mask7 i0
  rw [har] at ar_
  obtain rfl := own_idx_val ar_
  refine own_istore X0 #[.val (.int i0), .val (.int i1), .val (.int i2), .val (.int i3), .val (.int i4), .val (.int i5), .val (.int (Int32.ofNat na)), .unset, .unset, .unset, .unset, .unset, .unset, .unset, .unset] own_d_code_6 rfl ?_
  refine own_iload X0 own_d_code_8 rfl ?_
  suffices J1 : ∀ nn : Int32, (∃ n, n < 5 ∧ own_idx nn n ∧ (na = 0 → n = 0)) → own_Wins p e below A T (mkF m 23 #[.val (.int i0), .val (.int i1), .val (.int i2), .val (.int i3), .val (.int i4), .val (.int i5), .val (.int (Int32.ofNat na)), .unset, .unset, .unset, .unset, .unset, .unset, .unset, .unset] [(.int nn)]) by
    by_cases c0 : (Int32.ofNat na) = (0 : Int32)
    · skip
      refine own_ifNo X0 own_d_code_10 ((if0 _ _).trans (teq c0).2) ?_
      refine own_ipush X0 own_d_code_13 ?_
      refine own_goto X0 own_d_code_14 ?_
      exact J1 _ ⟨0, by decide, ⟨by decide, by decide⟩, fun _ => rfl⟩
    · skip
      refine own_ifYes X0 own_d_code_10 ((if0 _ _).trans (feq c0).2) ?_
      refine own_iload X0 own_d_code_17 rfl ?_
      refine own_ipush X0 own_d_code_18 ?_
      refine own_iand X0 own_d_code_20 ?_
      refine own_ipush X0 own_d_code_21 ?_
      refine own_irem X0 own_d_code_22 (by decide) ?_
      exact J1 _ (by obtain ⟨k, h1, h2⟩ := own_mask7 i1; exact ⟨k, h1, h2, fun q => absurd ((own_idx_eq ar_ (n := 0) ⟨by decide, by decide⟩).mpr q) c0⟩)
  intro nn hnn
  obtain ⟨n, ln, nn_, hz⟩ := hnn
  obtain rfl := own_idx_val nn_
  refine own_istore X0 #[.val (.int i0), .val (.int i1), .val (.int i2), .val (.int i3), .val (.int i4), .val (.int i5), .val (.int (Int32.ofNat na)), .val (.int (Int32.ofNat n)), .unset, .unset, .unset, .unset, .unset, .unset, .unset] own_d_code_23 rfl ?_
  refine own_iload X0 own_d_code_25 rfl ?_
  refine own_ipush X0 own_d_code_27 ?_
  refine own_callS X0 (y := (⟨"java/lang/Math", "max", "(II)I"⟩ : MethodName)) [(.int (Int32.ofNat na)), (.int (1 : Int32))] [] 0 rfl (hw _ (List.mem_of_getElem? (i := 0) rfl)) (hw _ (List.mem_of_getElem? (i := 1) rfl)) (hw _ (List.mem_of_getElem? (i := 2) rfl)) (hw _ (List.mem_of_getElem? (i := 3) rfl)) (by decide) (own_max l Z a0 hw (Int32.ofNat na) (1 : Int32) h0 n0 X0.sz) own_d_code_28 own_pd__II_I rfl rfl (by show 2 * 0 + _ ≤ _; exact Nat.le_of_eq rfl) (by decide) (by decide) (by decide) (by decide) ?_
  intro T2 h2 v2 X2 P2
  obtain ⟨rfl, eh2⟩ := P2
  rw [eh2] at X2
  show own_Wins p e below A T2 (mkF m 31 #[.val (.int i0), .val (.int i1), .val (.int i2), .val (.int i3), .val (.int i4), .val (.int i5), .val (.int (Int32.ofNat na)), .val (.int (Int32.ofNat n)), .unset, .unset, .unset, .unset, .unset, .unset, .unset] [(.int (own_mx (Int32.ofNat na) (1 : Int32)))])
  generalize hmm : (own_mx (Int32.ofNat na) (1 : Int32)) = mm
  obtain ⟨M, hM, hM1, hMn⟩ : ∃ M, own_idx mm M ∧ 0 < M ∧ (0 < na → M = na) := by
    rw [← hmm, own_mx]
    split
    · rename_i q; have := (own_idx_lt ar_ (n := 1) ⟨by decide, by decide⟩).mp q; exact ⟨1, ⟨by decide, by decide⟩, by decide, fun h => by omega⟩
    · rename_i q; have := mt (own_idx_lt ar_ (n := 1) ⟨by decide, by decide⟩).mpr q; exact ⟨na, ar_, by omega, fun _ => rfl⟩
  have hm0 : mm ≠ 0 := fun q => by have := (own_idx_eq hM (n := 0) ⟨by decide, by decide⟩).mp q; omega
  refine own_istore X2 #[.val (.int i0), .val (.int i1), .val (.int i2), .val (.int i3), .val (.int i4), .val (.int i5), .val (.int (Int32.ofNat na)), .val (.int (Int32.ofNat n)), .val (.int mm), .unset, .unset, .unset, .unset, .unset, .unset] own_d_code_31 rfl ?_
  refine own_iload X2 own_d_code_33 rfl ?_
  refine own_ldc X2 (hw _ (List.mem_of_getElem? (i := 4) rfl)) own_d_code_34 ?_
  refine own_iand X2 own_d_code_36 ?_
  refine own_iload X2 own_d_code_37 rfl ?_
  refine own_irem X2 own_d_code_39 hm0 ?_
  generalize hx0 : ((i2 &&& (2147483647 : Int32)) % mm) = x0
  obtain ⟨k0, l0, hk0⟩ : ∃ k, k < M ∧ own_idx x0 k := by rw [← hx0]; exact own_mod_idx i2 mm M hM hM1
  refine own_istore X2 #[.val (.int i0), .val (.int i1), .val (.int i2), .val (.int i3), .val (.int i4), .val (.int i5), .val (.int (Int32.ofNat na)), .val (.int (Int32.ofNat n)), .val (.int mm), .val (.int x0), .unset, .unset, .unset, .unset, .unset] own_d_code_40 rfl ?_
  refine own_iload X2 own_d_code_42 rfl ?_
  refine own_ldc X2 (hw _ (List.mem_of_getElem? (i := 4) rfl)) own_d_code_43 ?_
  refine own_iand X2 own_d_code_45 ?_
  refine own_iload X2 own_d_code_46 rfl ?_
  refine own_irem X2 own_d_code_48 hm0 ?_
  generalize hx1 : ((i3 &&& (2147483647 : Int32)) % mm) = x1
  obtain ⟨k1, l1, hk1⟩ : ∃ k, k < M ∧ own_idx x1 k := by rw [← hx1]; exact own_mod_idx i3 mm M hM hM1
  refine own_istore X2 #[.val (.int i0), .val (.int i1), .val (.int i2), .val (.int i3), .val (.int i4), .val (.int i5), .val (.int (Int32.ofNat na)), .val (.int (Int32.ofNat n)), .val (.int mm), .val (.int x0), .val (.int x1), .unset, .unset, .unset, .unset] own_d_code_49 rfl ?_
  refine own_iload X2 own_d_code_51 rfl ?_
  refine own_ldc X2 (hw _ (List.mem_of_getElem? (i := 4) rfl)) own_d_code_53 ?_
  refine own_iand X2 own_d_code_55 ?_
  refine own_iload X2 own_d_code_56 rfl ?_
  refine own_irem X2 own_d_code_58 hm0 ?_
  generalize hx2 : ((i4 &&& (2147483647 : Int32)) % mm) = x2
  obtain ⟨k2, l2, hk2⟩ : ∃ k, k < M ∧ own_idx x2 k := by rw [← hx2]; exact own_mod_idx i4 mm M hM hM1
  refine own_istore X2 #[.val (.int i0), .val (.int i1), .val (.int i2), .val (.int i3), .val (.int i4), .val (.int i5), .val (.int (Int32.ofNat na)), .val (.int (Int32.ofNat n)), .val (.int mm), .val (.int x0), .val (.int x1), .val (.int x2), .unset, .unset, .unset] own_d_code_59 rfl ?_
  refine own_iload X2 own_d_code_61 rfl ?_
  refine own_ldc X2 (hw _ (List.mem_of_getElem? (i := 4) rfl)) own_d_code_63 ?_
  refine own_iand X2 own_d_code_65 ?_
  refine own_iload X2 own_d_code_66 rfl ?_
  refine own_irem X2 own_d_code_68 hm0 ?_
  generalize hx3 : ((i5 &&& (2147483647 : Int32)) % mm) = x3
  obtain ⟨k3, l3, hk3⟩ : ∃ k, k < M ∧ own_idx x3 k := by rw [← hx3]; exact own_mod_idx i5 mm M hM hM1
  refine own_istore X2 #[.val (.int i0), .val (.int i1), .val (.int i2), .val (.int i3), .val (.int i4), .val (.int i5), .val (.int (Int32.ofNat na)), .val (.int (Int32.ofNat n)), .val (.int mm), .val (.int x0), .val (.int x1), .val (.int x2), .val (.int x3), .unset, .unset] own_d_code_69 rfl ?_
  refine own_iload X2 own_d_code_71 rfl ?_
  refine own_iload X2 own_d_code_73 rfl ?_
  refine own_iload X2 own_d_code_75 rfl ?_
  refine own_iload X2 own_d_code_77 rfl ?_
  refine own_iload X2 own_d_code_79 rfl ?_
  refine own_callS X2 (y := (⟨"com/example/tideline/tideline/ArrivalOrderStartsPinLaw", "build", "(IIIII)[I"⟩ : MethodName)) [(.int (Int32.ofNat n)), (.int x0), (.int x1), (.int x2), (.int x3)] [] 0 rfl (hw _ (List.mem_of_getElem? (i := 5) rfl)) (hw _ (List.mem_of_getElem? (i := 6) rfl)) (hw _ (List.mem_of_getElem? (i := 7) rfl)) (hw _ (List.mem_of_getElem? (i := 8) rfl)) (by decide) (own_build l Z a0 hw n x0 x1 x2 x3 h0 n0 X2.sz ln) own_d_code_81 own_pd__IIIII__I rfl rfl (by show 2 * 0 + _ ≤ _; exact Nat.le_of_eq rfl) (by decide) (by decide) (by decide) (by decide) ?_
  intro T3 h3 v3 X3 P3
  obtain ⟨be, rfl, Kb, szb, gab, Vb⟩ := P3
  have Ve : own_AF Z h3 be .int n (fun j => .int ((fun j => ([x0, x1, x2, x3] : List Int32).getD j 0) j)) := (Vb.fn n (by simp; omega) (.int 0)).to (fun j hj => own_ev x0 x1 x2 x3 n j (by omega) hj)
  show own_Wins p e below A T3 (mkF m 84 #[.val (.int i0), .val (.int i1), .val (.int i2), .val (.int i3), .val (.int i4), .val (.int i5), .val (.int (Int32.ofNat na)), .val (.int (Int32.ofNat n)), .val (.int mm), .val (.int x0), .val (.int x1), .val (.int x2), .val (.int x3), .unset, .unset] [(.ref be)])
  refine own_astore X3 #[.val (.int i0), .val (.int i1), .val (.int i2), .val (.int i3), .val (.int i4), .val (.int i5), .val (.int (Int32.ofNat na)), .val (.int (Int32.ofNat n)), .val (.int mm), .val (.int x0), .val (.int x1), .val (.int x2), .val (.int x3), .val (.ref be), .unset] own_d_code_84 rfl ?_
  refine own_aload X3 own_d_code_86 rfl ?_
  refine own_iload X3 own_d_code_88 rfl ?_
  have hev : ∀ j, j < n → own_idx ((fun j => ([x0, x1, x2, x3] : List Int32).getD j 0) j) ((fun j => ([k0, k1, k2, k3] : List Nat).getD j 0) j) ∧ (fun j => ([k0, k1, k2, k3] : List Nat).getD j 0) j < na := by
    intro j hj
    have h1 : 0 < na := Nat.pos_of_ne_zero (fun q => by have := hz q; omega)
    have h2 := hMn h1
    match j, (show j < 4 by omega) with
    | 0, _ => exact ⟨hk0, by show k0 < na; omega⟩
    | 1, _ => exact ⟨hk1, by show k1 < na; omega⟩
    | 2, _ => exact ⟨hk2, by show k2 < na; omega⟩
    | 3, _ => exact ⟨hk3, by show k3 < na; omega⟩
  refine own_callS X3 (y := (⟨"com/example/tideline/tideline/ArrivalOrder", "starts", "([II)[I"⟩ : MethodName)) [(.ref be), (.int (Int32.ofNat na))] [] 0 rfl (hw _ (List.mem_of_getElem? (i := 10) rfl)) (hw _ (List.mem_of_getElem? (i := 11) rfl)) (hw _ (List.mem_of_getElem? (i := 12) rfl)) (hw _ (List.mem_of_getElem? (i := 13) rfl)) (by decide) (own_starts l Z a0 hw be na n (fun j => ([x0, x1, x2, x3] : List Int32).getD j 0) (fun j => ([k0, k1, k2, k3] : List Nat).getD j 0) h3 n0 X3.sz lna ln hev Ve) own_d_code_90 own_pd___II__I rfl rfl (by show 2 * 0 + _ ≤ _; exact Nat.le_of_eq rfl) (by decide) (by decide) (by decide) (by decide) ?_
  intro T4 h4 v4 X4 P4
  obtain ⟨bs, rfl, Ks, szs, gas, Vs⟩ := P4
  have Ve2 : own_AF Z h4 be .int n (fun j => .int ((fun j => ([x0, x1, x2, x3] : List Int32).getD j 0) j)) := Ve.keep Ks nin0
  show own_Wins p e below A T4 (mkF m 93 #[.val (.int i0), .val (.int i1), .val (.int i2), .val (.int i3), .val (.int i4), .val (.int i5), .val (.int (Int32.ofNat na)), .val (.int (Int32.ofNat n)), .val (.int mm), .val (.int x0), .val (.int x1), .val (.int x2), .val (.int x3), .val (.ref be), .unset] [(.ref bs)])
  refine own_astore X4 #[.val (.int i0), .val (.int i1), .val (.int i2), .val (.int i3), .val (.int i4), .val (.int i5), .val (.int (Int32.ofNat na)), .val (.int (Int32.ofNat n)), .val (.int mm), .val (.int x0), .val (.int x1), .val (.int x2), .val (.int x3), .val (.ref be), .val (.ref bs)] own_d_code_93 rfl ?_
  refine own_aload X4 own_d_code_95 rfl ?_
  refine own_alenF X4 Vs own_d_code_97 ?_
  refine own_iload X4 own_d_code_98 rfl ?_
  refine own_ipush X4 own_d_code_100 ?_
  refine own_iadd X4 own_d_code_101 ?_
  refine own_icYes X4 own_d_code_102 (teq (own_succ na).symm).1 ?_
  refine own_aload X4 own_d_code_107 rfl ?_
  refine own_alenF X4 Ve2 own_d_code_109 ?_
  refine own_iload X4 own_d_code_110 rfl ?_
  refine own_icYes X4 own_d_code_112 (teq rfl).1 ?_
  refine own_iload X4 own_d_code_117 rfl ?_
  suffices J5 : own_Wins p e below A T4 (mkF m 133 #[.val (.int i0), .val (.int i1), .val (.int i2), .val (.int i3), .val (.int i4), .val (.int i5), .val (.int (Int32.ofNat na)), .val (.int (Int32.ofNat n)), .val (.int mm), .val (.int x0), .val (.int x1), .val (.int x2), .val (.int x3), .val (.ref be), .val (.ref bs)] []) by
    by_cases c_0 : (0 : Int32) < (Int32.ofNat n)
    · skip
      refine own_ifNo X4 own_d_code_119 ((if0 _ _).trans (tlt c_0).2.2.2) ?_
      have l_ : 0 < n := (own_idx_lt (m := 0) ⟨by decide, by decide⟩ nn_).mp c_0
      refine own_aload X4 own_d_code_122 rfl ?_
      refine own_ipush X4 own_d_code_124 ?_
      refine own_ialoadF X4 Ve2 (i := 0) ⟨by decide, by decide⟩ l_ rfl own_d_code_125 ?_
      refine own_iload X4 own_d_code_126 rfl ?_
      refine own_icYes X4 own_d_code_128 (teq rfl).1 ?_
      exact J5
    · skip
      refine own_ifYes X4 own_d_code_119 ((if0 _ _).trans (flt c_0).2.2.2) ?_
      exact J5
  refine own_iload X4 own_d_code_133 rfl ?_
  refine own_ipush X4 own_d_code_135 ?_
  suffices J6 : own_Wins p e below A T4 (mkF m 150 #[.val (.int i0), .val (.int i1), .val (.int i2), .val (.int i3), .val (.int i4), .val (.int i5), .val (.int (Int32.ofNat na)), .val (.int (Int32.ofNat n)), .val (.int mm), .val (.int x0), .val (.int x1), .val (.int x2), .val (.int x3), .val (.ref be), .val (.ref bs)] []) by
    by_cases c_1 : (1 : Int32) < (Int32.ofNat n)
    · skip
      refine own_icNo X4 own_d_code_136 (tlt c_1).2.2.2 ?_
      have l_ : 1 < n := (own_idx_lt (m := 1) ⟨by decide, by decide⟩ nn_).mp c_1
      refine own_aload X4 own_d_code_139 rfl ?_
      refine own_ipush X4 own_d_code_141 ?_
      refine own_ialoadF X4 Ve2 (i := 1) ⟨by decide, by decide⟩ l_ rfl own_d_code_142 ?_
      refine own_iload X4 own_d_code_143 rfl ?_
      refine own_icYes X4 own_d_code_145 (teq rfl).1 ?_
      exact J6
    · skip
      refine own_icYes X4 own_d_code_136 (flt c_1).2.2.2 ?_
      exact J6
  refine own_iload X4 own_d_code_150 rfl ?_
  refine own_ipush X4 own_d_code_152 ?_
  suffices J7 : own_Wins p e below A T4 (mkF m 167 #[.val (.int i0), .val (.int i1), .val (.int i2), .val (.int i3), .val (.int i4), .val (.int i5), .val (.int (Int32.ofNat na)), .val (.int (Int32.ofNat n)), .val (.int mm), .val (.int x0), .val (.int x1), .val (.int x2), .val (.int x3), .val (.ref be), .val (.ref bs)] []) by
    by_cases c_2 : (2 : Int32) < (Int32.ofNat n)
    · skip
      refine own_icNo X4 own_d_code_153 (tlt c_2).2.2.2 ?_
      have l_ : 2 < n := (own_idx_lt (m := 2) ⟨by decide, by decide⟩ nn_).mp c_2
      refine own_aload X4 own_d_code_156 rfl ?_
      refine own_ipush X4 own_d_code_158 ?_
      refine own_ialoadF X4 Ve2 (i := 2) ⟨by decide, by decide⟩ l_ rfl own_d_code_159 ?_
      refine own_iload X4 own_d_code_160 rfl ?_
      refine own_icYes X4 own_d_code_162 (teq rfl).1 ?_
      exact J7
    · skip
      refine own_icYes X4 own_d_code_153 (flt c_2).2.2.2 ?_
      exact J7
  refine own_iload X4 own_d_code_167 rfl ?_
  refine own_ipush X4 own_d_code_169 ?_
  suffices J8 : own_Wins p e below A T4 (mkF m 184 #[.val (.int i0), .val (.int i1), .val (.int i2), .val (.int i3), .val (.int i4), .val (.int i5), .val (.int (Int32.ofNat na)), .val (.int (Int32.ofNat n)), .val (.int mm), .val (.int x0), .val (.int x1), .val (.int x2), .val (.int x3), .val (.ref be), .val (.ref bs)] []) by
    by_cases c_3 : (3 : Int32) < (Int32.ofNat n)
    · skip
      refine own_icNo X4 own_d_code_170 (tlt c_3).2.2.2 ?_
      have l_ : 3 < n := (own_idx_lt (m := 3) ⟨by decide, by decide⟩ nn_).mp c_3
      refine own_aload X4 own_d_code_173 rfl ?_
      refine own_ipush X4 own_d_code_175 ?_
      refine own_ialoadF X4 Ve2 (i := 3) ⟨by decide, by decide⟩ l_ rfl own_d_code_176 ?_
      refine own_iload X4 own_d_code_177 rfl ?_
      refine own_icYes X4 own_d_code_179 (teq rfl).1 ?_
      exact J8
    · skip
      refine own_icYes X4 own_d_code_170 (flt c_3).2.2.2 ?_
      exact J8
  refine own_aload X4 own_d_code_184 rfl ?_
  refine own_ipush X4 own_d_code_186 ?_
  refine own_iload X4 own_d_code_187 rfl ?_
  refine own_iload X4 own_d_code_189 rfl ?_
  refine own_iload X4 own_d_code_191 rfl ?_
  refine own_iload X4 own_d_code_193 rfl ?_
  refine own_iload X4 own_d_code_195 rfl ?_
  refine own_callS X4 (y := (⟨"com/example/tideline/tideline/ArrivalOrderStartsPinLaw", "check", "([IIIIIII)Z"⟩ : MethodName)) [(.ref bs), (.int (0 : Int32)), (.int (Int32.ofNat n)), (.int x0), (.int x1), (.int x2), (.int x3)] [] 0 rfl (hw _ (List.mem_of_getElem? (i := 14) rfl)) (hw _ (List.mem_of_getElem? (i := 15) rfl)) (hw _ (List.mem_of_getElem? (i := 7) rfl)) (hw _ (List.mem_of_getElem? (i := 16) rfl)) (by decide) (own_check l Z a0 hw bs (0 : Int32) n na 0 k0 k1 k2 k3 x0 x1 x2 x3 h4 n0 X4.sz ln lna ⟨by decide, by decide⟩ hk0 hk1 hk2 hk3 Vs) own_d_code_197 own_pd___IIIIIII_Z rfl rfl (by show 2 * 0 + _ ≤ _; exact Nat.le_of_eq rfl) (by decide) (by decide) (by decide) (by decide) ?_
  intro T9 h9 v9 X9 P9
  obtain ⟨rfl, eh9⟩ := P9
  rw [eh9] at X9
  show own_Wins p e below A T9 (mkF m 200 #[.val (.int i0), .val (.int i1), .val (.int i2), .val (.int i3), .val (.int i4), .val (.int i5), .val (.int (Int32.ofNat na)), .val (.int (Int32.ofNat n)), .val (.int mm), .val (.int x0), .val (.int x1), .val (.int x2), .val (.int x3), .val (.ref be), .val (.ref bs)] [(.int (1 : Int32))])
  refine own_ifNo X9 own_d_code_200 ((if0 _ _).trans (feq (by decide)).1) ?_
  refine own_aload X9 own_d_code_203 rfl ?_
  refine own_ipush X9 own_d_code_205 ?_
  refine own_iload X9 own_d_code_206 rfl ?_
  refine own_iload X9 own_d_code_208 rfl ?_
  refine own_iload X9 own_d_code_210 rfl ?_
  refine own_iload X9 own_d_code_212 rfl ?_
  refine own_iload X9 own_d_code_214 rfl ?_
  refine own_callS X9 (y := (⟨"com/example/tideline/tideline/ArrivalOrderStartsPinLaw", "check", "([IIIIIII)Z"⟩ : MethodName)) [(.ref bs), (.int (1 : Int32)), (.int (Int32.ofNat n)), (.int x0), (.int x1), (.int x2), (.int x3)] [] 0 rfl (hw _ (List.mem_of_getElem? (i := 14) rfl)) (hw _ (List.mem_of_getElem? (i := 15) rfl)) (hw _ (List.mem_of_getElem? (i := 7) rfl)) (hw _ (List.mem_of_getElem? (i := 16) rfl)) (by decide) (own_check l Z a0 hw bs (1 : Int32) n na 1 k0 k1 k2 k3 x0 x1 x2 x3 h4 n0 X9.sz ln lna ⟨by decide, by decide⟩ hk0 hk1 hk2 hk3 Vs) own_d_code_216 own_pd___IIIIIII_Z rfl rfl (by show 2 * 0 + _ ≤ _; exact Nat.le_of_eq rfl) (by decide) (by decide) (by decide) (by decide) ?_
  intro T10 h10 v10 X10 P10
  obtain ⟨rfl, eh10⟩ := P10
  rw [eh10] at X10
  show own_Wins p e below A T10 (mkF m 219 #[.val (.int i0), .val (.int i1), .val (.int i2), .val (.int i3), .val (.int i4), .val (.int i5), .val (.int (Int32.ofNat na)), .val (.int (Int32.ofNat n)), .val (.int mm), .val (.int x0), .val (.int x1), .val (.int x2), .val (.int x3), .val (.ref be), .val (.ref bs)] [(.int (1 : Int32))])
  refine own_ifNo X10 own_d_code_219 ((if0 _ _).trans (feq (by decide)).1) ?_
  refine own_aload X10 own_d_code_222 rfl ?_
  refine own_ipush X10 own_d_code_224 ?_
  refine own_iload X10 own_d_code_225 rfl ?_
  refine own_iload X10 own_d_code_227 rfl ?_
  refine own_iload X10 own_d_code_229 rfl ?_
  refine own_iload X10 own_d_code_231 rfl ?_
  refine own_iload X10 own_d_code_233 rfl ?_
  refine own_callS X10 (y := (⟨"com/example/tideline/tideline/ArrivalOrderStartsPinLaw", "check", "([IIIIIII)Z"⟩ : MethodName)) [(.ref bs), (.int (2 : Int32)), (.int (Int32.ofNat n)), (.int x0), (.int x1), (.int x2), (.int x3)] [] 0 rfl (hw _ (List.mem_of_getElem? (i := 14) rfl)) (hw _ (List.mem_of_getElem? (i := 15) rfl)) (hw _ (List.mem_of_getElem? (i := 7) rfl)) (hw _ (List.mem_of_getElem? (i := 16) rfl)) (by decide) (own_check l Z a0 hw bs (2 : Int32) n na 2 k0 k1 k2 k3 x0 x1 x2 x3 h4 n0 X10.sz ln lna ⟨by decide, by decide⟩ hk0 hk1 hk2 hk3 Vs) own_d_code_235 own_pd___IIIIIII_Z rfl rfl (by show 2 * 0 + _ ≤ _; exact Nat.le_of_eq rfl) (by decide) (by decide) (by decide) (by decide) ?_
  intro T11 h11 v11 X11 P11
  obtain ⟨rfl, eh11⟩ := P11
  rw [eh11] at X11
  show own_Wins p e below A T11 (mkF m 238 #[.val (.int i0), .val (.int i1), .val (.int i2), .val (.int i3), .val (.int i4), .val (.int i5), .val (.int (Int32.ofNat na)), .val (.int (Int32.ofNat n)), .val (.int mm), .val (.int x0), .val (.int x1), .val (.int x2), .val (.int x3), .val (.ref be), .val (.ref bs)] [(.int (1 : Int32))])
  refine own_ifNo X11 own_d_code_238 ((if0 _ _).trans (feq (by decide)).1) ?_
  refine own_aload X11 own_d_code_241 rfl ?_
  refine own_ipush X11 own_d_code_243 ?_
  refine own_iload X11 own_d_code_244 rfl ?_
  refine own_iload X11 own_d_code_246 rfl ?_
  refine own_iload X11 own_d_code_248 rfl ?_
  refine own_iload X11 own_d_code_250 rfl ?_
  refine own_iload X11 own_d_code_252 rfl ?_
  refine own_callS X11 (y := (⟨"com/example/tideline/tideline/ArrivalOrderStartsPinLaw", "check", "([IIIIIII)Z"⟩ : MethodName)) [(.ref bs), (.int (3 : Int32)), (.int (Int32.ofNat n)), (.int x0), (.int x1), (.int x2), (.int x3)] [] 0 rfl (hw _ (List.mem_of_getElem? (i := 14) rfl)) (hw _ (List.mem_of_getElem? (i := 15) rfl)) (hw _ (List.mem_of_getElem? (i := 7) rfl)) (hw _ (List.mem_of_getElem? (i := 16) rfl)) (by decide) (own_check l Z a0 hw bs (3 : Int32) n na 3 k0 k1 k2 k3 x0 x1 x2 x3 h4 n0 X11.sz ln lna ⟨by decide, by decide⟩ hk0 hk1 hk2 hk3 Vs) own_d_code_254 own_pd___IIIIIII_Z rfl rfl (by show 2 * 0 + _ ≤ _; exact Nat.le_of_eq rfl) (by decide) (by decide) (by decide) (by decide) ?_
  intro T12 h12 v12 X12 P12
  obtain ⟨rfl, eh12⟩ := P12
  rw [eh12] at X12
  show own_Wins p e below A T12 (mkF m 257 #[.val (.int i0), .val (.int i1), .val (.int i2), .val (.int i3), .val (.int i4), .val (.int i5), .val (.int (Int32.ofNat na)), .val (.int (Int32.ofNat n)), .val (.int mm), .val (.int x0), .val (.int x1), .val (.int x2), .val (.int x3), .val (.ref be), .val (.ref bs)] [(.int (1 : Int32))])
  refine own_ifNo X12 own_d_code_257 ((if0 _ _).trans (feq (by decide)).1) ?_
  refine own_aload X12 own_d_code_260 rfl ?_
  refine own_ipush X12 own_d_code_262 ?_
  refine own_iload X12 own_d_code_263 rfl ?_
  refine own_iload X12 own_d_code_265 rfl ?_
  refine own_iload X12 own_d_code_267 rfl ?_
  refine own_iload X12 own_d_code_269 rfl ?_
  refine own_iload X12 own_d_code_271 rfl ?_
  refine own_callS X12 (y := (⟨"com/example/tideline/tideline/ArrivalOrderStartsPinLaw", "check", "([IIIIIII)Z"⟩ : MethodName)) [(.ref bs), (.int (4 : Int32)), (.int (Int32.ofNat n)), (.int x0), (.int x1), (.int x2), (.int x3)] [] 0 rfl (hw _ (List.mem_of_getElem? (i := 14) rfl)) (hw _ (List.mem_of_getElem? (i := 15) rfl)) (hw _ (List.mem_of_getElem? (i := 7) rfl)) (hw _ (List.mem_of_getElem? (i := 16) rfl)) (by decide) (own_check l Z a0 hw bs (4 : Int32) n na 4 k0 k1 k2 k3 x0 x1 x2 x3 h4 n0 X12.sz ln lna ⟨by decide, by decide⟩ hk0 hk1 hk2 hk3 Vs) own_d_code_273 own_pd___IIIIIII_Z rfl rfl (by show 2 * 0 + _ ≤ _; exact Nat.le_of_eq rfl) (by decide) (by decide) (by decide) (by decide) ?_
  intro T13 h13 v13 X13 P13
  obtain ⟨rfl, eh13⟩ := P13
  rw [eh13] at X13
  show own_Wins p e below A T13 (mkF m 276 #[.val (.int i0), .val (.int i1), .val (.int i2), .val (.int i3), .val (.int i4), .val (.int i5), .val (.int (Int32.ofNat na)), .val (.int (Int32.ofNat n)), .val (.int mm), .val (.int x0), .val (.int x1), .val (.int x2), .val (.int x3), .val (.ref be), .val (.ref bs)] [(.int (1 : Int32))])
  refine own_ifNo X13 own_d_code_276 ((if0 _ _).trans (feq (by decide)).1) ?_
  refine own_ipush X13 own_d_code_279 ?_
  refine own_goto X13 own_d_code_280 ?_
  exact own_retZ X13 hret rfl fin (by decide) (by decide) rfl own_d_code_284
set_option maxRecDepth 65536 in
set_option maxHeartbeats 40000000 in
theorem own_comes {Post : Tables → Env → Array Value → State → Outcome → State → Prop} (hpost : ∀ tb e args s v u, (limb_1_1.after args s (.returned v) u = true ∧ limb_1_2.after args s (.returned v) u = true) → FrameEnd s (.returned v) u (Jvm.fieldLocs frame_1_writes args s ++ Jvm.arrayLocs frame_1_arrays args s ++ Jvm.staticLocs frame_1_statics s) 16 128 → Post tb e args s (.returned v) u) :
    ArmFor flags0 classFile x code maxLocals ret World_1 tables_1 room_1 Calls_1 rest_1 Pre_1 Post := by
  intro l hfl _ _ p e ha hc hk s m args below hf hA hF happ hP
  obtain ⟨hcalls, hrest, hpre⟩ := hP
  obtain ⟨-, -, -, hnamed, -, -, -, hat⟩ := (Spec.applies_iff hf).mp happ
  obtain ⟨hg, hn⟩ := and_e (Cond.before_iff.mp (show (Jvm.Cond.and given_1 narrow_1).before args s = true from hpre))
  obtain ⟨gc, g0⟩ := and_e hg
  obtain ⟨q0, g1⟩ := and_e g0
  obtain ⟨q1, g2⟩ := and_e g1
  obtain ⟨q2, g3⟩ := and_e g2
  obtain ⟨q3, g4⟩ := and_e g3
  obtain ⟨q4, g5⟩ := and_e g4
  obtain ⟨w0, w1, w2, w3, w4, w5, rfl⟩ : ∃ w0 w1 w2 w3 w4 w5 : Value, args = #[w0, w1, w2, w3, w4, w5] := by
    have hs : args.size = 6 := by simpa [Cond.value, given_1] using gc
    obtain ⟨L⟩ := args
    match L, hs with
    | [w0, w1, w2, w3, w4, w5], _ => exact ⟨w0, w1, w2, w3, w4, w5, rfl⟩
  have hw := fun d (hd : d ∈ tables_1) => atoms_spec (ws := Jvm.Cond.code x code maxLocals ret :: tables_1) hat d (List.mem_cons_of_mem _ hd)
  obtain ⟨i0, ei0⟩ := is_v q0
  obtain rfl : w0 = (.int i0) := Option.some.inj ei0
  obtain ⟨i1, ei1⟩ := is_v q1
  obtain rfl : w1 = (.int i1) := Option.some.inj ei1
  obtain ⟨i2, ei2⟩ := is_v q2
  obtain rfl : w2 = (.int i2) := Option.some.inj ei2
  obtain ⟨i3, ei3⟩ := is_v q3
  obtain rfl : w3 = (.int i3) := Option.some.inj ei3
  obtain ⟨i4, ei4⟩ := is_v q4
  obtain rfl : w4 = (.int i4) := Option.some.inj ei4
  obtain ⟨i5, ei5⟩ := is_v g5
  obtain rfl : w5 = (.int i5) := Option.some.inj ei5
  obtain ⟨n, o, h1, h2, h3, _, L, rfl, ⟨N, -, rfl⟩, hq⟩ := own_law l s _ hw i0 i1 i2 i3 i4 i5 s.heap s.heap.size (Nat.le_refl _) p e ha hc hk s m _ below hf ((Spec.applies_iff_loose hf).mp happ).1 ⟨rfl, State.Warmed39.refl s, rfl⟩ trivial
  refine ⟨n, _, h1, h2, h3, hpost _ _ _ _ _ _ ⟨Cond.after_iff.mpr rfl, Cond.after_iff.mpr (eq_i res_at (Term.int_eval (1)) rfl)⟩ ⟨hq.1, hq.2.1, (hq.2.2.sift fun y hy => Or.inr (N y hy)).mono (by decide) (by decide)⟩⟩
theorem main_1_1 : Claimed_1_1 := own_comes fun _ _ _ _ _ _ h hF => ⟨h.1, hF⟩
theorem main_1_2 : Claimed_1_2 := own_comes fun _ _ _ _ _ _ h hF => ⟨h.2, hF⟩
end Jvm.Pilot.@@N@@
namespace Jvm.Pilot.@@N@@
open Jvm Jvm.ClassFile Sem Op Lib Jvm.Free Jvm.Stand Jvm.Pilot.@@N@@.Jvm.D
/-! MADE BY PROGRAM (witnessworld.py) out of the Statement's table words and the real class files: 10 classes; the members and pool entries that the words name. The judged class is class 1, her method 1. -/
namespace start1
open Jvm.ClassFile
def u (s : String) : CpInfo := .utf8 (stringToUtf16 s)
/-- a pool by its gaps: so many unusable entries, then the entry; so many at the end -/
def gap : Nat → List CpInfo → List CpInfo
  | 0, r => r
  | n + 1, r => .unusable :: gap n r
def poolList (es : List (Nat × CpInfo)) (last : Nat) : List CpInfo := es.foldr (fun e r => gap e.1 (e.2 :: r)) (gap last [])
def pool (es : List (Nat × CpInfo)) (last : Nat) : Array CpInfo := ⟨poolList es last⟩
def fileOf (pool : Array CpInfo) (this : Nat) (attrs : Array Attribute := #[]) (ms : Array MethodInfo := #[]) (fl : Nat := 33) (sup : Nat := 0) (ifs : Array Nat := #[]) (fds : Array FieldInfo := #[]) : ClassFile where
  minorVersion := 0
  majorVersion := 65
  constantPool := pool
  accessFlags := fl
  thisClass := this
  superClass := sup
  interfaces := ifs
  fields := fds
  methods := ms
  attributes := attrs
def plain (name : String) (sup : Option ClassId) : Class where
  name := name
  kind := .ordinary
  loader := none
  accessFlags := 33
  super := sup
  interfaces := #[]
  cf := none
  fields := #[]
  methods := #[]
  instanceTypes := #[]
  staticTypes := #[]
  resolved := #[]
  callSites := []
  init := .initialized
  statics := none
  mirror := none

def pool0 : Array CpInfo := pool [(5, u "<init>"), (0, u "()V"), (1, .class_ 10), (1, u "java/lang/Object")] 113

def k0m0 : Method := { name := "<init>", desc := "()V", sig := { parameters := [], returnType := none }, accessFlags := 1, code := none }
/-- java/lang/Object -/
def k0 : Class := { plain "java/lang/Object" none with
  accessFlags := 33
  interfaces := #[]
  cf := some (fileOf pool0 8 #[] #[{ accessFlags := 1, nameIndex := 5, descriptorIndex := 6, attributes := #[] }] 33 0 #[] #[])
  fields := #[]
  methods := #[k0m0]
  instanceTypes := #[]
  staticTypes := #[]
  resolved := Array.replicate 124 none
  statics := none }

def pool1 : Array CpInfo := pool [(2, .class_ 4), (1, u "java/lang/Object"), (0, u "<init>"), (0, u "()V"), (0, .methodref 8 9), (0, .class_ 10), (0, .nameAndType 11 12), (0, u "java/lang/Math"), (0, u "max"), (0, u "(II)I"), (0, .integer 2147483647), (0, .methodref 15 16), (0, .class_ 17), (0, .nameAndType 18 19), (0, u "com/example/tideline/tideline/ArrivalOrderStartsPinLaw"), (0, u "build"), (0, u "(IIIII)[I"), (0, .methodref 21 22), (0, .class_ 23), (0, .nameAndType 24 25), (0, u "com/example/tideline/tideline/ArrivalOrder"), (0, u "starts"), (0, u "([II)[I"), (0, .methodref 15 27), (0, .nameAndType 28 29), (0, u "check"), (0, u "([IIIIIII)Z"), (0, .methodref 15 31), (0, .nameAndType 32 33), (0, u "below"), (0, u "(IIIIII)I"), (2, u "law"), (0, u "(IIIIII)Z")] 5

def k1m0 : Method := { name := "<init>", desc := "()V", sig := { parameters := [], returnType := none }, accessFlags := 2, code := none }
def k1c1 : Code := { maxStack := 7, maxLocals := 15, code := code, exceptionTable := #[], attributes := #[] }
def k1m1 : Method := { name := "law", desc := "(IIIIII)Z", sig := { parameters := [.int, .int, .int, .int, .int, .int], returnType := some .boolean }, accessFlags := 9, code := some k1c1 }
def k1c2 : Code := { maxStack := 4, maxLocals := 5, code := method_3_code, exceptionTable := #[], attributes := #[] }
def k1m2 : Method := { name := "build", desc := "(IIIII)[I", sig := { parameters := [.int, .int, .int, .int, .int], returnType := some (.array .int) }, accessFlags := 10, code := some k1c2 }
def k1c3 : Code := { maxStack := 7, maxLocals := 7, code := method_4_code, exceptionTable := #[], attributes := #[] }
def k1m3 : Method := { name := "check", desc := "([IIIIIII)Z", sig := { parameters := [(.array .int), .int, .int, .int, .int, .int, .int], returnType := some .boolean }, accessFlags := 10, code := some k1c3 }
def k1c4 : Code := { maxStack := 2, maxLocals := 7, code := method_5_code, exceptionTable := #[], attributes := #[] }
def k1m4 : Method := { name := "below", desc := "(IIIIII)I", sig := { parameters := [.int, .int, .int, .int, .int, .int], returnType := some .int }, accessFlags := 10, code := some k1c4 }
/-- com/example/tideline/tideline/ArrivalOrderStartsPinLaw -/
def k1 : Class := { plain "com/example/tideline/tideline/ArrivalOrderStartsPinLaw" (some 0) with
  accessFlags := 49
  interfaces := #[]
  cf := some (fileOf pool1 15 #[] #[{ accessFlags := 2, nameIndex := 5, descriptorIndex := 6, attributes := #[] }, { accessFlags := 9, nameIndex := 36, descriptorIndex := 37, attributes := #[] }, { accessFlags := 10, nameIndex := 18, descriptorIndex := 19, attributes := #[] }, { accessFlags := 10, nameIndex := 28, descriptorIndex := 29, attributes := #[] }, { accessFlags := 10, nameIndex := 32, descriptorIndex := 33, attributes := #[] }] 49 2 #[] #[])
  fields := #[]
  methods := #[k1m0, k1m1, k1m2, k1m3, k1m4]
  instanceTypes := #[]
  staticTypes := #[]
  resolved := Array.replicate 43 none
  statics := none }

def pool2 : Array CpInfo := pool [(1, .class_ 2), (0, u "java/lang/Math"), (1, .class_ 6), (1, u "java/lang/Object"), (0, u "<init>"), (0, u "()V"), (89, .class_ 100), (1, u "java/lang/Math$RandomNumberGeneratorHolder"), (71, u "negativeZeroFloatBits"), (0, u "J"), (2, u "negativeZeroDoubleBits"), (21, u "max"), (46, u "$assertionsDisabled"), (0, u "Z"), (88, u "(II)I"), (2, u "twoToTheDoubleScaleDown"), (0, u "D"), (4, u "twoToTheDoubleScaleUp"), (9, u "E"), (3, u "PI"), (2, u "TAU"), (2, u "DEGREES_TO_RADIANS"), (0, u "RADIANS_TO_DEGREES")] 94

def k2m0 : Method := { name := "<init>", desc := "()V", sig := { parameters := [], returnType := none }, accessFlags := 2, code := none }
def k2c1 : Code := { maxStack := 2, maxLocals := 2, code := jdk_29_method_65_code, exceptionTable := #[], attributes := #[] }
def k2m1 : Method := { name := "max", desc := "(II)I", sig := { parameters := [.int, .int], returnType := some .int }, accessFlags := 9, code := some k2c1 }
/-- java/lang/Math -/
def k2 : Class := { plain "java/lang/Math" (some 0) with
  accessFlags := 49
  interfaces := #[]
  cf := some (fileOf pool2 1 #[.nestMembers #[98]] #[{ accessFlags := 2, nameIndex := 7, descriptorIndex := 8, attributes := #[] }, { accessFlags := 9, nameIndex := 198, descriptorIndex := 335, attributes := #[] }] 49 4 #[] #[{ accessFlags := 25, nameIndex := 354, descriptorIndex := 339, attributes := #[] }, { accessFlags := 25, nameIndex := 358, descriptorIndex := 339, attributes := #[] }, { accessFlags := 25, nameIndex := 361, descriptorIndex := 339, attributes := #[] }, { accessFlags := 26, nameIndex := 364, descriptorIndex := 339, attributes := #[] }, { accessFlags := 26, nameIndex := 365, descriptorIndex := 339, attributes := #[] }, { accessFlags := 26, nameIndex := 172, descriptorIndex := 173, attributes := #[] }, { accessFlags := 26, nameIndex := 176, descriptorIndex := 173, attributes := #[] }, { accessFlags := 8, nameIndex := 344, descriptorIndex := 339, attributes := #[] }, { accessFlags := 8, nameIndex := 338, descriptorIndex := 339, attributes := #[] }, { accessFlags := 4120, nameIndex := 245, descriptorIndex := 246, attributes := #[] }])
  fields := #[{ name := "E", type := .double, accessFlags := 25, slot := 0, constantValue := 0 }, { name := "PI", type := .double, accessFlags := 25, slot := 1, constantValue := 0 }, { name := "TAU", type := .double, accessFlags := 25, slot := 2, constantValue := 0 }, { name := "DEGREES_TO_RADIANS", type := .double, accessFlags := 26, slot := 3, constantValue := 0 }, { name := "RADIANS_TO_DEGREES", type := .double, accessFlags := 26, slot := 4, constantValue := 0 }, { name := "negativeZeroFloatBits", type := .long, accessFlags := 26, slot := 5, constantValue := 0 }, { name := "negativeZeroDoubleBits", type := .long, accessFlags := 26, slot := 6, constantValue := 0 }, { name := "twoToTheDoubleScaleUp", type := .double, accessFlags := 8, slot := 7, constantValue := 0 }, { name := "twoToTheDoubleScaleDown", type := .double, accessFlags := 8, slot := 8, constantValue := 0 }, { name := "$assertionsDisabled", type := .boolean, accessFlags := 4120, slot := 9, constantValue := 0 }]
  methods := #[k2m0, k2m1]
  instanceTypes := #[]
  staticTypes := #[.double, .double, .double, .double, .double, .long, .long, .double, .double, .boolean]
  resolved := Array.replicate 460 none
  statics := none }

def pool3 : Array CpInfo := pool [(2, .class_ 4), (1, u "java/lang/Object"), (0, u "<init>"), (0, u "()V"), (5, u "([II)[I"), (10, .class_ 24), (0, u "com/example/tideline/tideline/ArrivalOrder"), (2, u "starts")] 9

def k3m0 : Method := { name := "<init>", desc := "()V", sig := { parameters := [], returnType := none }, accessFlags := 2, code := none }
def k3c1 : Code := { maxStack := 5, maxLocals := 7, code := prog_1_method_2_code, exceptionTable := #[], attributes := #[] }
def k3m1 : Method := { name := "starts", desc := "([II)[I", sig := { parameters := [(.array .int), .int], returnType := some (.array .int) }, accessFlags := 8, code := some k3c1 }
/-- com/example/tideline/tideline/ArrivalOrder -/
def k3 : Class := { plain "com/example/tideline/tideline/ArrivalOrder" (some 0) with
  accessFlags := 48
  interfaces := #[]
  cf := some (fileOf pool3 23 #[] #[{ accessFlags := 2, nameIndex := 5, descriptorIndex := 6, attributes := #[] }, { accessFlags := 8, nameIndex := 27, descriptorIndex := 12, attributes := #[] }] 48 2 #[] #[])
  fields := #[]
  methods := #[k3m0, k3m1]
  instanceTypes := #[]
  staticTypes := #[]
  resolved := Array.replicate 37 none
  statics := none }

def pool4 : Array CpInfo := pool [(1, u "java/lang/Cloneable"), (0, .class_ 1), (0, u "java/lang/Object"), (0, .class_ 3)] 3

/-- java/lang/Cloneable -/
def k4 : Class := { plain "java/lang/Cloneable" (some 0) with
  accessFlags := 1537
  interfaces := #[]
  cf := some (fileOf pool4 2 #[] #[] 1537 4 #[] #[])
  fields := #[]
  methods := #[]
  instanceTypes := #[]
  staticTypes := #[]
  resolved := Array.replicate 8 none
  statics := none }

def pool5 : Array CpInfo := pool [(1, u "java/io/Serializable"), (0, .class_ 1), (0, u "java/lang/Object"), (0, .class_ 3)] 3

/-- java/io/Serializable -/
def k5 : Class := { plain "java/io/Serializable" (some 0) with
  accessFlags := 1537
  interfaces := #[]
  cf := some (fileOf pool5 2 #[] #[] 1537 4 #[] #[])
  fields := #[]
  methods := #[]
  instanceTypes := #[]
  staticTypes := #[]
  resolved := Array.replicate 8 none
  statics := none }

/-- the primitive byte -/
def k6 : Class := { plain "byte" none with kind := .primitive 'B', accessFlags := 0x411 }
/-- [B -/
def k7 : Class := { plain "[B" (some 0) with kind := .array 6 .byte, interfaces := #[4, 5], accessFlags := 1041 }

/-- the primitive int -/
def k8 : Class := { plain "int" none with kind := .primitive 'I', accessFlags := 0x411 }
/-- [I -/
def k9 : Class := { plain "[I" (some 0) with kind := .array 8 .int, interfaces := #[4, 5], accessFlags := 1041 }

def heap : Heap := #[]
def classes : Array Class := #[k0, k1, k2, k3, k4, k5, k6, k7, k8, k9]
def interned : List (Array UInt16 × Addr) := []
def slotsUsed : Nat := 0
def theMethod : MethodId := ⟨1, 1⟩
def args0 : Array Value := #[.int 5, .int 6, .int 7, .int 8, .int 9, .int 10]
def aboutOver (below : List Frame) : State where
  vm := { classes := classes, interned := interned.toArray }
  heap := heap
  slotsUsed := slotsUsed
  threads := #[{ frames := .invoking theMethod args0 :: below }]
def below0 : List Frame := [.native { method := ⟨0, 0⟩, args := #[] }]
def about1 : State := aboutOver below0
def p0 : Program := .bare "" "" ""
def e0 : Env := launch0.env 0 0 0
theorem w_frames : about1.frames = Frame.invoking theMethod args0 :: below0 := rfl
set_option maxRecDepth 65536 in
theorem w_args : argsFit about1.vm theMethod args0 = true := by decide +kernel
set_option maxRecDepth 65536 in
theorem w_heap : heapFits about1 = true := by decide +kernel
set_option maxRecDepth 65536 in
theorem w_runnable : about1.curStatus? = some .runnable := by decide +kernel
set_option maxRecDepth 65536 in
theorem w_alone : about1.alone = true := by decide +kernel
set_option maxRecDepth 65536 in
theorem w_named : about1.methodNamed? x = some theMethod := by decide +kernel
set_option maxRecDepth 65536 in
theorem w_hears : about1.hears theMethod below0 = true := by decide +kernel
set_option maxRecDepth 65536 in
theorem w_ripe : about1.ripe theMethod args0 below0 = true := by decide +kernel
theorem w_running : about1.status = .running := rfl
set_option maxRecDepth 65536 in
theorem w_room : about1.hasRoom e0.platform room_1 = true :=
  launch0.hasRoom_least _ room_1 (by decide +kernel) (by decide +kernel) (by decide +kernel) (by decide +kernel) (by decide +kernel) (by decide +kernel)
theorem allAtoms_all (ts : List Jvm.Cond) (a : Array Jvm.Value) (st : Jvm.State) : (allAtoms ts).before a st = ts.all (fun c => c.before a st) := by
  induction ts with
  | nil => rfl
  | cons c t ih =>
    show (Jvm.Cond.and c (allAtoms t)).before a st = _
    rw [Jvm.Cond.before_and, ih, List.all_cons]
def words1 : List Jvm.Cond := Jvm.Cond.code x code maxLocals ret :: tables_1
/-- a 'code' word, met by the world's own term for the bytes: nothing is compared byte by byte -/
theorem code_word {y : MethodName} {bytes : ByteArray} {mx : Nat} {rt : Option FieldType} {a : Array Value} {s : State} {m : MethodId} {meth : Method} {c : Code} (h1 : s.methodNamed? y = some m) (h2 : s.vm.method? m = some meth) (h3 : meth.code = some c) (h4 : c.code = bytes)
    (h5 : (c.maxLocals == mx && c.exceptionTable.isEmpty && decide (c.maxStack ≤ mostOperands) && decide (meth.sig.returnType = rt) && !meth.locks && decide (parseMethodDescriptor y.desc = some meth.sig)) = true) : (Jvm.Cond.code y bytes mx rt).before a s = true := by
  simp only [Bool.and_eq_true, beq_iff_eq, Bool.not_eq_true', decide_eq_true_eq] at h5
  obtain ⟨⟨⟨⟨⟨g1, g2⟩, g3⟩, g4⟩, g5⟩, g6⟩ := h5
  simp [Cond.before, Cond.holds, Cond.value, h1, h2, h3, h4, g1, g2, g3, g4, g5, g6]
def isCode : Jvm.Cond → Bool
  | .code _ _ _ _ => true
  | _ => false
theorem all_split {L : List Jvm.Cond} {P : Jvm.Cond → Bool} (h1 : L.all (fun c => isCode c || P c) = true) (h2 : ∀ c ∈ L.filter isCode, P c = true) : L.all P = true := by
  refine List.all_eq_true.mpr fun c hc => ?_
  have h := List.all_eq_true.mp h1 c hc
  rcases Bool.eq_false_or_eq_true (isCode c) with hi | hi
  · exact h2 c (List.mem_filter.mpr ⟨hc, hi⟩)
  · simpa [hi] using h
set_option maxRecDepth 65536 in
theorem w_c0 : (Jvm.Cond.code x code maxLocals ret).before args0 about1 = true := code_word (m := ⟨1, 1⟩) (meth := k1m1) (c := k1c1) (by decide +kernel) rfl rfl rfl (by decide +kernel)
set_option maxRecDepth 65536 in
theorem w_c1 : (Jvm.Cond.code ({ cls := "java/lang/Math", name := "max", desc := "(II)I" } : Jvm.MethodName) jdk_29_method_65_code (2 : Nat) (Option.some Jvm.ClassFile.FieldType.int)).before args0 about1 = true := code_word (m := ⟨2, 1⟩) (meth := k2m1) (c := k2c1) (by decide +kernel) rfl rfl rfl (by decide +kernel)
set_option maxRecDepth 65536 in
theorem w_c2 : (Jvm.Cond.code ({ cls := "com/example/tideline/tideline/ArrivalOrderStartsPinLaw", name := "build", desc := "(IIIII)[I" } : Jvm.MethodName) method_3_code (5 : Nat) (Option.some (Jvm.ClassFile.FieldType.array Jvm.ClassFile.FieldType.int))).before args0 about1 = true := code_word (m := ⟨1, 2⟩) (meth := k1m2) (c := k1c2) (by decide +kernel) rfl rfl rfl (by decide +kernel)
set_option maxRecDepth 65536 in
theorem w_c3 : (Jvm.Cond.code ({ cls := "com/example/tideline/tideline/ArrivalOrder", name := "starts", desc := "([II)[I" } : Jvm.MethodName) prog_1_method_2_code (7 : Nat) (Option.some (Jvm.ClassFile.FieldType.array Jvm.ClassFile.FieldType.int))).before args0 about1 = true := code_word (m := ⟨3, 1⟩) (meth := k3m1) (c := k3c1) (by decide +kernel) rfl rfl rfl (by decide +kernel)
set_option maxRecDepth 65536 in
theorem w_c4 : (Jvm.Cond.code ({ cls := "com/example/tideline/tideline/ArrivalOrderStartsPinLaw", name := "check", desc := "([IIIIIII)Z" } : Jvm.MethodName) method_4_code (7 : Nat) (Option.some Jvm.ClassFile.FieldType.boolean)).before args0 about1 = true := code_word (m := ⟨1, 3⟩) (meth := k1m3) (c := k1c3) (by decide +kernel) rfl rfl rfl (by decide +kernel)
set_option maxRecDepth 65536 in
theorem w_c5 : (Jvm.Cond.code ({ cls := "com/example/tideline/tideline/ArrivalOrderStartsPinLaw", name := "below", desc := "(IIIIII)I" } : Jvm.MethodName) method_5_code (7 : Nat) (Option.some Jvm.ClassFile.FieldType.int)).before args0 about1 = true := code_word (m := ⟨1, 4⟩) (meth := k1m4) (c := k1c4) (by decide +kernel) rfl rfl rfl (by decide +kernel)
def codes1 : List Jvm.Cond := [Jvm.Cond.code x code maxLocals ret, Jvm.Cond.code ({ cls := "java/lang/Math", name := "max", desc := "(II)I" } : Jvm.MethodName) jdk_29_method_65_code (2 : Nat) (Option.some Jvm.ClassFile.FieldType.int), Jvm.Cond.code ({ cls := "com/example/tideline/tideline/ArrivalOrderStartsPinLaw", name := "build", desc := "(IIIII)[I" } : Jvm.MethodName) method_3_code (5 : Nat) (Option.some (Jvm.ClassFile.FieldType.array Jvm.ClassFile.FieldType.int)), Jvm.Cond.code ({ cls := "com/example/tideline/tideline/ArrivalOrder", name := "starts", desc := "([II)[I" } : Jvm.MethodName) prog_1_method_2_code (7 : Nat) (Option.some (Jvm.ClassFile.FieldType.array Jvm.ClassFile.FieldType.int)), Jvm.Cond.code ({ cls := "com/example/tideline/tideline/ArrivalOrderStartsPinLaw", name := "check", desc := "([IIIIIII)Z" } : Jvm.MethodName) method_4_code (7 : Nat) (Option.some Jvm.ClassFile.FieldType.boolean), Jvm.Cond.code ({ cls := "com/example/tideline/tideline/ArrivalOrderStartsPinLaw", name := "below", desc := "(IIIIII)I" } : Jvm.MethodName) method_5_code (7 : Nat) (Option.some Jvm.ClassFile.FieldType.int)]
set_option maxRecDepth 65536 in
theorem codes_eq : words1.filter isCode = codes1 := rfl
theorem w_codes : ∀ c ∈ words1.filter isCode, c.before args0 about1 = true := by
  rw [codes_eq]
  intro c hc
  simp only [codes1, List.mem_cons, List.not_mem_nil, or_false] at hc
  rcases hc with rfl | rfl | rfl | rfl | rfl | rfl
  · exact w_c0
  · exact w_c1
  · exact w_c2
  · exact w_c3
  · exact w_c4
  · exact w_c5
set_option maxRecDepth 65536 in
theorem w_t1 : words1.all (fun c => isCode c || c.before args0 about1) = true := by decide +kernel
theorem w_tables : (allAtoms (Jvm.Cond.code x code maxLocals ret :: tables_1)).before args0 about1 = true := by
  rw [allAtoms_all]
  show words1.all (fun c => c.before args0 about1) = true
  refine all_split ?_ w_codes
  rw [w_t1]
set_option maxRecDepth 65536 in
theorem w_case : (Jvm.Cond.and given_1 narrow_1).before args0 about1 = true := by decide +kernel
theorem w_applies : (headSpec (Jvm.Cond.code x code maxLocals ret :: tables_1) room_1).applies x e0.platform about1 = true :=
  (Spec.applies_iff w_frames).mpr ⟨w_running, w_runnable, w_alone, w_named, w_hears, w_ripe, w_room, w_tables⟩
theorem atStart : AtStart classFile x code maxLocals ret World_1 tables_1 room_1 Calls_1 rest_1 Pre_1 launch0 p0 e0 about1 theMethod args0 below0 :=
  ⟨lists_1, trivial, launch0.admits_env _ _ _, launch0.least_env, fairChoices_fair.cas, fairChoices_fair.clock, w_frames, w_args, w_heap, w_applies, trivial, trivial, w_case⟩
end start1
theorem witness_1 : WitnessClaimed_1 := ⟨start1.p0, start1.e0, start1.about1, start1.theMethod, start1.args0, start1.below0, start1.atStart⟩
end Jvm.Pilot.@@N@@
