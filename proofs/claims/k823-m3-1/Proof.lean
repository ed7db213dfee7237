import JvmDerived
import JvmDerived.Pilot.@@N@@Statement
import JvmDerived.Pilot.@@N@@Code
set_option linter.unusedVariables false
set_option linter.unusedSimpArgs false
namespace Jvm.OwnK
open Jvm Sem ClassFile Op Lib Jvm.Stand Jvm.Free Jvm.LawKit Jvm.RoadKit
section A
variable {tabs : List Jvm.Cond} {a0 : Array Value} {Z : State} {own nm : String} {code : ByteArray} {ml : Nat} {ret : Option FieldType} {p : Program} {l : Launch} {e : Env} {R : Room} {s : State} {m : MethodId} {args : Array Value} {below : List Frame} {meth : Method} {c : Code} {n0 : Nat} {T : State} {h : Heap} {k n : Nat} {Q : Option Value → Heap → Prop} {G : Outcome → State → List Loc → Prop} {pc : Nat} {ls : Array Slot} {st : List Value}
/-- what stands fast through a method's walk -/
def Cx (tabs : List Jvm.Cond) (a0 : Array Value) (Z : State) (own nm : String) (code : ByteArray) (ml : Nat) (ret : Option FieldType) (p : Program) (s : State) (m : MethodId) (meth : Method) (c : Code) : Prop :=
  p.tables.exec = Jvm.exec ∧ Z.Warmed39 s.vm ∧ c.code = code ∧ c.maxLocals = ml ∧ s.vm.findClass own = some m.cls ∧ meth.sig.returnType = ret ∧ meth.locks = false ∧ meth.name = nm ∧ ∀ d ∈ tabs, d.before a0 Z = true
/-- where the walk stands: the heap h, k cells and n slots made so far, nothing below n0 written -/
def St (p : Program) (l : Launch) (e : Env) (R : Room) (s : State) (m : MethodId) (args : Array Value) (below : List Frame) (meth : Method) (c : Code) (n0 : Nat) (T : State) (h : Heap) (k n : Nat) : Prop :=
  ∃ locs, Stand p l e R s m args below meth c T locs k n ∧ T.heap = h ∧ Fr n0 locs ∧ n0 ≤ s.heap.size
/-- from this frame the method ends, and returns what Q says -/
def Run (p : Program) (e : Env) (below : List Frame) (n0 : Nat) (Q : Option Value → Heap → Prop) (G : Outcome → State → List Loc → Prop) (m : MethodId) (T : State) (pc : Nat) (ls : Array Slot) (st : List Value) : Prop :=
  ∃ s₂ o, Steps p.tables e below (T.setTop (mkF m pc ls st)) s₂ ∧ s₂.status = .running ∧ Ended s₂ below o ∧ ∃ v L, o = .returned v ∧ (Q v s₂.heap ∧ Fr n0 L) ∧ G o s₂ L
theorem Run.step {T' : State} {pc' : Nat} {ls' : Array Slot} {st' : List Value} (f : ∀ t, Steps p.tables e below (T'.setTop (mkF m pc' ls' st')) t → Steps p.tables e below (T.setTop (mkF m pc ls st)) t) (r : Run p e below n0 Q G m T' pc' ls' st') : Run p e below n0 Q G m T pc ls st := by
  obtain ⟨s₂, o, h1, h2⟩ := r
  exact ⟨s₂, o, f _ h1, h2⟩
theorem Run.steps {T' : State} {pc' : Nat} {ls' : Array Slot} {st' : List Value} (f : Steps p.tables e below (T.setTop (mkF m pc ls st)) (T'.setTop (mkF m pc' ls' st'))) (r : Run p e below n0 Q G m T' pc' ls' st') : Run p e below n0 Q G m T pc ls st := Run.step (fun _ q => f.trans q) r
theorem Run.cast {st' : List Value} (q : st = st') (r : Run p e below n0 Q G m T pc ls st') : Run p e below n0 Q G m T pc ls st := q ▸ r
theorem St.at' (X : St p l e R s m args below meth c n0 T h k n) : Jvm.At T m c below := by obtain ⟨_, X, -⟩ := X; exact X.here
theorem St.sz (X : St p l e R s m args below meth c n0 T h k n) : n0 ≤ h.size := by
  obtain ⟨_, X, rfl, -, q⟩ := X
  exact Nat.le_trans q X.same.2.1
theorem Cx.d {r : Except DecodeError (Instr × Nat)} (C : Cx tabs a0 Z own nm code ml ret p s m meth c) (q : decode code pc = r) : decode c.code pc = r := hb C.2.2.1 q
theorem Cx.w {d : Jvm.Cond} (C : Cx tabs a0 Z own nm code ml ret p s m meth c) (q : d ∈ tabs) : d.before a0 Z = true := C.2.2.2.2.2.2.2.2 d q
theorem s_iloadN (pc' : Nat) (C : Cx tabs a0 Z own nm code ml ret p s m meth c) (X : St p l e R s m args below meth c n0 T h k n) {i : Fin 4} {v : Int32} (hd : decode code pc = .ok (.iload_n i, 1)) (hl : ls[i.val]? = some (.val (.int v))) (r : Run p e below n0 Q G m T pc' ls (.int v :: st)) (hp : pc + 1 = pc' := by rfl) : Run p e below n0 Q G m T pc ls st := by
  subst hp
  exact Run.step (fun t q => XS.iloadN X.at' C.1 rfl (C.d hd) hl q) r
theorem s_iload (pc' : Nat) (C : Cx tabs a0 Z own nm code ml ret p s m meth c) (X : St p l e R s m args below meth c n0 T h k n) {i : Nat} {v : Int32} (hd : decode code pc = .ok (.iload i, 2)) (hl : ls[i]? = some (.val (.int v))) (r : Run p e below n0 Q G m T pc' ls (.int v :: st)) (hp : pc + 2 = pc' := by rfl) : Run p e below n0 Q G m T pc ls st := by
  subst hp
  exact Run.step (fun t q => XS.iload X.at' C.1 rfl (C.d hd) hl q) r
theorem s_lloadN (pc' : Nat) (C : Cx tabs a0 Z own nm code ml ret p s m meth c) (X : St p l e R s m args below meth c n0 T h k n) {i : Fin 4} {v : Int64} (hd : decode code pc = .ok (.lload_n i, 1)) (hl : ls[i.val]? = some (.val (.long v))) (r : Run p e below n0 Q G m T pc' ls (.long v :: st)) (hp : pc + 1 = pc' := by rfl) : Run p e below n0 Q G m T pc ls st := by
  subst hp
  exact Run.step (fun t q => XT.lloadN X.at' C.1 rfl (C.d hd) hl q) r
theorem s_lload (pc' : Nat) (C : Cx tabs a0 Z own nm code ml ret p s m meth c) (X : St p l e R s m args below meth c n0 T h k n) {i : Nat} {v : Int64} (hd : decode code pc = .ok (.lload i, 2)) (hl : ls[i]? = some (.val (.long v))) (r : Run p e below n0 Q G m T pc' ls (.long v :: st)) (hp : pc + 2 = pc' := by rfl) : Run p e below n0 Q G m T pc ls st := by
  subst hp
  exact Run.step (fun t q => XT.lload X.at' C.1 rfl (C.d hd) hl q) r
theorem s_aloadN (pc' : Nat) (C : Cx tabs a0 Z own nm code ml ret p s m meth c) (X : St p l e R s m args below meth c n0 T h k n) {i : Fin 4} {v : Value} (hd : decode code pc = .ok (.aload_n i, 1)) (hl : ls[i.val]? = some (.val v)) (hv : v.isRef = true) (r : Run p e below n0 Q G m T pc' ls (v :: st)) (hp : pc + 1 = pc' := by rfl) : Run p e below n0 Q G m T pc ls st := by
  subst hp
  exact Run.step (fun t q => XS.aloadN X.at' C.1 rfl (C.d hd) hl hv q) r
theorem s_aload (pc' : Nat) (C : Cx tabs a0 Z own nm code ml ret p s m meth c) (X : St p l e R s m args below meth c n0 T h k n) {i : Nat} {v : Value} (hd : decode code pc = .ok (.aload i, 2)) (hl : ls[i]? = some (.val v)) (hv : v.isRef = true) (r : Run p e below n0 Q G m T pc' ls (v :: st)) (hp : pc + 2 = pc' := by rfl) : Run p e below n0 Q G m T pc ls st := by
  subst hp
  exact Run.step (fun t q => XS.aload X.at' C.1 rfl (C.d hd) hl hv q) r
theorem s_istoreN (pc' : Nat) (C : Cx tabs a0 Z own nm code ml ret p s m meth c) (X : St p l e R s m args below meth c n0 T h k n) {i : Fin 4} {v : Int32} {l' : Array Slot} (hd : decode code pc = .ok (.istore_n i, 1)) (hl : storeLocals ls i.val (.int v) = some l') (r : Run p e below n0 Q G m T pc' l' st) (hp : pc + 1 = pc' := by rfl) : Run p e below n0 Q G m T pc ls (.int v :: st) := by
  subst hp
  exact Run.step (fun t q => XS.istoreN X.at' C.1 rfl (C.d hd) rfl hl q) r
theorem s_istore (pc' : Nat) (C : Cx tabs a0 Z own nm code ml ret p s m meth c) (X : St p l e R s m args below meth c n0 T h k n) {i : Nat} {v : Int32} {l' : Array Slot} (hd : decode code pc = .ok (.istore i, 2)) (hl : storeLocals ls i (.int v) = some l') (r : Run p e below n0 Q G m T pc' l' st) (hp : pc + 2 = pc' := by rfl) : Run p e below n0 Q G m T pc ls (.int v :: st) := by
  subst hp
  exact Run.step (fun t q => XS.istore X.at' C.1 rfl (C.d hd) rfl hl q) r
theorem s_lstoreN (pc' : Nat) (C : Cx tabs a0 Z own nm code ml ret p s m meth c) (X : St p l e R s m args below meth c n0 T h k n) {i : Fin 4} {v : Int64} {l' : Array Slot} (hd : decode code pc = .ok (.lstore_n i, 1)) (hl : storeLocals ls i.val (.long v) = some l') (r : Run p e below n0 Q G m T pc' l' st) (hp : pc + 1 = pc' := by rfl) : Run p e below n0 Q G m T pc ls (.long v :: st) := by
  subst hp
  exact Run.step (fun t q => XT.lstoreN X.at' C.1 rfl (C.d hd) rfl hl q) r
theorem s_lstore (pc' : Nat) (C : Cx tabs a0 Z own nm code ml ret p s m meth c) (X : St p l e R s m args below meth c n0 T h k n) {i : Nat} {v : Int64} {l' : Array Slot} (hd : decode code pc = .ok (.lstore i, 2)) (hl : storeLocals ls i (.long v) = some l') (r : Run p e below n0 Q G m T pc' l' st) (hp : pc + 2 = pc' := by rfl) : Run p e below n0 Q G m T pc ls (.long v :: st) := by
  subst hp
  exact Run.step (fun t q => XT.lstore X.at' C.1 rfl (C.d hd) rfl hl q) r
theorem s_astoreN (pc' : Nat) (C : Cx tabs a0 Z own nm code ml ret p s m meth c) (X : St p l e R s m args below meth c n0 T h k n) {i : Fin 4} {v : Value} {l' : Array Slot} (hd : decode code pc = .ok (.astore_n i, 1)) (hv : v.isRef = true) (hl : storeLocals ls i.val v = some l') (r : Run p e below n0 Q G m T pc' l' st) (hp : pc + 1 = pc' := by rfl) : Run p e below n0 Q G m T pc ls (v :: st) := by
  subst hp
  exact Run.step (fun t q => XS.astoreN X.at' C.1 rfl (C.d hd) rfl hv hl q) r
theorem s_astore (pc' : Nat) (C : Cx tabs a0 Z own nm code ml ret p s m meth c) (X : St p l e R s m args below meth c n0 T h k n) {i : Nat} {v : Value} {l' : Array Slot} (hd : decode code pc = .ok (.astore i, 2)) (hv : v.isRef = true) (hl : storeLocals ls i v = some l') (r : Run p e below n0 Q G m T pc' l' st) (hp : pc + 2 = pc' := by rfl) : Run p e below n0 Q G m T pc ls (v :: st) := by
  subst hp
  exact Run.step (fun t q => XS.astore X.at' C.1 rfl (C.d hd) rfl hv hl q) r
theorem s_iinc (pc' : Nat) (C : Cx tabs a0 Z own nm code ml ret p s m meth c) (X : St p l e R s m args below meth c n0 T h k n) {i : Nat} {cst : Int} {x z : Int32} {l' : Array Slot} (hd : decode code pc = .ok (.iinc i cst, 3)) (hz : Int32.ofInt cst = z) (hl : ls[i]? = some (.val (.int x))) (hl' : storeLocals ls i (.int (x + z)) = some l') (r : Run p e below n0 Q G m T pc' l' st) (hp : pc + 3 = pc' := by rfl) : Run p e below n0 Q G m T pc ls st := by
  subst hp
  exact Run.step (fun t q => XS.iinc X.at' C.1 rfl (C.d hd) hl (by rw [hz]; exact hl') q) r
theorem s_iconst (pc' : Nat) (C : Cx tabs a0 Z own nm code ml ret p s m meth c) (X : St p l e R s m args below meth c n0 T h k n) {i : Int} {z : Int32} (hd : decode code pc = .ok (.iconst i, 1)) (hz : Int32.ofInt i = z) (r : Run p e below n0 Q G m T pc' ls (.int z :: st)) (hp : pc + 1 = pc' := by rfl) : Run p e below n0 Q G m T pc ls st := by
  subst hp
  exact Run.step (fun t q => XS.iconst X.at' C.1 rfl (C.d hd) (by rw [hz]; exact q)) r
theorem s_bipush (pc' : Nat) (C : Cx tabs a0 Z own nm code ml ret p s m meth c) (X : St p l e R s m args below meth c n0 T h k n) {i : Int} {z : Int32} (hd : decode code pc = .ok (.bipush i, 2)) (hz : (Int8.ofInt i).toInt32 = z) (r : Run p e below n0 Q G m T pc' ls (.int z :: st)) (hp : pc + 2 = pc' := by rfl) : Run p e below n0 Q G m T pc ls st := by
  subst hp
  exact Run.step (fun t q => XS.bipush X.at' C.1 rfl (C.d hd) (by rw [hz]; exact q)) r
theorem s_sipush (pc' : Nat) (C : Cx tabs a0 Z own nm code ml ret p s m meth c) (X : St p l e R s m args below meth c n0 T h k n) {i : Int} {z : Int32} (hd : decode code pc = .ok (.sipush i, 3)) (hz : (Int16.ofInt i).toInt32 = z) (r : Run p e below n0 Q G m T pc' ls (.int z :: st)) (hp : pc + 3 = pc' := by rfl) : Run p e below n0 Q G m T pc ls st := by
  subst hp
  exact Run.step (fun t q => XS.sipush X.at' C.1 rfl (C.d hd) (by rw [hz]; exact q)) r
theorem s_lconst (pc' : Nat) (C : Cx tabs a0 Z own nm code ml ret p s m meth c) (X : St p l e R s m args below meth c n0 T h k n) {i : Fin 2} {z : Int64} (hd : decode code pc = .ok (.lconst i, 1)) (hz : Int64.ofNat i = z) (r : Run p e below n0 Q G m T pc' ls (.long z :: st)) (hp : pc + 1 = pc' := by rfl) : Run p e below n0 Q G m T pc ls st := by
  subst hp
  exact Run.step (fun t q => XT.lconst X.at' C.1 rfl (C.d hd) (by rw [hz]; exact q)) r
theorem s_iadd (pc' : Nat) (C : Cx tabs a0 Z own nm code ml ret p s m meth c) (X : St p l e R s m args below meth c n0 T h k n) {x y : Int32} (hd : decode code pc = .ok (.iadd, 1)) (r : Run p e below n0 Q G m T pc' ls (.int (x + y) :: st)) (hp : pc + 1 = pc' := by rfl) : Run p e below n0 Q G m T pc ls (.int y :: .int x :: st) := by
  subst hp
  exact Run.step (fun t q => XS.iadd X.at' C.1 rfl (C.d hd) rfl q) r
theorem s_isub (pc' : Nat) (C : Cx tabs a0 Z own nm code ml ret p s m meth c) (X : St p l e R s m args below meth c n0 T h k n) {x y : Int32} (hd : decode code pc = .ok (.isub, 1)) (r : Run p e below n0 Q G m T pc' ls (.int (x - y) :: st)) (hp : pc + 1 = pc' := by rfl) : Run p e below n0 Q G m T pc ls (.int y :: .int x :: st) := by
  subst hp
  exact Run.step (fun t q => XS.isub X.at' C.1 rfl (C.d hd) rfl q) r
theorem s_iand (pc' : Nat) (C : Cx tabs a0 Z own nm code ml ret p s m meth c) (X : St p l e R s m args below meth c n0 T h k n) {x y : Int32} (hd : decode code pc = .ok (.iand, 1)) (r : Run p e below n0 Q G m T pc' ls (.int (x &&& y) :: st)) (hp : pc + 1 = pc' := by rfl) : Run p e below n0 Q G m T pc ls (.int y :: .int x :: st) := by
  subst hp
  exact Run.step (fun t q => XS.iand X.at' C.1 rfl (C.d hd) rfl q) r
theorem s_imul (pc' : Nat) (C : Cx tabs a0 Z own nm code ml ret p s m meth c) (X : St p l e R s m args below meth c n0 T h k n) {x y : Int32} (hd : decode code pc = .ok (.imul, 1)) (r : Run p e below n0 Q G m T pc' ls (.int (x * y) :: st)) (hp : pc + 1 = pc' := by rfl) : Run p e below n0 Q G m T pc ls (.int y :: .int x :: st) := by
  subst hp
  exact Run.step (fun t q => XS.imul X.at' C.1 rfl (C.d hd) rfl q) r
theorem s_ixor (pc' : Nat) (C : Cx tabs a0 Z own nm code ml ret p s m meth c) (X : St p l e R s m args below meth c n0 T h k n) {x y : Int32} (hd : decode code pc = .ok (.ixor, 1)) (r : Run p e below n0 Q G m T pc' ls (.int (x ^^^ y) :: st)) (hp : pc + 1 = pc' := by rfl) : Run p e below n0 Q G m T pc ls (.int y :: .int x :: st) := by
  subst hp
  exact Run.step (fun t q => XT.ixor X.at' C.1 rfl (C.d hd) rfl q) r
theorem s_iushr (pc' : Nat) (C : Cx tabs a0 Z own nm code ml ret p s m meth c) (X : St p l e R s m args below meth c n0 T h k n) {x y : Int32} (hd : decode code pc = .ok (.iushr, 1)) (r : Run p e below n0 Q G m T pc' ls (.int ((x.toUInt32 >>> (y &&& 31).toUInt32).toInt32) :: st)) (hp : pc + 1 = pc' := by rfl) : Run p e below n0 Q G m T pc ls (.int y :: .int x :: st) := by
  subst hp
  exact Run.step (fun t q => XT.iushr X.at' C.1 rfl (C.d hd) rfl q) r
theorem s_ladd (pc' : Nat) (C : Cx tabs a0 Z own nm code ml ret p s m meth c) (X : St p l e R s m args below meth c n0 T h k n) {x y : Int64} (hd : decode code pc = .ok (.ladd, 1)) (r : Run p e below n0 Q G m T pc' ls (.long (x + y) :: st)) (hp : pc + 1 = pc' := by rfl) : Run p e below n0 Q G m T pc ls (.long y :: .long x :: st) := by
  subst hp
  exact Run.step (fun t q => XT.ladd X.at' C.1 rfl (C.d hd) rfl q) r
theorem s_lsub (pc' : Nat) (C : Cx tabs a0 Z own nm code ml ret p s m meth c) (X : St p l e R s m args below meth c n0 T h k n) {x y : Int64} (hd : decode code pc = .ok (.lsub, 1)) (r : Run p e below n0 Q G m T pc' ls (.long (x - y) :: st)) (hp : pc + 1 = pc' := by rfl) : Run p e below n0 Q G m T pc ls (.long y :: .long x :: st) := by
  subst hp
  exact Run.step (fun t q => XT.lsub X.at' C.1 rfl (C.d hd) rfl q) r
theorem s_land (pc' : Nat) (C : Cx tabs a0 Z own nm code ml ret p s m meth c) (X : St p l e R s m args below meth c n0 T h k n) {x y : Int64} (hd : decode code pc = .ok (.land, 1)) (r : Run p e below n0 Q G m T pc' ls (.long (x &&& y) :: st)) (hp : pc + 1 = pc' := by rfl) : Run p e below n0 Q G m T pc ls (.long y :: .long x :: st) := by
  subst hp
  exact Run.step (fun t q => XT.land X.at' C.1 rfl (C.d hd) rfl q) r
theorem s_lmul (pc' : Nat) (C : Cx tabs a0 Z own nm code ml ret p s m meth c) (X : St p l e R s m args below meth c n0 T h k n) {x y : Int64} (hd : decode code pc = .ok (.lmul, 1)) (r : Run p e below n0 Q G m T pc' ls (.long (x * y) :: st)) (hp : pc + 1 = pc' := by rfl) : Run p e below n0 Q G m T pc ls (.long y :: .long x :: st) := by
  subst hp
  exact Run.step (fun t q => XT.lmul X.at' C.1 rfl (C.d hd) rfl q) r
theorem s_lor (pc' : Nat) (C : Cx tabs a0 Z own nm code ml ret p s m meth c) (X : St p l e R s m args below meth c n0 T h k n) {x y : Int64} (hd : decode code pc = .ok (.lor, 1)) (r : Run p e below n0 Q G m T pc' ls (.long (x ||| y) :: st)) (hp : pc + 1 = pc' := by rfl) : Run p e below n0 Q G m T pc ls (.long y :: .long x :: st) := by
  subst hp
  exact Run.step (fun t q => XT.lor X.at' C.1 rfl (C.d hd) rfl q) r
theorem s_lshl (pc' : Nat) (C : Cx tabs a0 Z own nm code ml ret p s m meth c) (X : St p l e R s m args below meth c n0 T h k n) {x : Int64} {y : Int32} (hd : decode code pc = .ok (.lshl, 1)) (r : Run p e below n0 Q G m T pc' ls (.long (x <<< (y.toInt64 &&& 63)) :: st)) (hp : pc + 1 = pc' := by rfl) : Run p e below n0 Q G m T pc ls (.int y :: .long x :: st) := by
  subst hp
  exact Run.step (fun t q => XT.lshl X.at' C.1 rfl (C.d hd) rfl q) r
theorem s_irem (pc' : Nat) (C : Cx tabs a0 Z own nm code ml ret p s m meth c) (X : St p l e R s m args below meth c n0 T h k n) {x y : Int32} (hd : decode code pc = .ok (.irem, 1)) (hy : y ≠ 0) (r : Run p e below n0 Q G m T pc' ls (.int (x % y) :: st)) (hp : pc + 1 = pc' := by rfl) : Run p e below n0 Q G m T pc ls (.int y :: .int x :: st) := by
  subst hp
  exact Run.step (fun t q => XS.irem X.at' C.1 rfl (C.d hd) rfl hy (by rw [show x - x / y * y = x % y from irem_eq_mod x y]; exact q)) r
theorem s_i2l (pc' : Nat) (C : Cx tabs a0 Z own nm code ml ret p s m meth c) (X : St p l e R s m args below meth c n0 T h k n) {x : Int32} (hd : decode code pc = .ok (.i2l, 1)) (r : Run p e below n0 Q G m T pc' ls (.long x.toInt64 :: st)) (hp : pc + 1 = pc' := by rfl) : Run p e below n0 Q G m T pc ls (.int x :: st) := by
  subst hp
  exact Run.step (fun t q => XT.i2l X.at' C.1 rfl (C.d hd) rfl q) r
theorem s_l2i (pc' : Nat) (C : Cx tabs a0 Z own nm code ml ret p s m meth c) (X : St p l e R s m args below meth c n0 T h k n) {x : Int64} (hd : decode code pc = .ok (.l2i, 1)) (r : Run p e below n0 Q G m T pc' ls (.int x.toInt32 :: st)) (hp : pc + 1 = pc' := by rfl) : Run p e below n0 Q G m T pc ls (.long x :: st) := by
  subst hp
  exact Run.step (fun t q => XT.l2i X.at' C.1 rfl (C.d hd) rfl q) r
theorem s_i2b (pc' : Nat) (C : Cx tabs a0 Z own nm code ml ret p s m meth c) (X : St p l e R s m args below meth c n0 T h k n) {x : Int32} (hd : decode code pc = .ok (.i2b, 1)) (r : Run p e below n0 Q G m T pc' ls (.int x.toInt8.toInt32 :: st)) (hp : pc + 1 = pc' := by rfl) : Run p e below n0 Q G m T pc ls (.int x :: st) := by
  subst hp
  exact Run.step (fun t q => XT.i2b X.at' C.1 rfl (C.d hd) rfl q) r
theorem s_lcmp (pc' : Nat) (C : Cx tabs a0 Z own nm code ml ret p s m meth c) (X : St p l e R s m args below meth c n0 T h k n) {x y : Int64} (hd : decode code pc = .ok (.lcmp, 1)) (r : Run p e below n0 Q G m T pc' ls (.int (XT.cmpL x y) :: st)) (hp : pc + 1 = pc' := by rfl) : Run p e below n0 Q G m T pc ls (.long y :: .long x :: st) := by
  subst hp
  exact Run.step (fun t q => XT.lcmp X.at' C.1 rfl (C.d hd) rfl q) r
theorem s_dup (pc' : Nat) (C : Cx tabs a0 Z own nm code ml ret p s m meth c) (X : St p l e R s m args below meth c n0 T h k n) {v : Value} (hd : decode code pc = .ok (.dup, 1)) (hc : v.category = 1) (r : Run p e below n0 Q G m T pc' ls (v :: v :: st)) (hp : pc + 1 = pc' := by rfl) : Run p e below n0 Q G m T pc ls (v :: st) := by
  subst hp
  exact Run.step (fun t q => XS.dup X.at' C.1 rfl (C.d hd) rfl hc q) r
theorem s_pop (pc' : Nat) (C : Cx tabs a0 Z own nm code ml ret p s m meth c) (X : St p l e R s m args below meth c n0 T h k n) {v : Value} (hd : decode code pc = .ok (.pop, 1)) (hc : v.category = 1) (r : Run p e below n0 Q G m T pc' ls st) (hp : pc + 1 = pc' := by rfl) : Run p e below n0 Q G m T pc ls (v :: st) := by
  subst hp
  exact Run.step (fun t q => XT.pop X.at' C.1 rfl (C.d hd) rfl hc q) r
theorem s_dupX1 (pc' : Nat) (C : Cx tabs a0 Z own nm code ml ret p s m meth c) (X : St p l e R s m args below meth c n0 T h k n) {v w : Value} (hd : decode code pc = .ok (.dup_x1, 1)) (hc : v.category = 1) (hc' : w.category = 1) (r : Run p e below n0 Q G m T pc' ls (v :: w :: v :: st)) (hp : pc + 1 = pc' := by rfl) : Run p e below n0 Q G m T pc ls (v :: w :: st) := by
  subst hp
  exact Run.step (fun t q => XT.dupX1 X.at' C.1 rfl (C.d hd) rfl hc hc' q) r
theorem s_goto (pc' : Nat) (C : Cx tabs a0 Z own nm code ml ret p s m meth c) (X : St p l e R s m args below meth c n0 T h k n) {o : Int} (hd : decode code pc = .ok (.goto o, 3)) (r : Run p e below n0 Q G m T pc' ls st) (hp : 0 ≤ (pc : Int) + o ∧ ((pc : Int) + o).toNat = pc' := by decide) : Run p e below n0 Q G m T pc ls st := by
  exact Run.step (fun t q => XS.goto X.at' C.1 rfl rfl (C.d hd) hp.1 hp.2 q) r
theorem s_icmp_lt (pY pN : Nat) (C : Cx tabs a0 Z own nm code ml ret p s m meth c) (X : St p l e R s m args below meth c n0 T h k n) {x y : Int32} {o : Int} (hd : decode code pc = .ok (.if_icmp .lt o, 3)) (ry : x < y → Run p e below n0 Q G m T pY ls st) (rn : ¬ x < y → Run p e below n0 Q G m T pN ls st) (hp : 0 ≤ (pc : Int) + o ∧ ((pc : Int) + o).toNat = pY ∧ pc + 3 = pN := by decide) : Run p e below n0 Q G m T pc ls (.int y :: .int x :: st) := by
  by_cases g : x < y
  · exact Run.step (fun t q => XS.icmpYes X.at' C.1 rfl rfl (C.d hd) rfl (tlt g).1 hp.1 hp.2.1 q) (ry g)
  · obtain rfl := hp.2.2
    exact Run.step (fun t q => XS.icmpNo X.at' C.1 rfl (C.d hd) rfl (flt g).1 q) (rn g)
theorem s_if_lt (pY pN : Nat) (C : Cx tabs a0 Z own nm code ml ret p s m meth c) (X : St p l e R s m args below meth c n0 T h k n) {x : Int32} {o : Int} (hd : decode code pc = .ok (.ifCond .lt o, 3)) (ry : x < (0 : Int32) → Run p e below n0 Q G m T pY ls st) (rn : ¬ x < (0 : Int32) → Run p e below n0 Q G m T pN ls st) (hp : 0 ≤ (pc : Int) + o ∧ ((pc : Int) + o).toNat = pY ∧ pc + 3 = pN := by decide) : Run p e below n0 Q G m T pc ls (.int x :: st) := by
  by_cases g : x < (0 : Int32)
  · exact Run.step (fun t q => XS.ifYes X.at' C.1 rfl rfl (C.d hd) rfl ((if0 _ _).trans (tlt g).1) hp.1 hp.2.1 q) (ry g)
  · obtain rfl := hp.2.2
    exact Run.step (fun t q => XS.ifNo X.at' C.1 rfl (C.d hd) rfl ((if0 _ _).trans (flt g).1) q) (rn g)
theorem s_icmp_ge (pY pN : Nat) (C : Cx tabs a0 Z own nm code ml ret p s m meth c) (X : St p l e R s m args below meth c n0 T h k n) {x y : Int32} {o : Int} (hd : decode code pc = .ok (.if_icmp .ge o, 3)) (ry : ¬ x < y → Run p e below n0 Q G m T pY ls st) (rn : x < y → Run p e below n0 Q G m T pN ls st) (hp : 0 ≤ (pc : Int) + o ∧ ((pc : Int) + o).toNat = pY ∧ pc + 3 = pN := by decide) : Run p e below n0 Q G m T pc ls (.int y :: .int x :: st) := by
  by_cases g : x < y
  · obtain rfl := hp.2.2
    exact Run.step (fun t q => XS.icmpNo X.at' C.1 rfl (C.d hd) rfl (tlt g).2.1 q) (rn g)
  · exact Run.step (fun t q => XS.icmpYes X.at' C.1 rfl rfl (C.d hd) rfl (flt g).2.1 hp.1 hp.2.1 q) (ry g)
theorem s_if_ge (pY pN : Nat) (C : Cx tabs a0 Z own nm code ml ret p s m meth c) (X : St p l e R s m args below meth c n0 T h k n) {x : Int32} {o : Int} (hd : decode code pc = .ok (.ifCond .ge o, 3)) (ry : ¬ x < (0 : Int32) → Run p e below n0 Q G m T pY ls st) (rn : x < (0 : Int32) → Run p e below n0 Q G m T pN ls st) (hp : 0 ≤ (pc : Int) + o ∧ ((pc : Int) + o).toNat = pY ∧ pc + 3 = pN := by decide) : Run p e below n0 Q G m T pc ls (.int x :: st) := by
  by_cases g : x < (0 : Int32)
  · obtain rfl := hp.2.2
    exact Run.step (fun t q => XS.ifNo X.at' C.1 rfl (C.d hd) rfl ((if0 _ _).trans (tlt g).2.1) q) (rn g)
  · exact Run.step (fun t q => XS.ifYes X.at' C.1 rfl rfl (C.d hd) rfl ((if0 _ _).trans (flt g).2.1) hp.1 hp.2.1 q) (ry g)
theorem s_if_gt (pY pN : Nat) (C : Cx tabs a0 Z own nm code ml ret p s m meth c) (X : St p l e R s m args below meth c n0 T h k n) {x : Int32} {o : Int} (hd : decode code pc = .ok (.ifCond .gt o, 3)) (ry : (0 : Int32) < x → Run p e below n0 Q G m T pY ls st) (rn : ¬ (0 : Int32) < x → Run p e below n0 Q G m T pN ls st) (hp : 0 ≤ (pc : Int) + o ∧ ((pc : Int) + o).toNat = pY ∧ pc + 3 = pN := by decide) : Run p e below n0 Q G m T pc ls (.int x :: st) := by
  by_cases g : (0 : Int32) < x
  · exact Run.step (fun t q => XS.ifYes X.at' C.1 rfl rfl (C.d hd) rfl ((if0 _ _).trans (tlt g).2.2.1) hp.1 hp.2.1 q) (ry g)
  · obtain rfl := hp.2.2
    exact Run.step (fun t q => XS.ifNo X.at' C.1 rfl (C.d hd) rfl ((if0 _ _).trans (flt g).2.2.1) q) (rn g)
theorem s_icmp_le (pY pN : Nat) (C : Cx tabs a0 Z own nm code ml ret p s m meth c) (X : St p l e R s m args below meth c n0 T h k n) {x y : Int32} {o : Int} (hd : decode code pc = .ok (.if_icmp .le o, 3)) (ry : ¬ y < x → Run p e below n0 Q G m T pY ls st) (rn : y < x → Run p e below n0 Q G m T pN ls st) (hp : 0 ≤ (pc : Int) + o ∧ ((pc : Int) + o).toNat = pY ∧ pc + 3 = pN := by decide) : Run p e below n0 Q G m T pc ls (.int y :: .int x :: st) := by
  by_cases g : y < x
  · obtain rfl := hp.2.2
    exact Run.step (fun t q => XS.icmpNo X.at' C.1 rfl (C.d hd) rfl (tlt g).2.2.2 q) (rn g)
  · exact Run.step (fun t q => XS.icmpYes X.at' C.1 rfl rfl (C.d hd) rfl (flt g).2.2.2 hp.1 hp.2.1 q) (ry g)
theorem s_if_le (pY pN : Nat) (C : Cx tabs a0 Z own nm code ml ret p s m meth c) (X : St p l e R s m args below meth c n0 T h k n) {x : Int32} {o : Int} (hd : decode code pc = .ok (.ifCond .le o, 3)) (ry : ¬ (0 : Int32) < x → Run p e below n0 Q G m T pY ls st) (rn : (0 : Int32) < x → Run p e below n0 Q G m T pN ls st) (hp : 0 ≤ (pc : Int) + o ∧ ((pc : Int) + o).toNat = pY ∧ pc + 3 = pN := by decide) : Run p e below n0 Q G m T pc ls (.int x :: st) := by
  by_cases g : (0 : Int32) < x
  · obtain rfl := hp.2.2
    exact Run.step (fun t q => XS.ifNo X.at' C.1 rfl (C.d hd) rfl ((if0 _ _).trans (tlt g).2.2.2) q) (rn g)
  · exact Run.step (fun t q => XS.ifYes X.at' C.1 rfl rfl (C.d hd) rfl ((if0 _ _).trans (flt g).2.2.2) hp.1 hp.2.1 q) (ry g)
theorem s_icmp_eq (pY pN : Nat) (C : Cx tabs a0 Z own nm code ml ret p s m meth c) (X : St p l e R s m args below meth c n0 T h k n) {x y : Int32} {o : Int} (hd : decode code pc = .ok (.if_icmp .eq o, 3)) (ry : x = y → Run p e below n0 Q G m T pY ls st) (rn : ¬ x = y → Run p e below n0 Q G m T pN ls st) (hp : 0 ≤ (pc : Int) + o ∧ ((pc : Int) + o).toNat = pY ∧ pc + 3 = pN := by decide) : Run p e below n0 Q G m T pc ls (.int y :: .int x :: st) := by
  by_cases g : x = y
  · exact Run.step (fun t q => XS.icmpYes X.at' C.1 rfl rfl (C.d hd) rfl (teq g).1 hp.1 hp.2.1 q) (ry g)
  · obtain rfl := hp.2.2
    exact Run.step (fun t q => XS.icmpNo X.at' C.1 rfl (C.d hd) rfl (feq g).1 q) (rn g)
theorem s_if_eq (pY pN : Nat) (C : Cx tabs a0 Z own nm code ml ret p s m meth c) (X : St p l e R s m args below meth c n0 T h k n) {x : Int32} {o : Int} (hd : decode code pc = .ok (.ifCond .eq o, 3)) (ry : x = (0 : Int32) → Run p e below n0 Q G m T pY ls st) (rn : ¬ x = (0 : Int32) → Run p e below n0 Q G m T pN ls st) (hp : 0 ≤ (pc : Int) + o ∧ ((pc : Int) + o).toNat = pY ∧ pc + 3 = pN := by decide) : Run p e below n0 Q G m T pc ls (.int x :: st) := by
  by_cases g : x = (0 : Int32)
  · exact Run.step (fun t q => XS.ifYes X.at' C.1 rfl rfl (C.d hd) rfl ((if0 _ _).trans (teq g).1) hp.1 hp.2.1 q) (ry g)
  · obtain rfl := hp.2.2
    exact Run.step (fun t q => XS.ifNo X.at' C.1 rfl (C.d hd) rfl ((if0 _ _).trans (feq g).1) q) (rn g)
theorem s_icmp_ne (pY pN : Nat) (C : Cx tabs a0 Z own nm code ml ret p s m meth c) (X : St p l e R s m args below meth c n0 T h k n) {x y : Int32} {o : Int} (hd : decode code pc = .ok (.if_icmp .ne o, 3)) (ry : ¬ x = y → Run p e below n0 Q G m T pY ls st) (rn : x = y → Run p e below n0 Q G m T pN ls st) (hp : 0 ≤ (pc : Int) + o ∧ ((pc : Int) + o).toNat = pY ∧ pc + 3 = pN := by decide) : Run p e below n0 Q G m T pc ls (.int y :: .int x :: st) := by
  by_cases g : x = y
  · obtain rfl := hp.2.2
    exact Run.step (fun t q => XS.icmpNo X.at' C.1 rfl (C.d hd) rfl (teq g).2 q) (rn g)
  · exact Run.step (fun t q => XS.icmpYes X.at' C.1 rfl rfl (C.d hd) rfl (feq g).2 hp.1 hp.2.1 q) (ry g)
theorem s_if_ne (pY pN : Nat) (C : Cx tabs a0 Z own nm code ml ret p s m meth c) (X : St p l e R s m args below meth c n0 T h k n) {x : Int32} {o : Int} (hd : decode code pc = .ok (.ifCond .ne o, 3)) (ry : ¬ x = (0 : Int32) → Run p e below n0 Q G m T pY ls st) (rn : x = (0 : Int32) → Run p e below n0 Q G m T pN ls st) (hp : 0 ≤ (pc : Int) + o ∧ ((pc : Int) + o).toNat = pY ∧ pc + 3 = pN := by decide) : Run p e below n0 Q G m T pc ls (.int x :: st) := by
  by_cases g : x = (0 : Int32)
  · obtain rfl := hp.2.2
    exact Run.step (fun t q => XS.ifNo X.at' C.1 rfl (C.d hd) rfl ((if0 _ _).trans (teq g).2) q) (rn g)
  · exact Run.step (fun t q => XS.ifYes X.at' C.1 rfl rfl (C.d hd) rfl ((if0 _ _).trans (feq g).2) hp.1 hp.2.1 q) (ry g)
theorem s_ldcInt (pc' : Nat) (C : Cx tabs a0 Z own nm code ml ret p s m meth c) (X : St p l e R s m args below meth c n0 T h k n) {idx : Nat} {z : Int32} (hd : decode code pc = .ok (.ldc idx, 2)) (w : Jvm.Cond.constant own idx z ∈ tabs) (r : Run p e below n0 Q G m T pc' ls (.int z :: st)) (hp : pc + 2 = pc' := by rfl) : Run p e below n0 Q G m T pc ls st := by
  subst hp
  obtain ⟨_, Y, -⟩ := X
  exact Run.step (Y.ldcInt C.1 C.2.2.2.2.1 (mvT C.2.1 (C.w w)) (g := mkF m pc ls st) rfl (C.d hd)) r
theorem s_ldc2Long (pc' : Nat) (C : Cx tabs a0 Z own nm code ml ret p s m meth c) (X : St p l e R s m args below meth c n0 T h k n) {idx : Nat} {z : Int64} (hd : decode code pc = .ok (.ldc2_w idx, 3)) (w : Jvm.Cond.constantLong own idx z ∈ tabs) (r : Run p e below n0 Q G m T pc' ls (.long z :: st)) (hp : pc + 3 = pc' := by rfl) : Run p e below n0 Q G m T pc ls st := by
  subst hp
  obtain ⟨_, Y, -⟩ := X
  exact Run.step (Y.ldc2Long C.1 C.2.2.2.2.1 (mvT C.2.1 (C.w w)) (g := mkF m pc ls st) rfl (C.d hd)) r
theorem cl_gt {x y : Int64} : 0 < XT.cmpL x y ↔ y.toInt < x.toInt := by
  rw [← Int64.lt_iff_toInt_lt]; exact lw_gt x y
theorem FE_mono {kc ks : Nat} (hk : k ≤ kc) (hn : n ≤ ks) : ∀ (v : Option Value) (t : State) (L : List Loc), t.heap = h → FrameEnd s (.returned v) t L k n → FrameEnd s (.returned v) t L kc ks := fun v t L _ h => ⟨h.1, h.2.1, h.2.2.mono hk hn⟩
theorem Run.done (C : Cx tabs a0 Z own nm code ml ret p s m meth c) (X : St p l e R s m args below meth c n0 T h k n) {v : Option Value} (hv : ret = none → v = none) (hG : ∀ (v : Option Value) (t : State) (L : List Loc), t.heap = h → FrameEnd s (.returned v) t L k n → G (.returned v) t L) (q : Q v h) (f : ∀ locs fs, Stand p l e R s m args below meth c T locs k n → (∀ (f : JFrame) (acts : List Action), f.method = m → f.locked = none → f.entered = [] → (doReturn e (T.setTop f) acts v).1 = T.setFrames fs) → Steps p.tables e below (T.setTop (mkF m pc ls st)) (T.setFrames fs)) : Run p e below n0 Q G m T pc ls st := by
  obtain ⟨locs, Y, rfl, N, -⟩ := X
  obtain ⟨fs, hr, hrun, hended, hW, hsame⟩ := Y.leave (v := v) (by rw [C.2.2.2.2.2.1]; exact hv) C.2.2.2.2.2.2.1
  exact ⟨_, _, f locs fs Y hr, hrun, hended, _, _, rfl, ⟨q, N⟩, hG _ _ _ rfl ⟨⟨_, rfl⟩, hW, hsame⟩⟩
theorem s_return (C : Cx tabs a0 Z own nm code ml ret p s m meth c) (X : St p l e R s m args below meth c n0 T h k n) (hd : decode code pc = .ok (.return_, 1)) (hr : ret = none) (q : Q none h) (hG : ∀ (v : Option Value) (t : State) (L : List Loc), t.heap = h → FrameEnd s (.returned v) t L k n → G (.returned v) t L := by exact FE_mono (by decide) (by decide)) : Run p e below n0 Q G m T pc ls [] := by
  subst hr
  exact Run.done C X (fun _ => rfl) hG q (fun locs fs Y hr => Y.returnOut C.1 C.2.2.2.2.2.1 (C.d hd) hr)
theorem s_ireturn (C : Cx tabs a0 Z own nm code ml ret p s m meth c) (X : St p l e R s m args below meth c n0 T h k n) {z : Int32} (hd : decode code pc = .ok (.ireturn, 1)) (hr : ret = some .int) (q : Q (some (.int z)) h) (hG : ∀ (v : Option Value) (t : State) (L : List Loc), t.heap = h → FrameEnd s (.returned v) t L k n → G (.returned v) t L := by exact FE_mono (by decide) (by decide)) : Run p e below n0 Q G m T pc ls (.int z :: st) := by
  subst hr
  refine Run.done C X (fun w => by cases w) hG q (fun locs fs Y hr => ?_)
  exact retOut Y C.1 C.2.2.2.2.2.1 (t := .int) rfl (Or.inl ⟨rfl, Or.inl rfl, _, rfl⟩) (C.d hd) hr
theorem s_nreturn (C : Cx tabs a0 Z own nm code ml ret p s m meth c) (X : St p l e R s m args below meth c n0 T h k n) {z z' : Int32} {t : FieldType} (hd : decode code pc = .ok (.ireturn, 1)) (hr : ret = some t) (ht : t = .boolean ∨ t = .byte ∨ t = .char ∨ t = .short) (hz : nar t z = z') (q : Q (some (.int z')) h) (hG : ∀ (v : Option Value) (t : State) (L : List Loc), t.heap = h → FrameEnd s (.returned v) t L k n → G (.returned v) t L := by exact FE_mono (by decide) (by decide)) : Run p e below n0 Q G m T pc ls (.int z :: st) := by
  subst hr hz
  refine Run.done C X (fun w => by cases w) hG q (fun locs fs Y hr => ?_)
  exact retN Y C.1 C.2.2.2.2.2.1 ht (C.d hd) hr
theorem s_lreturn (C : Cx tabs a0 Z own nm code ml ret p s m meth c) (X : St p l e R s m args below meth c n0 T h k n) {z : Int64} (hd : decode code pc = .ok (.lreturn, 1)) (hr : ret = some .long) (q : Q (some (.long z)) h) (hG : ∀ (v : Option Value) (t : State) (L : List Loc), t.heap = h → FrameEnd s (.returned v) t L k n → G (.returned v) t L := by exact FE_mono (by decide) (by decide)) : Run p e below n0 Q G m T pc ls (.long z :: st) := by
  subst hr
  refine Run.done C X (fun w => by cases w) hG q (fun locs fs Y hr => ?_)
  exact retOut Y C.1 C.2.2.2.2.2.1 (t := .long) rfl (Or.inr (Or.inl ⟨rfl, rfl, _, rfl⟩)) (C.d hd) hr
theorem s_areturn (C : Cx tabs a0 Z own nm code ml ret p s m meth c) (X : St p l e R s m args below meth c n0 T h k n) {v : Value} {t : FieldType} (hd : decode code pc = .ok (.areturn, 1)) (hr : ret = some t) (ht : t.isReference = true) (hv : v.isRef = true) (q : Q (some v) h) (hG : ∀ (v : Option Value) (t : State) (L : List Loc), t.heap = h → FrameEnd s (.returned v) t L k n → G (.returned v) t L := by exact FE_mono (by decide) (by decide)) : Run p e below n0 Q G m T pc ls (v :: st) := by
  subst hr
  refine Run.done C X (fun w => by cases w) hG q (fun locs fs Y hr => ?_)
  exact retOut Y C.1 C.2.2.2.2.2.1 (t := t) (by rcases ref_cases hv with rfl | ⟨_, rfl⟩ <;> cases t <;> first | rfl | simp [FieldType.isReference] at ht) (Or.inr (Or.inr (Or.inr (Or.inr ⟨rfl, ht, hv⟩)))) (C.d hd) hr
theorem s_getfield (pc' : Nat) (C : Cx tabs a0 Z own nm code ml ret p s m meth c) (X : St p l e R s m args below meth c n0 T h k n) {R0 O fn d host : String} {idx : Nat} {a : Addr} {v : Value} (hd : decode code pc = .ok (.getfield idx, 3)) (w : Jvm.Cond.fieldLink own idx R0 fn d ∈ tabs ∨ Jvm.Cond.fieldLinkNest own idx R0 fn d host ∈ tabs) (via : Via Z R0 O fn d) (F : Fld Z h a O fn d v) (r : ∀ T', St p l e R s m args below meth c n0 T' h k n → Run p e below n0 Q G m T' pc' ls (v :: st)) (hp : pc + 3 = pc' := by rfl) : Run p e below n0 Q G m T pc ls (.ref a :: st) := by
  subst hp
  obtain ⟨locs, Y, eT, N, q⟩ := X
  obtain ⟨T', Y', e', f⟩ := getF (host := host) Y C.1 C.2.1 C.2.2.2.2.1 (w.imp C.w C.w) via eT F (g := mkF m pc ls (.ref a :: st)) rfl rfl (C.d hd)
  exact Run.step f (r T' ⟨locs, Y', e', N, q⟩)
theorem s_putfield (pc' : Nat) (C : Cx tabs a0 Z own nm code ml ret p s m meth c) (X : St p l e R s m args below meth c n0 T h k n) {R0 O fn d host K : String} {idx kk : Nat} {ty : FieldType} {a : Addr} {v old : Value} (hd : decode code pc = .ok (.putfield idx, 3)) (w : Jvm.Cond.fieldLink own idx R0 fn d ∈ tabs ∨ Jvm.Cond.fieldLinkNest own idx R0 fn d host ∈ tabs) (via : Via Z R0 O fn d) (F : Fld Z h a O fn d old) (E : Exa Z h a K) (L : Jvm.Cond.lays K O fn d ∈ tabs ∨ (Jvm.Cond.laysFinal K O fn d ∈ tabs ∧ own = O ∧ nm = "<init>")) (wi : Jvm.Cond.instantiable K kk ∈ tabs) (hty : parseFieldDescriptor d = some ty) (hn : narrow ty v = v) (hf : fits ty v = true) (ge : n0 ≤ a)
    (r : ∀ T' h', St p l e R s m args below meth c n0 T' h' k n → Wr h h' a (RoadKit.slotOf Z O fn d) v → Run p e below n0 Q G m T' pc' ls st) (hp : pc + 3 = pc' := by rfl) : Run p e below n0 Q G m T pc ls (v :: .ref a :: st) := by
  subst hp
  obtain ⟨locs, Y, eT, N, q⟩ := X
  obtain ⟨T', h', Y', e', W, f⟩ := putF (host := host) Y C.1 C.2.1 C.2.2.2.2.1 (w.imp C.w C.w) via eT F E (L.imp C.w fun z => ⟨C.w z.1, z.2.1, C.2.2.2.2.2.2.2.1.trans z.2.2⟩) (C.w wi) hty hn hf (g := mkF m pc ls (v :: .ref a :: st)) rfl rfl (C.d hd)
  exact Run.step f (r T' h' ⟨_, Y', e', Fr.snoc Y' N ge, q⟩ W)
theorem s_new (pc' : Nat) (C : Cx tabs a0 Z own nm code ml ret p s m meth c) (X : St p l e R s m args below meth c n0 T h k n) {K : String} {idx nn : Nat} (hd : decode code pc = .ok (.new idx, 3)) (w1 : Jvm.Cond.classLink own idx K ∈ tabs) (w2 : Jvm.Cond.instantiable K nn ∈ tabs) (w3 : Jvm.Cond.initialized K ∈ tabs)
    (r : ∀ T' h' b, h.size = b → St p l e R s m args below meth c n0 T' h' (k + 1) (n + nn) → Ext h h' → Exa Z h' b K → (∀ {O fn d : String} {ty : FieldType}, Laid Z a0 K O fn d → parseFieldDescriptor d = some ty → Fld Z h' b O fn d (defaultValue ty)) → n0 ≤ b → Run p e below n0 Q G m T' pc' ls (.ref b :: st)) (hp : pc + 3 = pc' := by rfl) (hc : k + 1 ≤ R.cells ∧ n + nn ≤ R.slots := by decide) : Run p e below n0 Q G m T pc ls st := by
  subst hp
  have hz := X.sz
  obtain ⟨locs, Y, eT, N, q⟩ := X
  obtain ⟨T', h', Y', e', E, A, D, -, f⟩ := newO Y C.1 C.2.1 C.2.2.2.2.1 (C.w w1) (C.w w2) (C.w w3) eT (g := mkF m pc ls st) rfl (C.d hd) hc.1 hc.2
  exact Run.step f (r T' h' _ rfl ⟨locs, Y', e', N, q⟩ E A D hz)
theorem s_objInit (pc' : Nat) (C : Cx tabs a0 Z own nm code ml ret p s m meth c) (X : St p l e R s m args below meth c n0 T h k n) {idx W : Nat} {a : Addr} (hd : decode code pc = .ok (.invokespecial idx, 3)) (w1 : Jvm.Cond.methodLink own idx Lib.objectInit ∈ tabs) (w2 : Jvm.Cond.instanceMethod Lib.objectInit ∈ tabs) (w3 : Jvm.Cond.code Lib.objectInit ⟨#[0xb1]⟩ 1 none ∈ tabs) (hsz : ls.size = ml) (hW : (st.map fun v => v.category).sum = W) (hf : 1 ≤ R.frames ∧ W + 12 ≤ R.locals)
    (r : ∀ T', St p l e R s m args below meth c n0 T' h k n → Run p e below n0 Q G m T' pc' ls st) (hp : pc + 3 = pc' := by rfl) : Run p e below n0 Q G m T pc ls (.ref a :: st) := by
  subst hp
  obtain ⟨locs, Y, eT, N, q⟩ := X
  obtain ⟨T', Y', e', f⟩ := initO Y C.1 C.2.1 C.2.2.2.2.1 (C.w w1) (C.w w2) (C.w w3) eT (g := mkF m pc ls (.ref a :: st)) rfl (hsz.trans C.2.2.2.1.symm) rfl (C.d hd) hf.1 (W := W) (by show 2 * 0 + _ ≤ _; rw [hW]; omega) hf.2
  exact Run.step f (r T' ⟨locs, Y', e', N, q⟩)
theorem s_newarray (pc' : Nat) (cap : Nat) (C : Cx tabs a0 Z own nm code ml ret p s m meth c) (X : St p l e R s m args below meth c n0 T h k n) {aty : ArrayType} {z : Int32} (hd : decode code pc = .ok (.newarray aty, 2)) (w : Jvm.Cond.arrayClass (newarray.typeOf aty) ∈ tabs) (hz : ¬ z < 0) (hcap : z.toNatClampNeg ≤ cap)
    (r : ∀ T' h' b kA, h.size = b → St p l e R s m args below meth c n0 T' h' (k + 1) (n + cap) → Ext h h' → Arv Z h' b kA (newarray.typeOf aty) z [] (defaultValue (newarray.typeOf aty)) → n0 ≤ b → Run p e below n0 Q G m T' pc' ls (.ref b :: st)) (hp : pc + 2 = pc' := by rfl) (hc : cap * 8 ≤ 536870912 ∧ k + 1 ≤ R.cells ∧ n + cap ≤ R.slots := by decide) : Run p e below n0 Q G m T pc ls (.int z :: st) := by
  subst hp
  have hs := X.sz
  obtain ⟨locs, Y, eT, N, q⟩ := X
  obtain ⟨T', h', kA, Y', e', E, A, f⟩ := newP Y C.1 C.2.1 (C.w w) eT (g := mkF m pc ls (.int z :: st)) rfl (C.d hd) rfl hz hcap hc.1 hc.2.1 hc.2.2
  exact Run.step f (r T' h' _ kA rfl ⟨locs, Y', e', N, q⟩ E (Arv.new A hz) hs)
theorem s_iastore (pc' : Nat) (i : Nat) (C : Cx tabs a0 Z own nm code ml ret p s m meth c) (X : St p l e R s m args below meth c n0 T h k n) {a : Addr} {kA : ClassId} {z j : Int32} {x : Int32} {vs : List Value} {dv : Value} (hd : decode code pc = .ok (.iastore, 1)) (F : Arv Z h a kA .int z vs dv) (ge : n0 ≤ a) (hj : ¬ j < 0 ∧ j < z) (hi : j.toNatClampNeg = i) (hl : i < vs.length)
    (r : ∀ T' h', St p l e R s m args below meth c n0 T' h' k n → Wr h h' a j.toNatClampNeg (.int x) → Arv Z h' a kA .int z (vs.set i (.int x)) dv → Run p e below n0 Q G m T' pc' ls st) (hp : pc + 1 = pc' := by rfl) : Run p e below n0 Q G m T pc ls (.int x :: .int j :: .ref a :: st) := by
  subst hp
  obtain ⟨locs, Y, eT, N, q⟩ := X
  obtain ⟨cl, A, q1, S, q3, H, G⟩ := F
  obtain ⟨T', h', Y', e', W, f⟩ := stI Y C.1 C.2.1 eT A (j := j) (inb_of S hj) (g := mkF m pc ls (.int x :: .int j :: .ref a :: st)) rfl rfl (C.d hd)
  exact Run.step f (r T' h' ⟨_, Y', e', Fr.snoc Y' N ge, q⟩ W (Arv.set A q1 S q3 H G (rfl) W i hi hl))
theorem s_lastore (pc' : Nat) (i : Nat) (C : Cx tabs a0 Z own nm code ml ret p s m meth c) (X : St p l e R s m args below meth c n0 T h k n) {a : Addr} {kA : ClassId} {z j : Int32} {x : Int64} {vs : List Value} {dv : Value} (hd : decode code pc = .ok (.lastore, 1)) (F : Arv Z h a kA .long z vs dv) (ge : n0 ≤ a) (hj : ¬ j < 0 ∧ j < z) (hi : j.toNatClampNeg = i) (hl : i < vs.length)
    (r : ∀ T' h', St p l e R s m args below meth c n0 T' h' k n → Wr h h' a j.toNatClampNeg (.long x) → Arv Z h' a kA .long z (vs.set i (.long x)) dv → Run p e below n0 Q G m T' pc' ls st) (hp : pc + 1 = pc' := by rfl) : Run p e below n0 Q G m T pc ls (.long x :: .int j :: .ref a :: st) := by
  subst hp
  obtain ⟨locs, Y, eT, N, q⟩ := X
  obtain ⟨cl, A, q1, S, q3, H, G⟩ := F
  obtain ⟨T', h', Y', e', W, f⟩ := stJ Y C.1 C.2.1 eT A (j := j) (inb_of S hj) (g := mkF m pc ls (.long x :: .int j :: .ref a :: st)) rfl rfl (C.d hd)
  exact Run.step f (r T' h' ⟨_, Y', e', Fr.snoc Y' N ge, q⟩ W (Arv.set A q1 S q3 H G (rfl) W i hi hl))
theorem s_bastore (pc' : Nat) (i : Nat) (C : Cx tabs a0 Z own nm code ml ret p s m meth c) (X : St p l e R s m args below meth c n0 T h k n) {a : Addr} {kA : ClassId} {z j : Int32} {x : Int32} {vs : List Value} {dv : Value} (hd : decode code pc = .ok (.bastore, 1)) (F : Arv Z h a kA .byte z vs dv) (ge : n0 ≤ a) (hj : ¬ j < 0 ∧ j < z) (hi : j.toNatClampNeg = i) (hl : i < vs.length)
    (r : ∀ T' h', St p l e R s m args below meth c n0 T' h' k n → Wr h h' a j.toNatClampNeg (.int (nar .byte x)) → Arv Z h' a kA .byte z (vs.set i (.int (nar .byte x))) dv → Run p e below n0 Q G m T' pc' ls st) (hp : pc + 1 = pc' := by rfl) : Run p e below n0 Q G m T pc ls (.int x :: .int j :: .ref a :: st) := by
  subst hp
  obtain ⟨locs, Y, eT, N, q⟩ := X
  obtain ⟨cl, A, q1, S, q3, H, G⟩ := F
  obtain ⟨T', h', Y', e', W, f⟩ := stB Y C.1 C.2.1 eT A (j := j) (inb_of S hj) (g := mkF m pc ls (.int x :: .int j :: .ref a :: st)) rfl rfl (C.d hd)
  exact Run.step f (r T' h' ⟨_, Y', e', Fr.snoc Y' N ge, q⟩ W (Arv.set A q1 S q3 H G (fits_nar_byte x) W i hi hl))
theorem s_iaload (pc' : Nat) (C : Cx tabs a0 Z own nm code ml ret p s m meth c) (X : St p l e R s m args below meth c n0 T h k n) {a : Addr} {kA : ClassId} {z j : Int32} {v : Value} {vs : List Value} {dv : Value} (hd : decode code pc = .ok (.iaload, 1)) (F : Arv Z h a kA .int z vs dv) (hj : ¬ j < 0 ∧ j < z) (hv : vs.getD j.toNatClampNeg dv = v)
    (r : Run p e below n0 Q G m T pc' ls (v :: st)) (hp : pc + 1 = pc' := by rfl) : Run p e below n0 Q G m T pc ls (.int j :: .ref a :: st) := by
  subst hp
  obtain ⟨locs, Y, eT, N, q⟩ := X
  obtain ⟨cl, A, q1, S, q3, H, G⟩ := F
  exact Run.step (fun t q => Y.iaload C.1 (j := j) (v := v) (by rw [eT]; exact A.1) (State.isArrayOf_alike C.2.1.alike A.2.1) A.2.2 (inb_of S hj) (H.at (inb_of S hj) hv) (g := mkF m pc ls (.int j :: .ref a :: st)) rfl rfl (C.d hd) t q) r
theorem s_laload (pc' : Nat) (C : Cx tabs a0 Z own nm code ml ret p s m meth c) (X : St p l e R s m args below meth c n0 T h k n) {a : Addr} {kA : ClassId} {z j : Int32} {v : Value} {vs : List Value} {dv : Value} (hd : decode code pc = .ok (.laload, 1)) (F : Arv Z h a kA .long z vs dv) (hj : ¬ j < 0 ∧ j < z) (hv : vs.getD j.toNatClampNeg dv = v)
    (r : Run p e below n0 Q G m T pc' ls (v :: st)) (hp : pc + 1 = pc' := by rfl) : Run p e below n0 Q G m T pc ls (.int j :: .ref a :: st) := by
  subst hp
  obtain ⟨locs, Y, eT, N, q⟩ := X
  obtain ⟨cl, A, q1, S, q3, H, G⟩ := F
  exact Run.step (fun t q => Y.laload C.1 (j := j) (v := v) (by rw [eT]; exact A.1) (State.isArrayOf_alike C.2.1.alike A.2.1) A.2.2 (inb_of S hj) (H.at (inb_of S hj) hv) (g := mkF m pc ls (.int j :: .ref a :: st)) rfl rfl (C.d hd) t q) r
theorem s_baload (pc' : Nat) (C : Cx tabs a0 Z own nm code ml ret p s m meth c) (X : St p l e R s m args below meth c n0 T h k n) {a : Addr} {kA : ClassId} {z j : Int32} {v : Value} {vs : List Value} {dv : Value} (hd : decode code pc = .ok (.baload, 1)) (F : Arv Z h a kA .byte z vs dv) (hj : ¬ j < 0 ∧ j < z) (hv : vs.getD j.toNatClampNeg dv = v)
    (r : Run p e below n0 Q G m T pc' ls (v :: st)) (hp : pc + 1 = pc' := by rfl) : Run p e below n0 Q G m T pc ls (.int j :: .ref a :: st) := by
  subst hp
  obtain ⟨locs, Y, eT, N, q⟩ := X
  obtain ⟨cl, A, q1, S, q3, H, G⟩ := F
  exact Run.step (fun t q => Y.baloadBytes C.1 (j := j) (v := v) (by rw [eT]; exact A.1) (State.isArrayOf_alike C.2.1.alike A.2.1) A.2.2 (inb_of S hj) (H.at (inb_of S hj) hv) (g := mkF m pc ls (.int j :: .ref a :: st)) rfl rfl (C.d hd) t q) r
theorem s_aaload (pc' : Nat) (C : Cx tabs a0 Z own nm code ml ret p s m meth c) (X : St p l e R s m args below meth c n0 T h k n) {a : Addr} {kA : ClassId} {z j : Int32} {v : Value} {ty : FieldType} {vs : List Value} {dv : Value} (hd : decode code pc = .ok (.aaload, 1)) (F : Arv Z h a kA ty z vs dv) (ht : ty.isReference = true) (hj : ¬ j < 0 ∧ j < z) (hv : vs.getD j.toNatClampNeg dv = v)
    (r : Run p e below n0 Q G m T pc' ls (v :: st)) (hp : pc + 1 = pc' := by rfl) : Run p e below n0 Q G m T pc ls (.int j :: .ref a :: st) := by
  subst hp
  obtain ⟨locs, Y, eT, N, q⟩ := X
  obtain ⟨cl, A, q1, S, q3, H, G⟩ := F
  exact Run.step (fun t q => Y.aaload C.1 (j := j) (v := v) (by rw [eT]; exact A.1) (State.isArrayOf_alike C.2.1.alike A.2.1) ht A.2.2 (inb_of S hj) (H.at (inb_of S hj) hv) (g := mkF m pc ls (.int j :: .ref a :: st)) rfl rfl (C.d hd) t q) r
theorem s_arraylength (pc' : Nat) (C : Cx tabs a0 Z own nm code ml ret p s m meth c) (X : St p l e R s m args below meth c n0 T h k n) {a : Addr} {kA : ClassId} {z : Int32} {ty : FieldType} {vs : List Value} {dv : Value} (hd : decode code pc = .ok (.arraylength, 1)) (F : Arv Z h a kA ty z vs dv)
    (r : Run p e below n0 Q G m T pc' ls (.int z :: st)) (hp : pc + 1 = pc' := by rfl) : Run p e below n0 Q G m T pc ls (.ref a :: st) := by
  subst hp
  obtain ⟨locs, Y, eT, N, q⟩ := X
  obtain ⟨cl, A, q1, S, q3, H, G⟩ := F
  rw [← len_of S q3] at r
  exact Run.step (fun t q => Y.arraylength C.1 (by rw [eT]; exact A.1) (State.isArrayOf_alike C.2.1.alike A.2.1) (g := mkF m pc ls (.ref a :: st)) rfl rfl (C.d hd) t q) r
theorem s_newarrayE (pc' : Nat) (cap : Nat) (ad : String) (C : Cx tabs a0 Z own nm code ml ret p s m meth c) (X : St p l e R s m args below meth c n0 T h k n) {aty : ArrayType} {z : Int32} (hd : decode code pc = .ok (.newarray aty, 2)) (w : Jvm.Cond.arrayClass (newarray.typeOf aty) ∈ tabs) (hz : ¬ z < 0) (hcap : z.toNatClampNeg ≤ cap) (had : "[" ++ (newarray.typeOf aty).toString = ad)
    (r : ∀ T' h' b kA, h.size = b → St p l e R s m args below meth c n0 T' h' (k + 1) (n + cap) → Ext h h' → Arv Z h' b kA (newarray.typeOf aty) z [] (defaultValue (newarray.typeOf aty)) → Exa Z h' b ad → n0 ≤ b → Run p e below n0 Q G m T' pc' ls (.ref b :: st)) (hp : pc + 2 = pc' := by rfl) (hc : cap * 8 ≤ 536870912 ∧ k + 1 ≤ R.cells ∧ n + cap ≤ R.slots := by decide) : Run p e below n0 Q G m T pc ls (.int z :: st) := by
  subst hp
  have hs := X.sz
  obtain ⟨locs, Y, eT, N, q⟩ := X
  obtain ⟨T', h', kA, Y', e', E, A, EA, f⟩ := newPE Y C.1 C.2.1 (C.w w) eT (g := mkF m pc ls (.int z :: st)) rfl (C.d hd) rfl hz hcap hc.1 hc.2.1 hc.2.2 had
  exact Run.step f (r T' h' _ kA rfl ⟨locs, Y', e', N, q⟩ E (Arv.new A hz) EA hs)
theorem s_anewarrayA (pc' : Nat) (cap : Nat) (ad : String) (C : Cx tabs a0 Z own nm code ml ret p s m meth c) (X : St p l e R s m args below meth c n0 T h k n) {K : String} {ty : FieldType} {idx : Nat} {z : Int32} (hd : decode code pc = .ok (.anewarray idx, 3)) (hC : (FieldType.array ty).toString = K) (w1 : Jvm.Cond.classLink own idx K ∈ tabs) (w2 : Jvm.Cond.arrayOver (.array ty) ∈ tabs) (hz : ¬ z < 0) (hcap : z.toNatClampNeg ≤ cap) (had : "[" ++ K = ad)
    (r : ∀ T' h' b kA, h.size = b → St p l e R s m args below meth c n0 T' h' (k + 1) (n + cap) → Ext h h' → Arv Z h' b kA (.array ty) z [] .null → Exa Z h' b ad → OvrA Z kA ty K → n0 ≤ b → Run p e below n0 Q G m T' pc' ls (.ref b :: st)) (hp : pc + 3 = pc' := by rfl) (hc : cap * 8 ≤ 536870912 ∧ k + 1 ≤ R.cells ∧ n + cap ≤ R.slots := by decide) : Run p e below n0 Q G m T pc ls (.int z :: st) := by
  subst hp
  have hs := X.sz
  obtain ⟨locs, Y, eT, N, q⟩ := X
  obtain ⟨T', h', kA, Y', e', E, A, EA, O, f⟩ := newRA Y C.1 C.2.1 C.2.2.2.2.1 hC (C.w w1) (C.w w2) eT (g := mkF m pc ls (.int z :: st)) rfl (C.d hd) rfl hz hcap hc.1 hc.2.1 hc.2.2 had
  exact Run.step f (r T' h' _ kA rfl ⟨locs, Y', e', N, q⟩ E (Arv.new A hz) EA O hs)
theorem s_anewarray (pc' : Nat) (cap : Nat) (ad : String) (C : Cx tabs a0 Z own nm code ml ret p s m meth c) (X : St p l e R s m args below meth c n0 T h k n) {K : String} {idx : Nat} {z : Int32} (hd : decode code pc = .ok (.anewarray idx, 3)) (w1 : Jvm.Cond.classLink own idx K ∈ tabs) (w2 : Jvm.Cond.arrayOver (.object K) ∈ tabs) (hz : ¬ z < 0) (hcap : z.toNatClampNeg ≤ cap) (had : "[" ++ (FieldType.object K).toString = ad)
    (r : ∀ T' h' b kA, h.size = b → St p l e R s m args below meth c n0 T' h' (k + 1) (n + cap) → Ext h h' → Arv Z h' b kA (.object K) z [] .null → Exa Z h' b ad → Ovr Z kA K → n0 ≤ b → Run p e below n0 Q G m T' pc' ls (.ref b :: st)) (hp : pc + 3 = pc' := by rfl) (hc : cap * 8 ≤ 536870912 ∧ k + 1 ≤ R.cells ∧ n + cap ≤ R.slots := by decide) : Run p e below n0 Q G m T pc ls (.int z :: st) := by
  subst hp
  have hs := X.sz
  obtain ⟨locs, Y, eT, N, q⟩ := X
  obtain ⟨T', h', kA, Y', e', E, A, EA, O, f⟩ := newRE Y C.1 C.2.1 C.2.2.2.2.1 (C.w w1) (C.w w2) eT (g := mkF m pc ls (.int z :: st)) rfl (C.d hd) rfl hz hcap hc.1 hc.2.1 hc.2.2 had
  exact Run.step f (r T' h' _ kA rfl ⟨locs, Y', e', N, q⟩ E (Arv.new A hz) EA O hs)
theorem s_aastore (pc' : Nat) (i : Nat) (C : Cx tabs a0 Z own nm code ml ret p s m meth c) (X : St p l e R s m args below meth c n0 T h k n) {a : Addr} {kA : ClassId} {ty : FieldType} {z j : Int32} {v : Value} {vs : List Value} {dv : Value} (hd : decode code pc = .ok (.aastore, 1)) (F : Arv Z h a kA ty z vs dv) (ht : ty.isReference = true) (hf : fits ty v = true) (hS : ∀ cl, Arr Z h a cl ty → cl.cls = kA → Sto Z h a v) (ge : n0 ≤ a) (hj : ¬ j < 0 ∧ j < z) (hi : j.toNatClampNeg = i) (hl : i < vs.length)
    (r : ∀ T' h', St p l e R s m args below meth c n0 T' h' k n → Wr h h' a j.toNatClampNeg v → Arv Z h' a kA ty z (vs.set i v) dv → Run p e below n0 Q G m T' pc' ls st) (hp : pc + 1 = pc' := by rfl) : Run p e below n0 Q G m T pc ls (v :: .int j :: .ref a :: st) := by
  subst hp
  obtain ⟨locs, Y, eT, N, q⟩ := X
  obtain ⟨cl, A, q1, S, q3, H, G⟩ := F
  obtain ⟨T', h', Y', e', W, f⟩ := RoadKit.stR Y C.1 C.2.1 eT A (j := j) (inb_of S hj) ht (hS cl A q1) (g := mkF m pc ls (v :: .int j :: .ref a :: st)) rfl rfl (C.d hd)
  exact Run.step f (r T' h' ⟨_, Y', e', Fr.snoc Y' N ge, q⟩ W (Arv.set A q1 S q3 H G hf W i hi hl))
theorem s_arraycopy (pc' : Nat) (W : Nat) (vs' : List Value) (C : Cx tabs a0 Z own nm code ml ret p s m meth c) (X : St p l e R s m args below meth c n0 T h k n) {idx : Nat} {a b : Addr} {kA kB : ClassId} {ty : FieldType} {z z' sp dp nn : Int32} {va vb : List Value} {da db : Value} (hd : decode code pc = .ok (.invokestatic idx, 3)) (w1 : Jvm.Cond.methodLink own idx Jvm.Stand.acN ∈ tabs) (w2 : Jvm.Cond.native Jvm.Stand.acN ∈ tabs) (w3 : Jvm.Cond.static Jvm.Stand.acN ∈ tabs) (w4 : Jvm.Cond.initialized "java/lang/System" ∈ tabs)
    (A : Arv Z h a kA ty z va da) (B : Arv Z h b kB ty z' vb db) (hty : refKind ty = false) (h1 : ¬ sp < 0) (h2 : ¬ dp < 0) (h3 : ¬ nn < 0) (h4 : sp.toNatClampNeg + nn.toNatClampNeg ≤ z.toNatClampNeg) (h5 : dp.toNatClampNeg + nn.toNatClampNeg ≤ z'.toNatClampNeg) (hl : dp.toNatClampNeg + nn.toNatClampNeg ≤ vb.length) (ge : n0 ≤ b)
    (hv : vb.take dp.toNatClampNeg ++ ((List.range nn.toNatClampNeg).map fun i => va.getD (sp.toNatClampNeg + i) da) ++ vb.drop (dp.toNatClampNeg + nn.toNatClampNeg) = vs') (hsz : ls.size = ml) (hW : (st.map fun v => v.category).sum = W)
    (r : ∀ T' h', St p l e R s m args below meth c n0 T' h' k n → Keep h h' [b] → Arv Z h' b kB ty z' vs' db → Run p e below n0 Q G m T' pc' ls st) (hp : pc + 3 = pc' := by rfl) (hc : 1 ≤ R.frames ∧ W + (nativeFrameWords "java/lang/System" "arraycopy" 5 + 11) ≤ R.locals := by decide) : Run p e below n0 Q G m T pc ls (.int nn :: .int dp :: .ref b :: .int sp :: .ref a :: st) := by
  subst hp hv
  obtain ⟨locs, Y, eT, N, q⟩ := X
  obtain ⟨T', h', L, Y', e', N', K, F, f⟩ := cpA Y C.1 C.2.1 C.2.2.2.2.1 (C.w w1) (C.w w2) (C.w w3) (C.w w4) eT A B (Or.inl ⟨rfl, hty⟩) h1 h2 h3 h4 h5 rfl hl N ge (g := mkF m pc ls (.int nn :: .int dp :: .ref b :: .int sp :: .ref a :: st)) rfl (hsz.trans C.2.2.2.1.symm) rfl (C.d hd) hc.1 (W := W) (by show 2 * 0 + _ ≤ _; rw [hW]; omega) hc.2
  exact Run.step f (r T' h' ⟨_, Y', e', N', q⟩ K F)
/-- a method's contract at given arguments and a given heap -/
def Met (l : Launch) (Z : State) (y : MethodName) (bytes : ByteArray) (ml : Nat) (ret : Option FieldType) (rm : Room) (ws : List Jvm.Cond) (as : Array Value) (h : Heap) (n0 : Nat) (Q : Option Value → Heap → Prop) : Prop :=
  MetFree l y (head1 (Jvm.Cond.code y bytes ml ret :: ws) rm) (fun a U => a = as ∧ Z.Warmed39 U.vm ∧ U.heap = h) (fun _ _ _ _ _ => True) (fun _ U o U' => ∃ v L, o = .returned v ∧ (Q v U'.heap ∧ Fr n0 L) ∧ FrameEnd U o U' L rm.cells rm.slots)
theorem Met.mk {y : MethodName} {rm : Room} {ws : List Jvm.Cond} {as : Array Value} {ls0 : Array Slot} (hpl : plainFor y = true) (hw : ∀ d ∈ tabs, d.before a0 Z = true) (hn : n0 ≤ h.size) (hef : ∀ m, entryFrame m as ml = mkF m 0 ls0 [])
    (body : ∀ p e s m below meth c T, Cx tabs a0 Z y.cls y.name code ml ret p s m meth c → St p l e rm s m as below meth c n0 T h 0 0 → Run p e below n0 Q (fun o t L => FrameEnd s o t L rm.cells rm.slots) m T 0 ls0 []) : Met l Z y code ml ret rm ws as h n0 Q := by
  refine MetFree.of_bodySF hpl hisR ?_
  intro p e s m args below meth c s₁ Bd hml0 hP hK
  obtain ⟨rfl, hZ, rfl⟩ := hP
  have X0 : Stand p l e rm s m args below meth c s₁ [] 0 0 := Stand.of_body Bd
  have e0 : s₁.heap = s.heap := by rw [Bd.state]; rfl
  have r := body p e s m below meth c s₁ ⟨Bd.exec, hZ, Bd.bytes, hml0, findClass_of_methodNamed Bd.named, Bd.returns, Bd.notSynchronized, (name_of_methodNamed Bd.named Bd.method).1, hw⟩ ⟨[], X0, e0, Fr.nil n0, hn⟩
  obtain ⟨s₂, o, h1, h2⟩ := r
  exact ⟨s₂, o, castTop (hef m) h1, h2⟩
theorem s_callS (pc' : Nat) (argsL rest : List Value) (W : Nat) (C : Cx tabs a0 Z own nm code ml ret p s m meth c) (X : St p l e R s m args below meth c n0 T h k n) {idx : Nat} {y : MethodName} {bytes : ByteArray} {maxL : Nat} {rt : Option FieldType} {rm : Room} {stk : List Value} {Q1 : Option Value → Heap → Prop} (hd : decode code pc = .ok (.invokestatic idx, 3)) (w1 : Jvm.Cond.methodLink own idx y ∈ tabs) (w2 : Jvm.Cond.static y ∈ tabs) (w3 : Jvm.Cond.initialized y.cls ∈ tabs) (w4 : Jvm.Cond.code y bytes maxL rt ∈ tabs)
    (M : Met l Z y bytes maxL rt rm [] argsL.toArray h n0 Q1) (hlen : ∀ sig, parseMethodDescriptor y.desc = some sig → argsL.length = sig.parameters.length) (hs : stk = argsL.reverse ++ rest) (hsz : ls.size = ml) (hW : (rest.map fun v => v.category).sum = W)
    (r : ∀ T' v h', St p l e R s m args below meth c n0 T' h' (k + rm.cells) (n + rm.slots) → Q1 v h' → Run p e below n0 Q G m T' pc' ls (v.toList ++ rest)) (hp : pc + 3 = pc' := by rfl) (hr : rm.frames + 1 ≤ R.frames ∧ W + (maxL + 11) + rm.locals ≤ R.locals ∧ k + rm.cells ≤ R.cells ∧ n + rm.slots ≤ R.slots := by decide) (hy : y.cls ≠ "java/lang/invoke/MethodHandle" ∧ y.cls ≠ "java/lang/invoke/VarHandle" := by decide) : Run p e below n0 Q G m T pc ls stk := by
  subst hp hs
  obtain ⟨locs, Y, eT, N, q⟩ := X
  obtain ⟨v, _, ⟨T1, L1, k1, n1⟩, -, Y', ⟨Lc, hQ, l1, y1, z1⟩, f⟩ := Jvm.LawKit.callS Y C.1 C.2.2.2.2.1 (mvT C.2.1 (C.w w1)) (mvT C.2.1 (C.w w2)) (mvT C.2.1 (C.w w3)) (mvT C.2.1 (C.w w4)) hy (backOf (W := W) (Q := fun v h L => Q1 v h ∧ Fr n0 L) M C.2.1 (C.w w4) (C.w w3) hr.1 hr.2.1) (g := mkF m pc ls (argsL.reverse ++ rest)) rfl (hsz.trans C.2.2.2.1.symm) (argsL := argsL) (rest := rest) hlen rfl (by show 2 * 0 + _ ≤ _; rw [hW]; omega) (C.d hd) (fun _ _ => ⟨rfl, eT, hr.2.2.1, hr.2.2.2⟩)
  dsimp only [Pt.U, Pt.locs, Pt.cells, Pt.slots] at Y' l1 y1 z1 f hQ
  subst l1 y1 z1
  exact Run.step f (r T1 v _ ⟨_, Y', rfl, Fr.app N hQ.2, q⟩ hQ.1)
theorem s_callC (pc' : Nat) (argsL rest : List Value) (W : Nat) (C : Cx tabs a0 Z own nm code ml ret p s m meth c) (X : St p l e R s m args below meth c n0 T h k n) {idx : Nat} {y : MethodName} {bytes : ByteArray} {maxL : Nat} {rm : Room} {stk : List Value} {Q1 : Option Value → Heap → Prop} {a : Addr} (hd : decode code pc = .ok (.invokespecial idx, 3)) (hi : y.name = "<init>") (w1 : Jvm.Cond.methodLink own idx y ∈ tabs) (w2 : Jvm.Cond.instanceMethod y ∈ tabs) (w3 : Jvm.Cond.initialized y.cls ∈ tabs) (w4 : Jvm.Cond.code y bytes maxL none ∈ tabs)
    (M : Met l Z y bytes maxL none rm [] (.ref a :: argsL).toArray h n0 Q1) (hlen : ∀ sig, parseMethodDescriptor y.desc = some sig → argsL.length = sig.parameters.length) (hs : stk = argsL.reverse ++ .ref a :: rest) (hsz : ls.size = ml) (hW : (rest.map fun v => v.category).sum = W)
    (r : ∀ T' v h', St p l e R s m args below meth c n0 T' h' (k + rm.cells) (n + rm.slots) → Q1 v h' → Run p e below n0 Q G m T' pc' ls (v.toList ++ rest)) (hp : pc + 3 = pc' := by rfl) (hr : rm.frames + 1 ≤ R.frames ∧ W + (maxL + 11) + rm.locals ≤ R.locals ∧ k + rm.cells ≤ R.cells ∧ n + rm.slots ≤ R.slots := by decide) (hy : y.cls ≠ "java/lang/invoke/MethodHandle" ∧ y.cls ≠ "java/lang/invoke/VarHandle" := by decide) : Run p e below n0 Q G m T pc ls stk := by
  subst hp hs
  obtain ⟨locs, Y, eT, N, q⟩ := X
  obtain ⟨v, _, ⟨T1, L1, k1, n1⟩, -, Y', ⟨Lc, hQ, l1, y1, z1⟩, f⟩ := Y.specialBack C.1 (y := y) hi C.2.2.2.2.1 (mvT C.2.1 (C.w w1)) (mvT C.2.1 (C.w w2)) (mvT C.2.1 (C.w w4)) hy (backOf (W := W) (Q := fun v h L => Q1 v h ∧ Fr n0 L) M C.2.1 (C.w w4) (C.w w3) hr.1 hr.2.1) (g := mkF m pc ls (argsL.reverse ++ .ref a :: rest)) rfl (hsz.trans C.2.2.2.1.symm) (Steps.refl _) (a := a) (argsL := argsL) (rest := rest) hlen rfl (by show 2 * 0 + _ ≤ _; rw [hW]; omega) (C.d hd) (fun _ _ => ⟨rfl, eT, hr.2.2.1, hr.2.2.2⟩)
  dsimp only [Pt.U, Pt.locs, Pt.cells, Pt.slots] at Y' l1 y1 z1 f hQ
  subst l1 y1 z1
  exact Run.steps f (r T1 v _ ⟨_, Y', rfl, Fr.app N hQ.2, q⟩ hQ.1)
theorem s_callV (pc' : Nat) (argsL rest : List Value) (W : Nat) (C : Cx tabs a0 Z own nm code ml ret p s m meth c) (X : St p l e R s m args below meth c n0 T h k n) {idx : Nat} {y : MethodName} {bytes : ByteArray} {maxL : Nat} {rt : Option FieldType} {rm : Room} {stk : List Value} {Q1 : Option Value → Heap → Prop} {y0 : MethodName} {K : String} {a : Addr} (hd : decode code pc = .ok (.invokevirtual idx, 3)) (w1 : Jvm.Cond.methodLink own idx y0 ∈ tabs) (w2 : Jvm.Cond.declares y0 ∈ tabs) (hnf : NotFace s y0) (w5 : Jvm.Cond.selects K y0 y ∈ tabs) (w6 : Jvm.Cond.instanceMethod y ∈ tabs) (w3 : Jvm.Cond.initialized y.cls ∈ tabs) (w4 : Jvm.Cond.code y bytes maxL rt ∈ tabs)
    (E : Exa Z h a K) (M : Met l Z y bytes maxL rt rm [] (.ref a :: argsL).toArray h n0 Q1) (hlen : ∀ sig, parseMethodDescriptor y0.desc = some sig → argsL.length = sig.parameters.length) (hs : stk = argsL.reverse ++ .ref a :: rest) (hsz : ls.size = ml) (hW : (rest.map fun v => v.category).sum = W)
    (r : ∀ T' v h', St p l e R s m args below meth c n0 T' h' (k + rm.cells) (n + rm.slots) → Q1 v h' → Run p e below n0 Q G m T' pc' ls (v.toList ++ rest)) (hp : pc + 3 = pc' := by rfl) (hr : rm.frames + 1 ≤ R.frames ∧ W + (maxL + 11) + rm.locals ≤ R.locals ∧ k + rm.cells ≤ R.cells ∧ n + rm.slots ≤ R.slots := by decide) (hy : y0.cls ≠ "java/lang/invoke/MethodHandle" ∧ y0.cls ≠ "java/lang/invoke/VarHandle" := by decide) : Run p e below n0 Q G m T pc ls stk := by
  subst hp hs
  obtain ⟨locs, Y, eT, N, q⟩ := X
  obtain ⟨cq, kq, qa, qb, qc⟩ := isOf C.2.1 eT E
  obtain ⟨v, _, ⟨T1, L1, k1, n1⟩, -, Y', ⟨Lc, hQ, l1, y1, z1⟩, f⟩ := Y.virtualBack C.1 (y := y0) (z := y) C.2.2.2.2.1 (mvT C.2.1 (C.w w1)) (mvT C.2.1 (C.w w2)) hnf (mvT C.2.1 (C.w w5)) (mvT C.2.1 (C.w w6)) hy (backOf (W := W) (Q := fun v h L => Q1 v h ∧ Fr n0 L) M C.2.1 (C.w w4) (C.w w3) hr.1 hr.2.1) qa qc (g := mkF m pc ls (argsL.reverse ++ .ref a :: rest)) rfl (hsz.trans C.2.2.2.1.symm) (Steps.refl _) (argsL := argsL) (rest := rest) hlen rfl (by show 2 * 0 + _ ≤ _; rw [hW]; omega) (C.d hd) (fun _ _ => ⟨rfl, eT, hr.2.2.1, hr.2.2.2⟩)
  dsimp only [Pt.U, Pt.locs, Pt.cells, Pt.slots] at Y' l1 y1 z1 f hQ
  subst l1 y1 z1
  exact Run.steps f (r T1 v _ ⟨_, Y', rfl, Fr.app N hQ.2, q⟩ hQ.1)
theorem s_callP (pc' : Nat) (argsL rest : List Value) (W : Nat) (C : Cx tabs a0 Z own nm code ml ret p s m meth c) (X : St p l e R s m args below meth c n0 T h k n) {idx : Nat} {y : MethodName} {bytes : ByteArray} {maxL : Nat} {rt : Option FieldType} {rm : Room} {stk : List Value} {Q1 : Option Value → Heap → Prop} {K : String} {a : Addr} (hd : decode code pc = .ok (.invokevirtual idx, 3)) (w1 : Jvm.Cond.methodLink own idx y ∈ tabs) (w2 : Jvm.Cond.instanceMethod y ∈ tabs) (w5 : Jvm.Cond.selects y.cls y y ∈ tabs) (w6 : Jvm.Cond.privateMethod y ∈ tabs) (w3 : Jvm.Cond.initialized y.cls ∈ tabs) (w4 : Jvm.Cond.code y bytes maxL rt ∈ tabs)
    (E : Exa Z h a K) (M : Met l Z y bytes maxL rt rm [] (.ref a :: argsL).toArray h n0 Q1) (hlen : ∀ sig, parseMethodDescriptor y.desc = some sig → argsL.length = sig.parameters.length) (hs : stk = argsL.reverse ++ .ref a :: rest) (hsz : ls.size = ml) (hW : (rest.map fun v => v.category).sum = W)
    (r : ∀ T' v h', St p l e R s m args below meth c n0 T' h' (k + rm.cells) (n + rm.slots) → Q1 v h' → Run p e below n0 Q G m T' pc' ls (v.toList ++ rest)) (hp : pc + 3 = pc' := by rfl) (hr : rm.frames + 1 ≤ R.frames ∧ W + (maxL + 11) + rm.locals ≤ R.locals ∧ k + rm.cells ≤ R.cells ∧ n + rm.slots ≤ R.slots := by decide) (hy : y.cls ≠ "java/lang/invoke/MethodHandle" ∧ y.cls ≠ "java/lang/invoke/VarHandle" := by decide) : Run p e below n0 Q G m T pc ls stk := by
  subst hp hs
  obtain ⟨locs, Y, eT, N, q⟩ := X
  obtain ⟨cq, qa, qb⟩ := E.cell
  obtain ⟨v, _, ⟨T1, L1, k1, n1⟩, -, Y', ⟨Lc, hQ, l1, y1, z1⟩, f⟩ := Y.privateBack C.1 (y := y) C.2.2.2.2.1 (mvT C.2.1 (C.w w1)) (mvT C.2.1 (C.w w2)) (mvT C.2.1 (C.w w5)) (Cond.privateMethod_at (mvP C.2.1 (C.w w6) (args := #[]))) (mvT C.2.1 (C.w w4)) hy (backOf (W := W) (Q := fun v h L => Q1 v h ∧ Fr n0 L) M C.2.1 (C.w w4) (C.w w3) hr.1 hr.2.1) (g := mkF m pc ls (argsL.reverse ++ .ref a :: rest)) rfl (hsz.trans C.2.2.2.1.symm) (Steps.refl _) (a := a) (by rw [eT]; exact qa) qb (argsL := argsL) (rest := rest) hlen rfl (by show 2 * 0 + _ ≤ _; rw [hW]; omega) (C.d hd) (fun _ _ => ⟨rfl, eT, hr.2.2.1, hr.2.2.2⟩)
  dsimp only [Pt.U, Pt.locs, Pt.cells, Pt.slots] at Y' l1 y1 z1 f hQ
  subst l1 y1 z1
  exact Run.steps f (r T1 v _ ⟨_, Y', rfl, Fr.app N hQ.2, q⟩ hQ.1)
theorem s_callPI (pc' : Nat) (argsL rest : List Value) (W : Nat) (C : Cx tabs a0 Z own nm code ml ret p s m meth c) (X : St p l e R s m args below meth c n0 T h k n) {idx : Nat} {y : MethodName} {bytes : ByteArray} {maxL : Nat} {rt : Option FieldType} {rm : Room} {stk : List Value} {Q1 : Option Value → Heap → Prop} {K : String} {a : Addr} {nn : Nat} (hd : decode code pc = .ok (.invokevirtual idx, 3)) (w1 : Jvm.Cond.methodLink own idx y ∈ tabs) (w2 : Jvm.Cond.instanceMethod y ∈ tabs) (w5 : Jvm.Cond.instantiable y.cls nn ∈ tabs) (w6 : Jvm.Cond.privateMethod y ∈ tabs) (w3 : Jvm.Cond.initialized y.cls ∈ tabs) (w4 : Jvm.Cond.code y bytes maxL rt ∈ tabs)
    (E : Exa Z h a K) (M : Met l Z y bytes maxL rt rm [] (.ref a :: argsL).toArray h n0 Q1) (hlen : ∀ sig, parseMethodDescriptor y.desc = some sig → argsL.length = sig.parameters.length) (hs : stk = argsL.reverse ++ .ref a :: rest) (hsz : ls.size = ml) (hW : (rest.map fun v => v.category).sum = W)
    (r : ∀ T' v h', St p l e R s m args below meth c n0 T' h' (k + rm.cells) (n + rm.slots) → Q1 v h' → Run p e below n0 Q G m T' pc' ls (v.toList ++ rest)) (hp : pc + 3 = pc' := by rfl) (hr : rm.frames + 1 ≤ R.frames ∧ W + (maxL + 11) + rm.locals ≤ R.locals ∧ k + rm.cells ≤ R.cells ∧ n + rm.slots ≤ R.slots := by decide) (hy : y.cls ≠ "java/lang/invoke/MethodHandle" ∧ y.cls ≠ "java/lang/invoke/VarHandle" := by decide) : Run p e below n0 Q G m T pc ls stk := by
  subst hp hs
  obtain ⟨locs, Y, eT, N, q⟩ := X
  obtain ⟨cq, qa, qb⟩ := E.cell
  obtain ⟨c1, k1, i1, i2, -, i4, -⟩ := Cond.instantiable_spec (mvT (args := args) C.2.1 (C.w w5))
  have hsel : (Jvm.Cond.selects y.cls y y).before args s = true := Jvm.Stand.selects_self_of_private i1 i2 (Bool.or_eq_false_iff.mp i4).1 (Cond.privateMethod_at (mvP C.2.1 (C.w w6) (args := #[]))) (mvT C.2.1 (C.w w2)) hy
  obtain ⟨v, _, ⟨T1, L1, k1, n1⟩, -, Y', ⟨Lc, hQ, l1, y1, z1⟩, f⟩ := Y.privateBack C.1 (y := y) C.2.2.2.2.1 (mvT C.2.1 (C.w w1)) (mvT C.2.1 (C.w w2)) hsel (Cond.privateMethod_at (mvP C.2.1 (C.w w6) (args := #[]))) (mvT C.2.1 (C.w w4)) hy (backOf (W := W) (Q := fun v h L => Q1 v h ∧ Fr n0 L) M C.2.1 (C.w w4) (C.w w3) hr.1 hr.2.1) (g := mkF m pc ls (argsL.reverse ++ .ref a :: rest)) rfl (hsz.trans C.2.2.2.1.symm) (Steps.refl _) (a := a) (by rw [eT]; exact qa) qb (argsL := argsL) (rest := rest) hlen rfl (by show 2 * 0 + _ ≤ _; rw [hW]; omega) (C.d hd) (fun _ _ => ⟨rfl, eT, hr.2.2.1, hr.2.2.2⟩)
  dsimp only [Pt.U, Pt.locs, Pt.cells, Pt.slots] at Y' l1 y1 z1 f hQ
  subst l1 y1 z1
  exact Run.steps f (r T1 v _ ⟨_, Y', rfl, Fr.app N hQ.2, q⟩ hQ.1)
theorem Met.mkQ {y : MethodName} {rm : Room} {ws : List Jvm.Cond} {as : Array Value} {ls0 : Array Slot} (hpl : plainFor y = true) (hw : ∀ d ∈ tabs, d.before a0 Z = true) (hn : n0 ≤ h.size) (hef : ∀ m, entryFrame m as ml = mkF m 0 ls0 [])
    (body : ∀ p e s m below meth c T (Q' : Option Value → Heap → Prop) (G' : Outcome → State → List Loc → Prop), (∀ v h', Q v h' → Q' v h') → (∀ v t L, FrameEnd s (.returned v) t L rm.cells rm.slots → G' (.returned v) t L) → Cx tabs a0 Z y.cls y.name code ml ret p s m meth c → St p l e rm s m as below meth c n0 T h 0 0 → Run p e below n0 Q' G' m T 0 ls0 []) : Met l Z y code ml ret rm ws as h n0 Q :=
  Met.mk hpl hw hn hef (fun p e s m below meth c T C X => body p e s m below meth c T Q _ (fun _ _ q => q) (fun _ _ _ q => q) C X)
theorem FG {kc ks : Nat} {G' : Outcome → State → List Loc → Prop} (hG : ∀ v t L, FrameEnd s (.returned v) t L kc ks → G' (.returned v) t L) (hk : k ≤ kc) (hn : n ≤ ks) : ∀ (v : Option Value) (t : State) (L : List Loc), t.heap = h → FrameEnd s (.returned v) t L k n → G' (.returned v) t L := fun v t L _ q => hG v t L ⟨q.1, q.2.1, q.2.2.mono hk hn⟩
theorem mW {α : Type} {l : List α} {a : α} (i : Nat) (h : l[i]? = some a) : a ∈ l := List.mem_of_getElem? h
theorem oth {Z : State} {h h' : Heap} {a b : Addr} {v w : Value} {a0 : Array Value} {K C n d O' n' d' : String} (F : Fld Z h b C n d w) (W : Wr h h' a (Jvm.RoadKit.slotOf Z O' n' d') v) (L : Laid Z a0 K C n d) (L' : Laid Z a0 K O' n' d') (q : (n != n' && (parseFieldDescriptor d).isSome && (parseFieldDescriptor d').isSome) = true) : Fld Z h' b C n d w := by
  simp only [Bool.and_eq_true, bne_iff_ne, Option.isSome_iff_exists] at q
  obtain ⟨⟨q1, t, q2⟩, t', q3⟩ := q
  exact F.other W (Or.inr (slot_ne L L' q1 q2 q3))
end A
end Jvm.OwnK
namespace Jvm.Pilot.@@N@@
open Jvm Jvm.ClassFile Sem Op Lib Jvm.Free Jvm.Stand Jvm.LawKit Jvm.RoadKit Bundle Jvm.OwnK Jvm.Pilot.@@N@@.Jvm.D
theorem pn_com_example_eventloom_eventloom_verification_CoverSearchGrantPinLaw : plainName "com/example/eventloom/eventloom/verification/CoverSearchGrantPinLaw" = true := by first | (simp [plainName, overriddenIn]; done) | decide +kernel
theorem kc_iconst_1 : Int32.ofInt 1 = (1 : Int32) := by decide +kernel
theorem kc_iconst_0 : Int32.ofInt 0 = (0 : Int32) := by decide +kernel
theorem kc_iconst_3 : Int32.ofInt 3 = (3 : Int32) := by decide +kernel
theorem d1_0 : decode prog_86_method_1_code 0 = .ok (.aload_n 0, 1) := by decide +kernel
theorem d1_1 : decode prog_86_method_1_code 1 = .ok (.invokespecial 1, 3) := by decide +kernel
theorem d1_4 : decode prog_86_method_1_code 4 = .ok (.aload_n 0, 1) := by decide +kernel
theorem d1_5 : decode prog_86_method_1_code 5 = .ok (.sipush 4096, 3) := by decide +kernel
theorem kc_sipush_4096 : (Int16.ofInt 4096).toInt32 = (4096 : Int32) := by decide +kernel
theorem d1_8 : decode prog_86_method_1_code 8 = .ok (.newarray .byte, 2) := by decide +kernel
theorem d1_10 : decode prog_86_method_1_code 10 = .ok (.putfield 7, 3) := by decide +kernel
theorem d1_13 : decode prog_86_method_1_code 13 = .ok (.aload_n 0, 1) := by decide +kernel
theorem d1_14 : decode prog_86_method_1_code 14 = .ok (.new 13, 3) := by decide +kernel
theorem d1_17 : decode prog_86_method_1_code 17 = .ok (.dup, 1) := by decide +kernel
theorem d1_18 : decode prog_86_method_1_code 18 = .ok (.invokespecial 15, 3) := by decide +kernel
theorem d3_0 : decode prog_85_method_1_code 0 = .ok (.aload_n 0, 1) := by decide +kernel
theorem d3_1 : decode prog_85_method_1_code 1 = .ok (.invokespecial 3, 3) := by decide +kernel
theorem d3_4 : decode prog_85_method_1_code 4 = .ok (.aload_n 0, 1) := by decide +kernel
theorem d3_5 : decode prog_85_method_1_code 5 = .ok (.bipush 16, 2) := by decide +kernel
theorem kc_bipush_16 : (Int8.ofInt 16).toInt32 = (16 : Int32) := by decide +kernel
theorem d3_7 : decode prog_85_method_1_code 7 = .ok (.newarray .int, 2) := by decide +kernel
theorem d3_9 : decode prog_85_method_1_code 9 = .ok (.putfield 9, 3) := by decide +kernel
theorem d3_12 : decode prog_85_method_1_code 12 = .ok (.return_, 1) := by decide +kernel
theorem pn_com_example_eventloom_eventloom_net_IntList : plainName "com/example/eventloom/eventloom/net/IntList" = true := by first | (simp [plainName, overriddenIn]; done) | decide +kernel
theorem pd___V : parseMethodDescriptor "()V" = some ⟨[], none⟩ := by decide +kernel
theorem d1_21 : decode prog_86_method_1_code 21 = .ok (.putfield 16, 3) := by decide +kernel
theorem d1_24 : decode prog_86_method_1_code 24 = .ok (.aload_n 0, 1) := by decide +kernel
theorem d1_25 : decode prog_86_method_1_code 25 = .ok (.new 13, 3) := by decide +kernel
theorem d1_28 : decode prog_86_method_1_code 28 = .ok (.dup, 1) := by decide +kernel
theorem d1_29 : decode prog_86_method_1_code 29 = .ok (.invokespecial 15, 3) := by decide +kernel
theorem d1_32 : decode prog_86_method_1_code 32 = .ok (.putfield 20, 3) := by decide +kernel
theorem d1_35 : decode prog_86_method_1_code 35 = .ok (.aload_n 0, 1) := by decide +kernel
theorem d1_36 : decode prog_86_method_1_code 36 = .ok (.bipush 16, 2) := by decide +kernel
theorem d1_38 : decode prog_86_method_1_code 38 = .ok (.invokestatic 23, 3) := by decide +kernel
theorem d4_0 : decode prog_86_method_16_code 0 = .ok (.iload_n 0, 1) := by decide +kernel
theorem d4_1 : decode prog_86_method_16_code 1 = .ok (.newarray .int, 2) := by decide +kernel
theorem d4_3 : decode prog_86_method_16_code 3 = .ok (.astore_n 1, 1) := by decide +kernel
theorem d4_4 : decode prog_86_method_16_code 4 = .ok (.aload_n 1, 1) := by decide +kernel
theorem d4_5 : decode prog_86_method_16_code 5 = .ok (.iconst (-1), 1) := by decide +kernel
theorem kc_iconst_m1 : Int32.ofInt (-1) = (-1 : Int32) := by decide +kernel
theorem d4_6 : decode prog_86_method_16_code 6 = .ok (.invokestatic 122, 3) := by decide +kernel
theorem d5_0 : decode jdk_65_method_103_code 0 = .ok (.iconst 0, 1) := by decide +kernel
theorem d5_1 : decode jdk_65_method_103_code 1 = .ok (.istore_n 2, 1) := by decide +kernel
theorem d5_2 : decode jdk_65_method_103_code 2 = .ok (.aload_n 0, 1) := by decide +kernel
theorem d5_3 : decode jdk_65_method_103_code 3 = .ok (.arraylength, 1) := by decide +kernel
theorem d5_4 : decode jdk_65_method_103_code 4 = .ok (.istore_n 3, 1) := by decide +kernel
theorem d5_5 : decode jdk_65_method_103_code 5 = .ok (.iload_n 2, 1) := by decide +kernel
theorem d5_6 : decode jdk_65_method_103_code 6 = .ok (.iload_n 3, 1) := by decide +kernel
theorem d5_7 : decode jdk_65_method_103_code 7 = .ok (.if_icmp .ge 13, 3) := by decide +kernel
theorem d5_10 : decode jdk_65_method_103_code 10 = .ok (.aload_n 0, 1) := by decide +kernel
theorem d5_11 : decode jdk_65_method_103_code 11 = .ok (.iload_n 2, 1) := by decide +kernel
theorem d5_12 : decode jdk_65_method_103_code 12 = .ok (.iload_n 1, 1) := by decide +kernel
theorem d5_13 : decode jdk_65_method_103_code 13 = .ok (.iastore, 1) := by decide +kernel
theorem d5_14 : decode jdk_65_method_103_code 14 = .ok (.iinc 2 1, 3) := by decide +kernel
theorem d5_17 : decode jdk_65_method_103_code 17 = .ok (.goto (-12), 3) := by decide +kernel
theorem d5_20 : decode jdk_65_method_103_code 20 = .ok (.return_, 1) := by decide +kernel
theorem pn_java_util_Arrays : plainName "java/util/Arrays" = true := by first | (simp [plainName, overriddenIn]; done) | decide +kernel
theorem pd___II_V : parseMethodDescriptor "([II)V" = some ⟨[(.array .int), .int], none⟩ := by decide +kernel
theorem d4_9 : decode prog_86_method_16_code 9 = .ok (.aload_n 1, 1) := by decide +kernel
theorem d4_10 : decode prog_86_method_16_code 10 = .ok (.areturn, 1) := by decide +kernel
theorem pn_com_example_eventloom_eventloom_net_MarkingStore : plainName "com/example/eventloom/eventloom/net/MarkingStore" = true := by first | (simp [plainName, overriddenIn]; done) | decide +kernel
theorem pd__I__I : parseMethodDescriptor "(I)[I" = some ⟨[.int], some (.array .int)⟩ := by decide +kernel
theorem d1_41 : decode prog_86_method_1_code 41 = .ok (.putfield 27, 3) := by decide +kernel
theorem d1_44 : decode prog_86_method_1_code 44 = .ok (.aload_n 0, 1) := by decide +kernel
theorem d1_45 : decode prog_86_method_1_code 45 = .ok (.bipush 64, 2) := by decide +kernel
theorem kc_bipush_64 : (Int8.ofInt 64).toInt32 = (64 : Int32) := by decide +kernel
theorem d1_47 : decode prog_86_method_1_code 47 = .ok (.newarray .byte, 2) := by decide +kernel
theorem d1_49 : decode prog_86_method_1_code 49 = .ok (.putfield 31, 3) := by decide +kernel
theorem d1_52 : decode prog_86_method_1_code 52 = .ok (.return_, 1) := by decide +kernel
theorem d6_0 : decode prog_86_method_4_code 0 = .ok (.aload_n 0, 1) := by decide +kernel
theorem d6_1 : decode prog_86_method_4_code 1 = .ok (.aload_n 1, 1) := by decide +kernel
theorem d6_2 : decode prog_86_method_4_code 2 = .ok (.invokevirtual 38, 3) := by decide +kernel
theorem d7_0 : decode prog_86_method_11_code 0 = .ok (.aload_n 0, 1) := by decide +kernel
theorem d7_1 : decode prog_86_method_11_code 1 = .ok (.iconst 0, 1) := by decide +kernel
theorem d7_2 : decode prog_86_method_11_code 2 = .ok (.putfield 50, 3) := by decide +kernel
theorem d7_5 : decode prog_86_method_11_code 5 = .ok (.iconst (-1), 1) := by decide +kernel
theorem d7_6 : decode prog_86_method_11_code 6 = .ok (.istore_n 2, 1) := by decide +kernel
theorem d7_7 : decode prog_86_method_11_code 7 = .ok (.iconst 0, 1) := by decide +kernel
theorem d7_8 : decode prog_86_method_11_code 8 = .ok (.istore_n 3, 1) := by decide +kernel
theorem d7_9 : decode prog_86_method_11_code 9 = .ok (.iload_n 3, 1) := by decide +kernel
theorem d7_10 : decode prog_86_method_11_code 10 = .ok (.aload_n 1, 1) := by decide +kernel
theorem d7_11 : decode prog_86_method_11_code 11 = .ok (.arraylength, 1) := by decide +kernel
theorem d7_12 : decode prog_86_method_11_code 12 = .ok (.if_icmp .ge 79, 3) := by decide +kernel
theorem d7_15 : decode prog_86_method_11_code 15 = .ok (.aload_n 1, 1) := by decide +kernel
theorem d7_16 : decode prog_86_method_11_code 16 = .ok (.iload_n 3, 1) := by decide +kernel
theorem d7_17 : decode prog_86_method_11_code 17 = .ok (.laload, 1) := by decide +kernel
theorem d7_18 : decode prog_86_method_11_code 18 = .ok (.lconst 0, 1) := by decide +kernel
theorem d7_19 : decode prog_86_method_11_code 19 = .ok (.lcmp, 1) := by decide +kernel
theorem kf_0 : (XT.cmpL (1 : Int64) (0 : Int64)) = (1 : Int32) := by decide +kernel
theorem d7_20 : decode prog_86_method_11_code 20 = .ok (.ifCond .eq 65, 3) := by decide +kernel
theorem d7_23 : decode prog_86_method_11_code 23 = .ok (.aload_n 0, 1) := by decide +kernel
theorem d7_24 : decode prog_86_method_11_code 24 = .ok (.getfield 50, 3) := by decide +kernel
theorem d7_27 : decode prog_86_method_11_code 27 = .ok (.bipush 20, 2) := by decide +kernel
theorem kc_bipush_20 : (Int8.ofInt 20).toInt32 = (20 : Int32) := by decide +kernel
theorem d7_29 : decode prog_86_method_11_code 29 = .ok (.iadd, 1) := by decide +kernel
theorem kf_1 : ((0 : Int32) + (20 : Int32)) = (20 : Int32) := by decide +kernel
theorem d7_30 : decode prog_86_method_11_code 30 = .ok (.aload_n 0, 1) := by decide +kernel
theorem d7_31 : decode prog_86_method_11_code 31 = .ok (.getfield 31, 3) := by decide +kernel
theorem d7_34 : decode prog_86_method_11_code 34 = .ok (.arraylength, 1) := by decide +kernel
theorem d7_35 : decode prog_86_method_11_code 35 = .ok (.if_icmp .le 31, 3) := by decide +kernel
theorem d7_66 : decode prog_86_method_11_code 66 = .ok (.aload_n 0, 1) := by decide +kernel
theorem d7_67 : decode prog_86_method_11_code 67 = .ok (.iload_n 3, 1) := by decide +kernel
theorem d7_68 : decode prog_86_method_11_code 68 = .ok (.iload_n 2, 1) := by decide +kernel
theorem d7_69 : decode prog_86_method_11_code 69 = .ok (.isub, 1) := by decide +kernel
theorem kf_2 : ((0 : Int32) - (-1 : Int32)) = (1 : Int32) := by decide +kernel
theorem d7_70 : decode prog_86_method_11_code 70 = .ok (.iconst 1, 1) := by decide +kernel
theorem d7_71 : decode prog_86_method_11_code 71 = .ok (.isub, 1) := by decide +kernel
theorem kf_3 : ((1 : Int32) - (1 : Int32)) = (0 : Int32) := by decide +kernel
theorem d7_72 : decode prog_86_method_11_code 72 = .ok (.i2l, 1) := by decide +kernel
theorem kf_4 : ((0 : Int32)).toInt64 = (0 : Int64) := by decide +kernel
theorem d7_73 : decode prog_86_method_11_code 73 = .ok (.invokevirtual 101, 3) := by decide +kernel
theorem d8_0 : decode prog_86_method_12_code 0 = .ok (.lload_n 1, 1) := by decide +kernel
theorem d8_1 : decode prog_86_method_12_code 1 = .ok (.lstore_n 3, 1) := by decide +kernel
theorem d8_2 : decode prog_86_method_12_code 2 = .ok (.lload_n 3, 1) := by decide +kernel
theorem d8_3 : decode prog_86_method_12_code 3 = .ok (.ldc2_w 105, 3) := by decide +kernel
theorem d8_6 : decode prog_86_method_12_code 6 = .ok (.land, 1) := by decide +kernel
theorem kf_5 : ((0 : Int64) &&& (-128 : Int64)) = (0 : Int64) := by decide +kernel
theorem d8_7 : decode prog_86_method_12_code 7 = .ok (.lconst 0, 1) := by decide +kernel
theorem d8_8 : decode prog_86_method_12_code 8 = .ok (.lcmp, 1) := by decide +kernel
theorem kf_6 : (XT.cmpL (0 : Int64) (0 : Int64)) = (0 : Int32) := by decide +kernel
theorem d8_9 : decode prog_86_method_12_code 9 = .ok (.ifCond .eq 38, 3) := by decide +kernel
theorem d8_47 : decode prog_86_method_12_code 47 = .ok (.aload_n 0, 1) := by decide +kernel
theorem d8_48 : decode prog_86_method_12_code 48 = .ok (.getfield 31, 3) := by decide +kernel
theorem d8_51 : decode prog_86_method_12_code 51 = .ok (.aload_n 0, 1) := by decide +kernel
theorem d8_52 : decode prog_86_method_12_code 52 = .ok (.dup, 1) := by decide +kernel
theorem d8_53 : decode prog_86_method_12_code 53 = .ok (.getfield 50, 3) := by decide +kernel
theorem d8_56 : decode prog_86_method_12_code 56 = .ok (.dup_x1, 1) := by decide +kernel
theorem d8_57 : decode prog_86_method_12_code 57 = .ok (.iconst 1, 1) := by decide +kernel
theorem d8_58 : decode prog_86_method_12_code 58 = .ok (.iadd, 1) := by decide +kernel
theorem kf_7 : ((0 : Int32) + (1 : Int32)) = (1 : Int32) := by decide +kernel
theorem d8_59 : decode prog_86_method_12_code 59 = .ok (.putfield 50, 3) := by decide +kernel
theorem d8_62 : decode prog_86_method_12_code 62 = .ok (.lload_n 3, 1) := by decide +kernel
theorem d8_63 : decode prog_86_method_12_code 63 = .ok (.l2i, 1) := by decide +kernel
theorem kf_8 : ((0 : Int64)).toInt32 = (0 : Int32) := by decide +kernel
theorem d8_64 : decode prog_86_method_12_code 64 = .ok (.i2b, 1) := by decide +kernel
theorem kf_9 : ((0 : Int32)).toInt8.toInt32 = (0 : Int32) := by decide +kernel
theorem d8_65 : decode prog_86_method_12_code 65 = .ok (.bastore, 1) := by decide +kernel
theorem d8_66 : decode prog_86_method_12_code 66 = .ok (.return_, 1) := by decide +kernel
theorem pd__J_V : parseMethodDescriptor "(J)V" = some ⟨[.long], none⟩ := by decide +kernel
theorem d7_76 : decode prog_86_method_11_code 76 = .ok (.aload_n 0, 1) := by decide +kernel
theorem d7_77 : decode prog_86_method_11_code 77 = .ok (.aload_n 1, 1) := by decide +kernel
theorem d7_78 : decode prog_86_method_11_code 78 = .ok (.iload_n 3, 1) := by decide +kernel
theorem d7_79 : decode prog_86_method_11_code 79 = .ok (.laload, 1) := by decide +kernel
theorem d7_80 : decode prog_86_method_11_code 80 = .ok (.invokevirtual 101, 3) := by decide +kernel
theorem kf_10 : ((1 : Int64) &&& (-128 : Int64)) = (0 : Int64) := by decide +kernel
theorem kf_11 : ((1 : Int32) + (1 : Int32)) = (2 : Int32) := by decide +kernel
theorem kf_12 : ((1 : Int64)).toInt32 = (1 : Int32) := by decide +kernel
theorem kf_13 : ((1 : Int32)).toInt8.toInt32 = (1 : Int32) := by decide +kernel
theorem d7_83 : decode prog_86_method_11_code 83 = .ok (.iload_n 3, 1) := by decide +kernel
theorem d7_84 : decode prog_86_method_11_code 84 = .ok (.istore_n 2, 1) := by decide +kernel
theorem d7_85 : decode prog_86_method_11_code 85 = .ok (.iinc 3 1, 3) := by decide +kernel
theorem d7_88 : decode prog_86_method_11_code 88 = .ok (.goto (-79), 3) := by decide +kernel
theorem d7_91 : decode prog_86_method_11_code 91 = .ok (.iconst 1, 1) := by decide +kernel
theorem d7_92 : decode prog_86_method_11_code 92 = .ok (.istore_n 3, 1) := by decide +kernel
theorem d7_93 : decode prog_86_method_11_code 93 = .ok (.iconst 0, 1) := by decide +kernel
theorem d7_94 : decode prog_86_method_11_code 94 = .ok (.istore 4, 2) := by decide +kernel
theorem d7_96 : decode prog_86_method_11_code 96 = .ok (.iload 4, 2) := by decide +kernel
theorem d7_98 : decode prog_86_method_11_code 98 = .ok (.aload_n 0, 1) := by decide +kernel
theorem d7_99 : decode prog_86_method_11_code 99 = .ok (.getfield 50, 3) := by decide +kernel
theorem d7_102 : decode prog_86_method_11_code 102 = .ok (.if_icmp .ge 22, 3) := by decide +kernel
theorem d7_105 : decode prog_86_method_11_code 105 = .ok (.bipush 31, 2) := by decide +kernel
theorem kc_bipush_31 : (Int8.ofInt 31).toInt32 = (31 : Int32) := by decide +kernel
theorem d7_107 : decode prog_86_method_11_code 107 = .ok (.iload_n 3, 1) := by decide +kernel
theorem d7_108 : decode prog_86_method_11_code 108 = .ok (.imul, 1) := by decide +kernel
theorem kf_14 : ((31 : Int32) * (1 : Int32)) = (31 : Int32) := by decide +kernel
theorem d7_109 : decode prog_86_method_11_code 109 = .ok (.aload_n 0, 1) := by decide +kernel
theorem d7_110 : decode prog_86_method_11_code 110 = .ok (.getfield 31, 3) := by decide +kernel
theorem d7_113 : decode prog_86_method_11_code 113 = .ok (.iload 4, 2) := by decide +kernel
theorem d7_115 : decode prog_86_method_11_code 115 = .ok (.baload, 1) := by decide +kernel
theorem d7_116 : decode prog_86_method_11_code 116 = .ok (.iadd, 1) := by decide +kernel
theorem kf_15 : ((31 : Int32) + (0 : Int32)) = (31 : Int32) := by decide +kernel
theorem d7_117 : decode prog_86_method_11_code 117 = .ok (.istore_n 3, 1) := by decide +kernel
theorem d7_118 : decode prog_86_method_11_code 118 = .ok (.iinc 4 1, 3) := by decide +kernel
theorem d7_121 : decode prog_86_method_11_code 121 = .ok (.goto (-25), 3) := by decide +kernel
theorem kf_16 : ((31 : Int32) * (31 : Int32)) = (961 : Int32) := by decide +kernel
theorem kf_17 : ((961 : Int32) + (1 : Int32)) = (962 : Int32) := by decide +kernel
theorem d7_124 : decode prog_86_method_11_code 124 = .ok (.aload_n 0, 1) := by decide +kernel
theorem d7_125 : decode prog_86_method_11_code 125 = .ok (.iload_n 3, 1) := by decide +kernel
theorem d7_126 : decode prog_86_method_11_code 126 = .ok (.putfield 73, 3) := by decide +kernel
theorem d7_129 : decode prog_86_method_11_code 129 = .ok (.return_, 1) := by decide +kernel
theorem pd___J_V : parseMethodDescriptor "([J)V" = some ⟨[(.array .long)], none⟩ := by decide +kernel
theorem d6_5 : decode prog_86_method_4_code 5 = .ok (.aload_n 0, 1) := by decide +kernel
theorem d6_6 : decode prog_86_method_4_code 6 = .ok (.invokevirtual 42, 3) := by decide +kernel
theorem d9_0 : decode prog_86_method_13_code 0 = .ok (.aload_n 0, 1) := by decide +kernel
theorem d9_1 : decode prog_86_method_13_code 1 = .ok (.getfield 27, 3) := by decide +kernel
theorem d9_4 : decode prog_86_method_13_code 4 = .ok (.arraylength, 1) := by decide +kernel
theorem d9_5 : decode prog_86_method_13_code 5 = .ok (.iconst 1, 1) := by decide +kernel
theorem d9_6 : decode prog_86_method_13_code 6 = .ok (.isub, 1) := by decide +kernel
theorem kf_18 : ((16 : Int32) - (1 : Int32)) = (15 : Int32) := by decide +kernel
theorem d9_7 : decode prog_86_method_13_code 7 = .ok (.istore_n 1, 1) := by decide +kernel
theorem d9_8 : decode prog_86_method_13_code 8 = .ok (.aload_n 0, 1) := by decide +kernel
theorem d9_9 : decode prog_86_method_13_code 9 = .ok (.getfield 73, 3) := by decide +kernel
theorem d9_12 : decode prog_86_method_13_code 12 = .ok (.invokestatic 111, 3) := by decide +kernel
theorem d10_0 : decode prog_86_method_17_code 0 = .ok (.iload_n 0, 1) := by decide +kernel
theorem d10_1 : decode prog_86_method_17_code 1 = .ok (.iload_n 0, 1) := by decide +kernel
theorem d10_2 : decode prog_86_method_17_code 2 = .ok (.bipush 16, 2) := by decide +kernel
theorem d10_4 : decode prog_86_method_17_code 4 = .ok (.iushr, 1) := by decide +kernel
theorem kf_19 : (((962 : Int32)).toUInt32 >>> ((16 : Int32) &&& 31).toUInt32).toInt32 = (0 : Int32) := by decide +kernel
theorem d10_5 : decode prog_86_method_17_code 5 = .ok (.ixor, 1) := by decide +kernel
theorem kf_20 : ((962 : Int32) ^^^ (0 : Int32)) = (962 : Int32) := by decide +kernel
theorem d10_6 : decode prog_86_method_17_code 6 = .ok (.istore_n 1, 1) := by decide +kernel
theorem d10_7 : decode prog_86_method_17_code 7 = .ok (.iload_n 1, 1) := by decide +kernel
theorem d10_8 : decode prog_86_method_17_code 8 = .ok (.ldc 125, 2) := by decide +kernel
theorem d10_10 : decode prog_86_method_17_code 10 = .ok (.imul, 1) := by decide +kernel
theorem kf_21 : ((962 : Int32) * (-2048144789 : Int32)) = (1074701846 : Int32) := by decide +kernel
theorem d10_11 : decode prog_86_method_17_code 11 = .ok (.istore_n 1, 1) := by decide +kernel
theorem d10_12 : decode prog_86_method_17_code 12 = .ok (.iload_n 1, 1) := by decide +kernel
theorem d10_13 : decode prog_86_method_17_code 13 = .ok (.iload_n 1, 1) := by decide +kernel
theorem d10_14 : decode prog_86_method_17_code 14 = .ok (.bipush 13, 2) := by decide +kernel
theorem kc_bipush_13 : (Int8.ofInt 13).toInt32 = (13 : Int32) := by decide +kernel
theorem d10_16 : decode prog_86_method_17_code 16 = .ok (.iushr, 1) := by decide +kernel
theorem kf_22 : (((1074701846 : Int32)).toUInt32 >>> ((13 : Int32) &&& 31).toUInt32).toInt32 = (131189 : Int32) := by decide +kernel
theorem d10_17 : decode prog_86_method_17_code 17 = .ok (.ixor, 1) := by decide +kernel
theorem kf_23 : ((1074701846 : Int32) ^^^ (131189 : Int32)) = (1074570851 : Int32) := by decide +kernel
theorem d10_18 : decode prog_86_method_17_code 18 = .ok (.istore_n 1, 1) := by decide +kernel
theorem d10_19 : decode prog_86_method_17_code 19 = .ok (.iload_n 1, 1) := by decide +kernel
theorem d10_20 : decode prog_86_method_17_code 20 = .ok (.ldc 126, 2) := by decide +kernel
theorem d10_22 : decode prog_86_method_17_code 22 = .ok (.imul, 1) := by decide +kernel
theorem kf_24 : ((1074570851 : Int32) * (-1028477387 : Int32)) = (-1836336001 : Int32) := by decide +kernel
theorem d10_23 : decode prog_86_method_17_code 23 = .ok (.istore_n 1, 1) := by decide +kernel
theorem d10_24 : decode prog_86_method_17_code 24 = .ok (.iload_n 1, 1) := by decide +kernel
theorem d10_25 : decode prog_86_method_17_code 25 = .ok (.iload_n 1, 1) := by decide +kernel
theorem d10_26 : decode prog_86_method_17_code 26 = .ok (.bipush 16, 2) := by decide +kernel
theorem d10_28 : decode prog_86_method_17_code 28 = .ok (.iushr, 1) := by decide +kernel
theorem kf_25 : (((-1836336001 : Int32)).toUInt32 >>> ((16 : Int32) &&& 31).toUInt32).toInt32 = (37515 : Int32) := by decide +kernel
theorem d10_29 : decode prog_86_method_17_code 29 = .ok (.ixor, 1) := by decide +kernel
theorem kf_26 : ((-1836336001 : Int32) ^^^ (37515 : Int32)) = (-1836372236 : Int32) := by decide +kernel
theorem d10_30 : decode prog_86_method_17_code 30 = .ok (.ireturn, 1) := by decide +kernel
theorem pd__I_I : parseMethodDescriptor "(I)I" = some ⟨[.int], some .int⟩ := by decide +kernel
theorem d9_15 : decode prog_86_method_13_code 15 = .ok (.iload_n 1, 1) := by decide +kernel
theorem d9_16 : decode prog_86_method_13_code 16 = .ok (.iand, 1) := by decide +kernel
theorem kf_27 : ((-1836372236 : Int32) &&& (15 : Int32)) = (4 : Int32) := by decide +kernel
theorem d9_17 : decode prog_86_method_13_code 17 = .ok (.istore_n 2, 1) := by decide +kernel
theorem d9_18 : decode prog_86_method_13_code 18 = .ok (.aload_n 0, 1) := by decide +kernel
theorem d9_19 : decode prog_86_method_13_code 19 = .ok (.getfield 27, 3) := by decide +kernel
theorem d9_22 : decode prog_86_method_13_code 22 = .ok (.iload_n 2, 1) := by decide +kernel
theorem d9_23 : decode prog_86_method_13_code 23 = .ok (.iaload, 1) := by decide +kernel
theorem d9_24 : decode prog_86_method_13_code 24 = .ok (.istore_n 3, 1) := by decide +kernel
theorem d9_25 : decode prog_86_method_13_code 25 = .ok (.iload_n 3, 1) := by decide +kernel
theorem d9_26 : decode prog_86_method_13_code 26 = .ok (.iconst (-1), 1) := by decide +kernel
theorem d9_27 : decode prog_86_method_13_code 27 = .ok (.if_icmp .eq 26, 3) := by decide +kernel
theorem d9_53 : decode prog_86_method_13_code 53 = .ok (.iload_n 2, 1) := by decide +kernel
theorem d9_54 : decode prog_86_method_13_code 54 = .ok (.ireturn, 1) := by decide +kernel
theorem pd___I : parseMethodDescriptor "()I" = some ⟨[], some .int⟩ := by decide +kernel
theorem d6_9 : decode prog_86_method_4_code 9 = .ok (.istore_n 2, 1) := by decide +kernel
theorem d6_10 : decode prog_86_method_4_code 10 = .ok (.aload_n 0, 1) := by decide +kernel
theorem d6_11 : decode prog_86_method_4_code 11 = .ok (.getfield 27, 3) := by decide +kernel
theorem d6_14 : decode prog_86_method_4_code 14 = .ok (.iload_n 2, 1) := by decide +kernel
theorem d6_15 : decode prog_86_method_4_code 15 = .ok (.iaload, 1) := by decide +kernel
theorem d6_16 : decode prog_86_method_4_code 16 = .ok (.iconst (-1), 1) := by decide +kernel
theorem d6_17 : decode prog_86_method_4_code 17 = .ok (.if_icmp .eq 10, 3) := by decide +kernel
theorem d6_27 : decode prog_86_method_4_code 27 = .ok (.aload_n 0, 1) := by decide +kernel
theorem d6_28 : decode prog_86_method_4_code 28 = .ok (.invokevirtual 45, 3) := by decide +kernel
theorem d11_0 : decode prog_86_method_2_code 0 = .ok (.aload_n 0, 1) := by decide +kernel
theorem d11_1 : decode prog_86_method_2_code 1 = .ok (.getfield 16, 3) := by decide +kernel
theorem d11_4 : decode prog_86_method_2_code 4 = .ok (.invokevirtual 34, 3) := by decide +kernel
theorem d12_0 : decode prog_85_method_2_code 0 = .ok (.aload_n 0, 1) := by decide +kernel
theorem d12_1 : decode prog_85_method_2_code 1 = .ok (.getfield 15, 3) := by decide +kernel
theorem d12_4 : decode prog_85_method_2_code 4 = .ok (.ireturn, 1) := by decide +kernel
theorem d11_7 : decode prog_86_method_2_code 7 = .ok (.ireturn, 1) := by decide +kernel
theorem d6_31 : decode prog_86_method_4_code 31 = .ok (.istore_n 3, 1) := by decide +kernel
theorem d6_32 : decode prog_86_method_4_code 32 = .ok (.aload_n 0, 1) := by decide +kernel
theorem d6_33 : decode prog_86_method_4_code 33 = .ok (.getfield 46, 3) := by decide +kernel
theorem d6_36 : decode prog_86_method_4_code 36 = .ok (.aload_n 0, 1) := by decide +kernel
theorem d6_37 : decode prog_86_method_4_code 37 = .ok (.getfield 50, 3) := by decide +kernel
theorem d6_40 : decode prog_86_method_4_code 40 = .ok (.iadd, 1) := by decide +kernel
theorem kf_28 : ((0 : Int32) + (2 : Int32)) = (2 : Int32) := by decide +kernel
theorem d6_41 : decode prog_86_method_4_code 41 = .ok (.aload_n 0, 1) := by decide +kernel
theorem d6_42 : decode prog_86_method_4_code 42 = .ok (.getfield 7, 3) := by decide +kernel
theorem d6_45 : decode prog_86_method_4_code 45 = .ok (.arraylength, 1) := by decide +kernel
theorem d6_46 : decode prog_86_method_4_code 46 = .ok (.if_icmp .le 33, 3) := by decide +kernel
theorem d6_79 : decode prog_86_method_4_code 79 = .ok (.aload_n 0, 1) := by decide +kernel
theorem d6_80 : decode prog_86_method_4_code 80 = .ok (.getfield 31, 3) := by decide +kernel
theorem d6_83 : decode prog_86_method_4_code 83 = .ok (.iconst 0, 1) := by decide +kernel
theorem d6_84 : decode prog_86_method_4_code 84 = .ok (.aload_n 0, 1) := by decide +kernel
theorem d6_85 : decode prog_86_method_4_code 85 = .ok (.getfield 7, 3) := by decide +kernel
theorem d6_88 : decode prog_86_method_4_code 88 = .ok (.aload_n 0, 1) := by decide +kernel
theorem d6_89 : decode prog_86_method_4_code 89 = .ok (.getfield 46, 3) := by decide +kernel
theorem d6_92 : decode prog_86_method_4_code 92 = .ok (.aload_n 0, 1) := by decide +kernel
theorem d6_93 : decode prog_86_method_4_code 93 = .ok (.getfield 50, 3) := by decide +kernel
theorem d6_96 : decode prog_86_method_4_code 96 = .ok (.invokestatic 63, 3) := by decide +kernel
theorem d6_99 : decode prog_86_method_4_code 99 = .ok (.aload_n 0, 1) := by decide +kernel
theorem d6_100 : decode prog_86_method_4_code 100 = .ok (.getfield 16, 3) := by decide +kernel
theorem d6_103 : decode prog_86_method_4_code 103 = .ok (.aload_n 0, 1) := by decide +kernel
theorem d6_104 : decode prog_86_method_4_code 104 = .ok (.getfield 46, 3) := by decide +kernel
theorem d6_107 : decode prog_86_method_4_code 107 = .ok (.invokevirtual 69, 3) := by decide +kernel
theorem d13_0 : decode prog_85_method_5_code 0 = .ok (.aload_n 0, 1) := by decide +kernel
theorem d13_1 : decode prog_85_method_5_code 1 = .ok (.getfield 15, 3) := by decide +kernel
theorem d13_4 : decode prog_85_method_5_code 4 = .ok (.aload_n 0, 1) := by decide +kernel
theorem d13_5 : decode prog_85_method_5_code 5 = .ok (.getfield 9, 3) := by decide +kernel
theorem d13_8 : decode prog_85_method_5_code 8 = .ok (.arraylength, 1) := by decide +kernel
theorem d13_9 : decode prog_85_method_5_code 9 = .ok (.if_icmp .ne 29, 3) := by decide +kernel
theorem d13_38 : decode prog_85_method_5_code 38 = .ok (.aload_n 0, 1) := by decide +kernel
theorem d13_39 : decode prog_85_method_5_code 39 = .ok (.getfield 9, 3) := by decide +kernel
theorem d13_42 : decode prog_85_method_5_code 42 = .ok (.aload_n 0, 1) := by decide +kernel
theorem d13_43 : decode prog_85_method_5_code 43 = .ok (.dup, 1) := by decide +kernel
theorem d13_44 : decode prog_85_method_5_code 44 = .ok (.getfield 15, 3) := by decide +kernel
theorem d13_47 : decode prog_85_method_5_code 47 = .ok (.dup_x1, 1) := by decide +kernel
theorem d13_48 : decode prog_85_method_5_code 48 = .ok (.iconst 1, 1) := by decide +kernel
theorem d13_49 : decode prog_85_method_5_code 49 = .ok (.iadd, 1) := by decide +kernel
theorem d13_50 : decode prog_85_method_5_code 50 = .ok (.putfield 15, 3) := by decide +kernel
theorem d13_53 : decode prog_85_method_5_code 53 = .ok (.iload_n 1, 1) := by decide +kernel
theorem d13_54 : decode prog_85_method_5_code 54 = .ok (.iastore, 1) := by decide +kernel
theorem d13_55 : decode prog_85_method_5_code 55 = .ok (.return_, 1) := by decide +kernel
theorem pd__I_V : parseMethodDescriptor "(I)V" = some ⟨[.int], none⟩ := by decide +kernel
theorem d6_110 : decode prog_86_method_4_code 110 = .ok (.aload_n 0, 1) := by decide +kernel
theorem d6_111 : decode prog_86_method_4_code 111 = .ok (.getfield 20, 3) := by decide +kernel
theorem d6_114 : decode prog_86_method_4_code 114 = .ok (.aload_n 0, 1) := by decide +kernel
theorem d6_115 : decode prog_86_method_4_code 115 = .ok (.getfield 73, 3) := by decide +kernel
theorem d6_118 : decode prog_86_method_4_code 118 = .ok (.invokevirtual 69, 3) := by decide +kernel
theorem d6_121 : decode prog_86_method_4_code 121 = .ok (.aload_n 0, 1) := by decide +kernel
theorem d6_122 : decode prog_86_method_4_code 122 = .ok (.dup, 1) := by decide +kernel
theorem d6_123 : decode prog_86_method_4_code 123 = .ok (.getfield 46, 3) := by decide +kernel
theorem d6_126 : decode prog_86_method_4_code 126 = .ok (.aload_n 0, 1) := by decide +kernel
theorem d6_127 : decode prog_86_method_4_code 127 = .ok (.getfield 50, 3) := by decide +kernel
theorem d6_130 : decode prog_86_method_4_code 130 = .ok (.iadd, 1) := by decide +kernel
theorem d6_131 : decode prog_86_method_4_code 131 = .ok (.putfield 46, 3) := by decide +kernel
theorem d6_134 : decode prog_86_method_4_code 134 = .ok (.aload_n 0, 1) := by decide +kernel
theorem d6_135 : decode prog_86_method_4_code 135 = .ok (.getfield 27, 3) := by decide +kernel
theorem d6_138 : decode prog_86_method_4_code 138 = .ok (.iload_n 2, 1) := by decide +kernel
theorem d6_139 : decode prog_86_method_4_code 139 = .ok (.iload_n 3, 1) := by decide +kernel
theorem d6_140 : decode prog_86_method_4_code 140 = .ok (.iastore, 1) := by decide +kernel
theorem d6_141 : decode prog_86_method_4_code 141 = .ok (.ldc2_w 76, 3) := by decide +kernel
theorem d6_144 : decode prog_86_method_4_code 144 = .ok (.aload_n 0, 1) := by decide +kernel
theorem d6_145 : decode prog_86_method_4_code 145 = .ok (.invokevirtual 45, 3) := by decide +kernel
theorem d6_148 : decode prog_86_method_4_code 148 = .ok (.i2l, 1) := by decide +kernel
theorem kf_29 : ((1 : Int32)).toInt64 = (1 : Int64) := by decide +kernel
theorem d6_149 : decode prog_86_method_4_code 149 = .ok (.lmul, 1) := by decide +kernel
theorem kf_30 : ((2 : Int64) * (1 : Int64)) = (2 : Int64) := by decide +kernel
theorem d6_150 : decode prog_86_method_4_code 150 = .ok (.aload_n 0, 1) := by decide +kernel
theorem d6_151 : decode prog_86_method_4_code 151 = .ok (.getfield 27, 3) := by decide +kernel
theorem d6_154 : decode prog_86_method_4_code 154 = .ok (.arraylength, 1) := by decide +kernel
theorem d6_155 : decode prog_86_method_4_code 155 = .ok (.i2l, 1) := by decide +kernel
theorem kf_31 : ((16 : Int32)).toInt64 = (16 : Int64) := by decide +kernel
theorem d6_156 : decode prog_86_method_4_code 156 = .ok (.lcmp, 1) := by decide +kernel
theorem kf_32 : (XT.cmpL (2 : Int64) (16 : Int64)) = (-1 : Int32) := by decide +kernel
theorem d6_157 : decode prog_86_method_4_code 157 = .ok (.ifCond .le 7, 3) := by decide +kernel
theorem d6_164 : decode prog_86_method_4_code 164 = .ok (.iload_n 3, 1) := by decide +kernel
theorem d6_165 : decode prog_86_method_4_code 165 = .ok (.ireturn, 1) := by decide +kernel
theorem pd___J_I : parseMethodDescriptor "([J)I" = some ⟨[(.array .long)], some .int⟩ := by decide +kernel
theorem d14_0 : decode prog_117_method_1_code 0 = .ok (.aload_n 0, 1) := by decide +kernel
theorem d14_1 : decode prog_117_method_1_code 1 = .ok (.invokespecial 1, 3) := by decide +kernel
theorem d14_4 : decode prog_117_method_1_code 4 = .ok (.aload_n 0, 1) := by decide +kernel
theorem d14_5 : decode prog_117_method_1_code 5 = .ok (.bipush 16, 2) := by decide +kernel
theorem d14_7 : decode prog_117_method_1_code 7 = .ok (.newarray .long, 2) := by decide +kernel
theorem d14_9 : decode prog_117_method_1_code 9 = .ok (.putfield 7, 3) := by decide +kernel
theorem d14_12 : decode prog_117_method_1_code 12 = .ok (.aload_n 0, 1) := by decide +kernel
theorem d14_13 : decode prog_117_method_1_code 13 = .ok (.new 13, 3) := by decide +kernel
theorem d14_16 : decode prog_117_method_1_code 16 = .ok (.dup, 1) := by decide +kernel
theorem d14_17 : decode prog_117_method_1_code 17 = .ok (.invokespecial 15, 3) := by decide +kernel
theorem d14_20 : decode prog_117_method_1_code 20 = .ok (.putfield 16, 3) := by decide +kernel
theorem d14_23 : decode prog_117_method_1_code 23 = .ok (.aload_n 0, 1) := by decide +kernel
theorem d14_24 : decode prog_117_method_1_code 24 = .ok (.new 20, 3) := by decide +kernel
theorem d14_27 : decode prog_117_method_1_code 27 = .ok (.dup, 1) := by decide +kernel
theorem d14_28 : decode prog_117_method_1_code 28 = .ok (.invokespecial 22, 3) := by decide +kernel
theorem d15_0 : decode prog_119_method_1_code 0 = .ok (.aload_n 0, 1) := by decide +kernel
theorem d15_1 : decode prog_119_method_1_code 1 = .ok (.invokespecial 3, 3) := by decide +kernel
theorem d15_4 : decode prog_119_method_1_code 4 = .ok (.aload_n 0, 1) := by decide +kernel
theorem d15_5 : decode prog_119_method_1_code 5 = .ok (.iconst 1, 1) := by decide +kernel
theorem d15_6 : decode prog_119_method_1_code 6 = .ok (.anewarray 9, 3) := by decide +kernel
theorem d15_9 : decode prog_119_method_1_code 9 = .ok (.putfield 11, 3) := by decide +kernel
theorem d15_12 : decode prog_119_method_1_code 12 = .ok (.return_, 1) := by decide +kernel
theorem pn_com_example_eventloom_eventloom_verification_IntBlockList : plainName "com/example/eventloom/eventloom/verification/IntBlockList" = true := by first | (simp [plainName, overriddenIn]; done) | decide +kernel
theorem d14_31 : decode prog_117_method_1_code 31 = .ok (.putfield 23, 3) := by decide +kernel
theorem d14_34 : decode prog_117_method_1_code 34 = .ok (.aload_n 0, 1) := by decide +kernel
theorem d14_35 : decode prog_117_method_1_code 35 = .ok (.new 13, 3) := by decide +kernel
theorem d14_38 : decode prog_117_method_1_code 38 = .ok (.dup, 1) := by decide +kernel
theorem d14_39 : decode prog_117_method_1_code 39 = .ok (.invokespecial 15, 3) := by decide +kernel
theorem d14_42 : decode prog_117_method_1_code 42 = .ok (.putfield 27, 3) := by decide +kernel
theorem d14_45 : decode prog_117_method_1_code 45 = .ok (.aload_n 0, 1) := by decide +kernel
theorem d14_46 : decode prog_117_method_1_code 46 = .ok (.aload_n 1, 1) := by decide +kernel
theorem d14_47 : decode prog_117_method_1_code 47 = .ok (.putfield 30, 3) := by decide +kernel
theorem d14_50 : decode prog_117_method_1_code 50 = .ok (.aload_n 0, 1) := by decide +kernel
theorem d14_51 : decode prog_117_method_1_code 51 = .ok (.aload_n 2, 1) := by decide +kernel
theorem d14_52 : decode prog_117_method_1_code 52 = .ok (.putfield 34, 3) := by decide +kernel
theorem d14_55 : decode prog_117_method_1_code 55 = .ok (.aload_n 0, 1) := by decide +kernel
theorem d14_56 : decode prog_117_method_1_code 56 = .ok (.iload 4, 2) := by decide +kernel
theorem d14_58 : decode prog_117_method_1_code 58 = .ok (.putfield 37, 3) := by decide +kernel
theorem d14_61 : decode prog_117_method_1_code 61 = .ok (.aload_n 0, 1) := by decide +kernel
theorem d14_62 : decode prog_117_method_1_code 62 = .ok (.iload_n 3, 1) := by decide +kernel
theorem d14_63 : decode prog_117_method_1_code 63 = .ok (.newarray .long, 2) := by decide +kernel
theorem d14_65 : decode prog_117_method_1_code 65 = .ok (.putfield 41, 3) := by decide +kernel
theorem d14_68 : decode prog_117_method_1_code 68 = .ok (.aload_n 0, 1) := by decide +kernel
theorem d14_69 : decode prog_117_method_1_code 69 = .ok (.iload_n 3, 1) := by decide +kernel
theorem d14_70 : decode prog_117_method_1_code 70 = .ok (.newarray .int, 2) := by decide +kernel
theorem d14_72 : decode prog_117_method_1_code 72 = .ok (.putfield 44, 3) := by decide +kernel
theorem d14_75 : decode prog_117_method_1_code 75 = .ok (.aload_n 0, 1) := by decide +kernel
theorem d14_76 : decode prog_117_method_1_code 76 = .ok (.iload_n 3, 1) := by decide +kernel
theorem d14_77 : decode prog_117_method_1_code 77 = .ok (.newarray .long, 2) := by decide +kernel
theorem d14_79 : decode prog_117_method_1_code 79 = .ok (.putfield 48, 3) := by decide +kernel
theorem d14_82 : decode prog_117_method_1_code 82 = .ok (.aload_n 0, 1) := by decide +kernel
theorem d14_83 : decode prog_117_method_1_code 83 = .ok (.iload_n 3, 1) := by decide +kernel
theorem d14_84 : decode prog_117_method_1_code 84 = .ok (.newarray .int, 2) := by decide +kernel
theorem d14_86 : decode prog_117_method_1_code 86 = .ok (.putfield 51, 3) := by decide +kernel
theorem d14_89 : decode prog_117_method_1_code 89 = .ok (.aload_n 0, 1) := by decide +kernel
theorem d14_90 : decode prog_117_method_1_code 90 = .ok (.iload_n 3, 1) := by decide +kernel
theorem d14_91 : decode prog_117_method_1_code 91 = .ok (.newarray .long, 2) := by decide +kernel
theorem d14_93 : decode prog_117_method_1_code 93 = .ok (.putfield 54, 3) := by decide +kernel
theorem d14_96 : decode prog_117_method_1_code 96 = .ok (.aload_n 0, 1) := by decide +kernel
theorem d14_97 : decode prog_117_method_1_code 97 = .ok (.iload_n 3, 1) := by decide +kernel
theorem d14_98 : decode prog_117_method_1_code 98 = .ok (.newarray .int, 2) := by decide +kernel
theorem d14_100 : decode prog_117_method_1_code 100 = .ok (.putfield 57, 3) := by decide +kernel
theorem d14_103 : decode prog_117_method_1_code 103 = .ok (.return_, 1) := by decide +kernel
theorem pn_com_example_eventloom_eventloom_verification_CoverSearch : plainName "com/example/eventloom/eventloom/verification/CoverSearch" = true := by first | (simp [plainName, overriddenIn]; done) | decide +kernel
theorem pd__Lcom_example_eventloom_eventloom_net_MarkingStore_Lcom_example_eventloom_eventloom_net_IntList_II_V : parseMethodDescriptor "(Lcom/example/eventloom/eventloom/net/MarkingStore;Lcom/example/eventloom/eventloom/net/IntList;II)V" = some ⟨[(.object "com/example/eventloom/eventloom/net/MarkingStore"), (.object "com/example/eventloom/eventloom/net/IntList"), .int, .int], none⟩ := by decide +kernel
theorem kc_iconst_2 : Int32.ofInt 2 = (2 : Int32) := by decide +kernel
theorem d16_0 : decode prog_117_method_4_code 0 = .ok (.aload_n 0, 1) := by decide +kernel
theorem d16_1 : decode prog_117_method_4_code 1 = .ok (.getfield 66, 3) := by decide +kernel
theorem d16_4 : decode prog_117_method_4_code 4 = .ok (.aload_n 0, 1) := by decide +kernel
theorem d16_5 : decode prog_117_method_4_code 5 = .ok (.getfield 30, 3) := by decide +kernel
theorem d16_8 : decode prog_117_method_4_code 8 = .ok (.invokevirtual 69, 3) := by decide +kernel
theorem d16_11 : decode prog_117_method_4_code 11 = .ok (.if_icmp .ge 221, 3) := by decide +kernel
theorem d16_14 : decode prog_117_method_4_code 14 = .ok (.aload_n 0, 1) := by decide +kernel
theorem d16_15 : decode prog_117_method_4_code 15 = .ok (.getfield 60, 3) := by decide +kernel
theorem d16_18 : decode prog_117_method_4_code 18 = .ok (.lconst 0, 1) := by decide +kernel
theorem d16_19 : decode prog_117_method_4_code 19 = .ok (.lcmp, 1) := by decide +kernel
theorem d16_20 : decode prog_117_method_4_code 20 = .ok (.ifCond .le 212, 3) := by decide +kernel
theorem d16_232 : decode prog_117_method_4_code 232 = .ok (.iconst (-1), 1) := by decide +kernel
theorem d16_233 : decode prog_117_method_4_code 233 = .ok (.ireturn, 1) := by decide +kernel
theorem d16_23 : decode prog_117_method_4_code 23 = .ok (.aload_n 0, 1) := by decide +kernel
theorem d16_24 : decode prog_117_method_4_code 24 = .ok (.getfield 30, 3) := by decide +kernel
theorem d16_27 : decode prog_117_method_4_code 27 = .ok (.aload_n 0, 1) := by decide +kernel
theorem d16_28 : decode prog_117_method_4_code 28 = .ok (.getfield 66, 3) := by decide +kernel
theorem d16_31 : decode prog_117_method_4_code 31 = .ok (.aload_n 0, 1) := by decide +kernel
theorem d16_32 : decode prog_117_method_4_code 32 = .ok (.getfield 44, 3) := by decide +kernel
theorem d16_35 : decode prog_117_method_4_code 35 = .ok (.aload_n 0, 1) := by decide +kernel
theorem d16_36 : decode prog_117_method_4_code 36 = .ok (.getfield 48, 3) := by decide +kernel
theorem d16_39 : decode prog_117_method_4_code 39 = .ok (.invokevirtual 75, 3) := by decide +kernel
theorem d19_0 : decode prog_86_method_6_code 0 = .ok (.aload_n 0, 1) := by decide +kernel
theorem d19_1 : decode prog_86_method_6_code 1 = .ok (.aload_n 0, 1) := by decide +kernel
theorem d19_2 : decode prog_86_method_6_code 2 = .ok (.getfield 16, 3) := by decide +kernel
theorem d19_5 : decode prog_86_method_6_code 5 = .ok (.iload_n 1, 1) := by decide +kernel
theorem d19_6 : decode prog_86_method_6_code 6 = .ok (.invokevirtual 85, 3) := by decide +kernel
theorem d20_0 : decode prog_85_method_3_code 0 = .ok (.aload_n 0, 1) := by decide +kernel
theorem d20_1 : decode prog_85_method_3_code 1 = .ok (.getfield 9, 3) := by decide +kernel
theorem d20_4 : decode prog_85_method_3_code 4 = .ok (.iload_n 1, 1) := by decide +kernel
theorem d20_5 : decode prog_85_method_3_code 5 = .ok (.iaload, 1) := by decide +kernel
theorem d20_6 : decode prog_85_method_3_code 6 = .ok (.ireturn, 1) := by decide +kernel
theorem d19_9 : decode prog_86_method_6_code 9 = .ok (.putfield 89, 3) := by decide +kernel
theorem d19_12 : decode prog_86_method_6_code 12 = .ok (.aload_n 0, 1) := by decide +kernel
theorem d19_13 : decode prog_86_method_6_code 13 = .ok (.iload_n 1, 1) := by decide +kernel
theorem d19_14 : decode prog_86_method_6_code 14 = .ok (.invokevirtual 92, 3) := by decide +kernel
theorem d21_0 : decode prog_86_method_9_code 0 = .ok (.iload_n 1, 1) := by decide +kernel
theorem d21_1 : decode prog_86_method_9_code 1 = .ok (.iconst 1, 1) := by decide +kernel
theorem d21_2 : decode prog_86_method_9_code 2 = .ok (.iadd, 1) := by decide +kernel
theorem d21_3 : decode prog_86_method_9_code 3 = .ok (.aload_n 0, 1) := by decide +kernel
theorem d21_4 : decode prog_86_method_9_code 4 = .ok (.invokevirtual 45, 3) := by decide +kernel
theorem d21_7 : decode prog_86_method_9_code 7 = .ok (.if_icmp .ge 16, 3) := by decide +kernel
theorem d21_23 : decode prog_86_method_9_code 23 = .ok (.aload_n 0, 1) := by decide +kernel
theorem d21_24 : decode prog_86_method_9_code 24 = .ok (.getfield 46, 3) := by decide +kernel
theorem d21_27 : decode prog_86_method_9_code 27 = .ok (.ireturn, 1) := by decide +kernel
theorem d19_17 : decode prog_86_method_6_code 17 = .ok (.istore 4, 2) := by decide +kernel
theorem d19_19 : decode prog_86_method_6_code 19 = .ok (.iconst 0, 1) := by decide +kernel
theorem d19_20 : decode prog_86_method_6_code 20 = .ok (.istore 5, 2) := by decide +kernel
theorem d19_22 : decode prog_86_method_6_code 22 = .ok (.iconst (-1), 1) := by decide +kernel
theorem d19_23 : decode prog_86_method_6_code 23 = .ok (.istore 6, 2) := by decide +kernel
theorem d19_25 : decode prog_86_method_6_code 25 = .ok (.aload_n 0, 1) := by decide +kernel
theorem d19_26 : decode prog_86_method_6_code 26 = .ok (.getfield 89, 3) := by decide +kernel
theorem d19_29 : decode prog_86_method_6_code 29 = .ok (.iload 4, 2) := by decide +kernel
theorem d19_31 : decode prog_86_method_6_code 31 = .ok (.if_icmp .ge 35, 3) := by decide +kernel
theorem d19_34 : decode prog_86_method_6_code 34 = .ok (.iload 6, 2) := by decide +kernel
theorem d19_36 : decode prog_86_method_6_code 36 = .ok (.aload_n 0, 1) := by decide +kernel
theorem d19_37 : decode prog_86_method_6_code 37 = .ok (.invokevirtual 95, 3) := by decide +kernel
theorem d22_0 : decode prog_86_method_10_code 0 = .ok (.lconst 0, 1) := by decide +kernel
theorem d22_1 : decode prog_86_method_10_code 1 = .ok (.lstore_n 1, 1) := by decide +kernel
theorem d22_2 : decode prog_86_method_10_code 2 = .ok (.iconst 0, 1) := by decide +kernel
theorem d22_3 : decode prog_86_method_10_code 3 = .ok (.istore_n 3, 1) := by decide +kernel
theorem d22_4 : decode prog_86_method_10_code 4 = .ok (.aload_n 0, 1) := by decide +kernel
theorem d22_5 : decode prog_86_method_10_code 5 = .ok (.getfield 7, 3) := by decide +kernel
theorem d22_8 : decode prog_86_method_10_code 8 = .ok (.aload_n 0, 1) := by decide +kernel
theorem d22_9 : decode prog_86_method_10_code 9 = .ok (.dup, 1) := by decide +kernel
theorem d22_10 : decode prog_86_method_10_code 10 = .ok (.getfield 89, 3) := by decide +kernel
theorem d22_13 : decode prog_86_method_10_code 13 = .ok (.dup_x1, 1) := by decide +kernel
theorem d22_14 : decode prog_86_method_10_code 14 = .ok (.iconst 1, 1) := by decide +kernel
theorem d22_15 : decode prog_86_method_10_code 15 = .ok (.iadd, 1) := by decide +kernel
theorem d22_16 : decode prog_86_method_10_code 16 = .ok (.putfield 89, 3) := by decide +kernel
theorem d22_19 : decode prog_86_method_10_code 19 = .ok (.baload, 1) := by decide +kernel
theorem d22_20 : decode prog_86_method_10_code 20 = .ok (.istore 4, 2) := by decide +kernel
theorem d22_22 : decode prog_86_method_10_code 22 = .ok (.lload_n 1, 1) := by decide +kernel
theorem d22_23 : decode prog_86_method_10_code 23 = .ok (.iload 4, 2) := by decide +kernel
theorem d22_25 : decode prog_86_method_10_code 25 = .ok (.bipush 127, 2) := by decide +kernel
theorem kc_bipush_127 : (Int8.ofInt 127).toInt32 = (127 : Int32) := by decide +kernel
theorem d22_27 : decode prog_86_method_10_code 27 = .ok (.iand, 1) := by decide +kernel
theorem kf_33 : ((0 : Int32) &&& (127 : Int32)) = (0 : Int32) := by decide +kernel
theorem d22_28 : decode prog_86_method_10_code 28 = .ok (.i2l, 1) := by decide +kernel
theorem d22_29 : decode prog_86_method_10_code 29 = .ok (.iload_n 3, 1) := by decide +kernel
theorem d22_30 : decode prog_86_method_10_code 30 = .ok (.lshl, 1) := by decide +kernel
theorem kf_34 : ((0 : Int64) <<< (((0 : Int32)).toInt64 &&& 63)) = (0 : Int64) := by decide +kernel
theorem d22_31 : decode prog_86_method_10_code 31 = .ok (.lor, 1) := by decide +kernel
theorem kf_35 : ((0 : Int64) ||| (0 : Int64)) = (0 : Int64) := by decide +kernel
theorem d22_32 : decode prog_86_method_10_code 32 = .ok (.lstore_n 1, 1) := by decide +kernel
theorem d22_33 : decode prog_86_method_10_code 33 = .ok (.iload 4, 2) := by decide +kernel
theorem d22_35 : decode prog_86_method_10_code 35 = .ok (.ifCond .lt 5, 3) := by decide +kernel
theorem d22_38 : decode prog_86_method_10_code 38 = .ok (.lload_n 1, 1) := by decide +kernel
theorem d22_39 : decode prog_86_method_10_code 39 = .ok (.lreturn, 1) := by decide +kernel
theorem pd___J : parseMethodDescriptor "()J" = some ⟨[], some .long⟩ := by decide +kernel
theorem d19_40 : decode prog_86_method_6_code 40 = .ok (.l2i, 1) := by decide +kernel
theorem d19_41 : decode prog_86_method_6_code 41 = .ok (.iconst 1, 1) := by decide +kernel
theorem d19_42 : decode prog_86_method_6_code 42 = .ok (.iadd, 1) := by decide +kernel
theorem d19_43 : decode prog_86_method_6_code 43 = .ok (.iadd, 1) := by decide +kernel
theorem kf_36 : ((-1 : Int32) + (1 : Int32)) = (0 : Int32) := by decide +kernel
theorem d19_44 : decode prog_86_method_6_code 44 = .ok (.istore 6, 2) := by decide +kernel
theorem d19_46 : decode prog_86_method_6_code 46 = .ok (.aload_n 2, 1) := by decide +kernel
theorem d19_47 : decode prog_86_method_6_code 47 = .ok (.iload 5, 2) := by decide +kernel
theorem d19_49 : decode prog_86_method_6_code 49 = .ok (.iload 6, 2) := by decide +kernel
theorem d19_51 : decode prog_86_method_6_code 51 = .ok (.iastore, 1) := by decide +kernel
theorem d19_52 : decode prog_86_method_6_code 52 = .ok (.aload_n 3, 1) := by decide +kernel
theorem d19_53 : decode prog_86_method_6_code 53 = .ok (.iload 5, 2) := by decide +kernel
theorem d19_55 : decode prog_86_method_6_code 55 = .ok (.aload_n 0, 1) := by decide +kernel
theorem d19_56 : decode prog_86_method_6_code 56 = .ok (.invokevirtual 95, 3) := by decide +kernel
theorem kf_37 : ((1 : Int32) &&& (127 : Int32)) = (1 : Int32) := by decide +kernel
theorem kf_38 : ((1 : Int64) <<< (((0 : Int32)).toInt64 &&& 63)) = (1 : Int64) := by decide +kernel
theorem kf_39 : ((0 : Int64) ||| (1 : Int64)) = (1 : Int64) := by decide +kernel
theorem d19_59 : decode prog_86_method_6_code 59 = .ok (.lastore, 1) := by decide +kernel
theorem d19_60 : decode prog_86_method_6_code 60 = .ok (.iinc 5 1, 3) := by decide +kernel
theorem d19_63 : decode prog_86_method_6_code 63 = .ok (.goto (-38), 3) := by decide +kernel
theorem d19_66 : decode prog_86_method_6_code 66 = .ok (.iload 5, 2) := by decide +kernel
theorem d19_68 : decode prog_86_method_6_code 68 = .ok (.ireturn, 1) := by decide +kernel
theorem pd__I_I_J_I : parseMethodDescriptor "(I[I[J)I" = some ⟨[.int, (.array .int), (.array .long)], some .int⟩ := by decide +kernel
theorem d16_42 : decode prog_117_method_4_code 42 = .ok (.istore_n 1, 1) := by decide +kernel
theorem d16_43 : decode prog_117_method_4_code 43 = .ok (.lconst 0, 1) := by decide +kernel
theorem d16_44 : decode prog_117_method_4_code 44 = .ok (.lstore_n 2, 1) := by decide +kernel
theorem d16_45 : decode prog_117_method_4_code 45 = .ok (.iconst 0, 1) := by decide +kernel
theorem d16_46 : decode prog_117_method_4_code 46 = .ok (.istore 4, 2) := by decide +kernel
theorem d16_48 : decode prog_117_method_4_code 48 = .ok (.iload 4, 2) := by decide +kernel
theorem d16_50 : decode prog_117_method_4_code 50 = .ok (.iload_n 1, 1) := by decide +kernel
theorem d16_51 : decode prog_117_method_4_code 51 = .ok (.if_icmp .ge 38, 3) := by decide +kernel
theorem d16_54 : decode prog_117_method_4_code 54 = .ok (.aload_n 0, 1) := by decide +kernel
theorem d16_55 : decode prog_117_method_4_code 55 = .ok (.getfield 41, 3) := by decide +kernel
theorem d16_58 : decode prog_117_method_4_code 58 = .ok (.aload_n 0, 1) := by decide +kernel
theorem d16_59 : decode prog_117_method_4_code 59 = .ok (.getfield 44, 3) := by decide +kernel
theorem d16_62 : decode prog_117_method_4_code 62 = .ok (.iload 4, 2) := by decide +kernel
theorem d16_64 : decode prog_117_method_4_code 64 = .ok (.iaload, 1) := by decide +kernel
theorem d16_65 : decode prog_117_method_4_code 65 = .ok (.aload_n 0, 1) := by decide +kernel
theorem d16_66 : decode prog_117_method_4_code 66 = .ok (.getfield 48, 3) := by decide +kernel
theorem d16_69 : decode prog_117_method_4_code 69 = .ok (.iload 4, 2) := by decide +kernel
theorem d16_71 : decode prog_117_method_4_code 71 = .ok (.laload, 1) := by decide +kernel
theorem d16_72 : decode prog_117_method_4_code 72 = .ok (.lastore, 1) := by decide +kernel
theorem d16_73 : decode prog_117_method_4_code 73 = .ok (.lload_n 2, 1) := by decide +kernel
theorem d16_74 : decode prog_117_method_4_code 74 = .ok (.aload_n 0, 1) := by decide +kernel
theorem d16_75 : decode prog_117_method_4_code 75 = .ok (.getfield 48, 3) := by decide +kernel
theorem d16_78 : decode prog_117_method_4_code 78 = .ok (.iload 4, 2) := by decide +kernel
theorem d16_80 : decode prog_117_method_4_code 80 = .ok (.laload, 1) := by decide +kernel
theorem d16_81 : decode prog_117_method_4_code 81 = .ok (.ladd, 1) := by decide +kernel
theorem kf_40 : ((0 : Int64) + (1 : Int64)) = (1 : Int64) := by decide +kernel
theorem d16_82 : decode prog_117_method_4_code 82 = .ok (.lstore_n 2, 1) := by decide +kernel
theorem d16_83 : decode prog_117_method_4_code 83 = .ok (.iinc 4 1, 3) := by decide +kernel
theorem d16_86 : decode prog_117_method_4_code 86 = .ok (.goto (-38), 3) := by decide +kernel
theorem d16_89 : decode prog_117_method_4_code 89 = .ok (.aload_n 0, 1) := by decide +kernel
theorem d16_90 : decode prog_117_method_4_code 90 = .ok (.getfield 34, 3) := by decide +kernel
theorem d16_93 : decode prog_117_method_4_code 93 = .ok (.aload_n 0, 1) := by decide +kernel
theorem d16_94 : decode prog_117_method_4_code 94 = .ok (.getfield 66, 3) := by decide +kernel
theorem d16_97 : decode prog_117_method_4_code 97 = .ok (.invokevirtual 79, 3) := by decide +kernel
theorem d16_100 : decode prog_117_method_4_code 100 = .ok (.istore 4, 2) := by decide +kernel
theorem d16_102 : decode prog_117_method_4_code 102 = .ok (.aload_n 0, 1) := by decide +kernel
theorem d16_103 : decode prog_117_method_4_code 103 = .ok (.aload_n 0, 1) := by decide +kernel
theorem d16_104 : decode prog_117_method_4_code 104 = .ok (.getfield 41, 3) := by decide +kernel
theorem d16_107 : decode prog_117_method_4_code 107 = .ok (.lload_n 2, 1) := by decide +kernel
theorem d16_108 : decode prog_117_method_4_code 108 = .ok (.iload 4, 2) := by decide +kernel
theorem d16_110 : decode prog_117_method_4_code 110 = .ok (.invokevirtual 83, 3) := by decide +kernel
theorem d23_0 : decode prog_117_method_6_code 0 = .ok (.iconst (-1), 1) := by decide +kernel
theorem d23_1 : decode prog_117_method_6_code 1 = .ok (.istore 5, 2) := by decide +kernel
theorem d23_3 : decode prog_117_method_6_code 3 = .ok (.iload 4, 2) := by decide +kernel
theorem d23_5 : decode prog_117_method_6_code 5 = .ok (.istore 6, 2) := by decide +kernel
theorem d23_7 : decode prog_117_method_6_code 7 = .ok (.iload 6, 2) := by decide +kernel
theorem d23_9 : decode prog_117_method_6_code 9 = .ok (.ifCond .lt 160, 3) := by decide +kernel
theorem d23_169 : decode prog_117_method_6_code 169 = .ok (.iload 5, 2) := by decide +kernel
theorem d23_171 : decode prog_117_method_6_code 171 = .ok (.ireturn, 1) := by decide +kernel
theorem pd___JJI_I : parseMethodDescriptor "([JJI)I" = some ⟨[(.array .long), .long, .int], some .int⟩ := by decide +kernel
theorem d16_113 : decode prog_117_method_4_code 113 = .ok (.istore 5, 2) := by decide +kernel
theorem d16_115 : decode prog_117_method_4_code 115 = .ok (.iconst 0, 1) := by decide +kernel
theorem d16_116 : decode prog_117_method_4_code 116 = .ok (.istore 6, 2) := by decide +kernel
theorem d16_118 : decode prog_117_method_4_code 118 = .ok (.iload 6, 2) := by decide +kernel
theorem d16_120 : decode prog_117_method_4_code 120 = .ok (.iload_n 1, 1) := by decide +kernel
theorem d16_121 : decode prog_117_method_4_code 121 = .ok (.if_icmp .ge 22, 3) := by decide +kernel
theorem d16_124 : decode prog_117_method_4_code 124 = .ok (.aload_n 0, 1) := by decide +kernel
theorem d16_125 : decode prog_117_method_4_code 125 = .ok (.getfield 41, 3) := by decide +kernel
theorem d16_128 : decode prog_117_method_4_code 128 = .ok (.aload_n 0, 1) := by decide +kernel
theorem d16_129 : decode prog_117_method_4_code 129 = .ok (.getfield 44, 3) := by decide +kernel
theorem d16_132 : decode prog_117_method_4_code 132 = .ok (.iload 6, 2) := by decide +kernel
theorem d16_134 : decode prog_117_method_4_code 134 = .ok (.iaload, 1) := by decide +kernel
theorem d16_135 : decode prog_117_method_4_code 135 = .ok (.lconst 0, 1) := by decide +kernel
theorem d16_136 : decode prog_117_method_4_code 136 = .ok (.lastore, 1) := by decide +kernel
theorem d16_137 : decode prog_117_method_4_code 137 = .ok (.iinc 6 1, 3) := by decide +kernel
theorem d16_140 : decode prog_117_method_4_code 140 = .ok (.goto (-22), 3) := by decide +kernel
theorem d16_143 : decode prog_117_method_4_code 143 = .ok (.iload 5, 2) := by decide +kernel
theorem d16_145 : decode prog_117_method_4_code 145 = .ok (.bipush (-2), 2) := by decide +kernel
theorem kc_bipush_m2 : (Int8.ofInt (-2)).toInt32 = (-2 : Int32) := by decide +kernel
theorem d16_147 : decode prog_117_method_4_code 147 = .ok (.if_icmp .ne 8, 3) := by decide +kernel
theorem d16_155 : decode prog_117_method_4_code 155 = .ok (.aload_n 0, 1) := by decide +kernel
theorem d16_156 : decode prog_117_method_4_code 156 = .ok (.getfield 66, 3) := by decide +kernel
theorem d16_159 : decode prog_117_method_4_code 159 = .ok (.aload_n 0, 1) := by decide +kernel
theorem d16_160 : decode prog_117_method_4_code 160 = .ok (.getfield 7, 3) := by decide +kernel
theorem d16_163 : decode prog_117_method_4_code 163 = .ok (.arraylength, 1) := by decide +kernel
theorem d16_164 : decode prog_117_method_4_code 164 = .ok (.if_icmp .ne 29, 3) := by decide +kernel
theorem d16_193 : decode prog_117_method_4_code 193 = .ok (.aload_n 0, 1) := by decide +kernel
theorem d16_194 : decode prog_117_method_4_code 194 = .ok (.getfield 7, 3) := by decide +kernel
theorem d16_197 : decode prog_117_method_4_code 197 = .ok (.aload_n 0, 1) := by decide +kernel
theorem d16_198 : decode prog_117_method_4_code 198 = .ok (.getfield 66, 3) := by decide +kernel
theorem d16_201 : decode prog_117_method_4_code 201 = .ok (.lload_n 2, 1) := by decide +kernel
theorem d16_202 : decode prog_117_method_4_code 202 = .ok (.lastore, 1) := by decide +kernel
theorem d16_203 : decode prog_117_method_4_code 203 = .ok (.aload_n 0, 1) := by decide +kernel
theorem d16_204 : decode prog_117_method_4_code 204 = .ok (.getfield 16, 3) := by decide +kernel
theorem d16_207 : decode prog_117_method_4_code 207 = .ok (.iload 5, 2) := by decide +kernel
theorem d16_209 : decode prog_117_method_4_code 209 = .ok (.invokevirtual 97, 3) := by decide +kernel
theorem d16_212 : decode prog_117_method_4_code 212 = .ok (.aload_n 0, 1) := by decide +kernel
theorem d16_213 : decode prog_117_method_4_code 213 = .ok (.iload_n 1, 1) := by decide +kernel
theorem d16_214 : decode prog_117_method_4_code 214 = .ok (.iload 4, 2) := by decide +kernel
theorem d16_216 : decode prog_117_method_4_code 216 = .ok (.invokevirtual 101, 3) := by decide +kernel
theorem d24_0 : decode prog_117_method_7_code 0 = .ok (.aload_n 0, 1) := by decide +kernel
theorem d24_1 : decode prog_117_method_7_code 1 = .ok (.getfield 27, 3) := by decide +kernel
theorem d24_4 : decode prog_117_method_7_code 4 = .ok (.aload_n 0, 1) := by decide +kernel
theorem d24_5 : decode prog_117_method_7_code 5 = .ok (.getfield 23, 3) := by decide +kernel
theorem d24_8 : decode prog_117_method_7_code 8 = .ok (.invokevirtual 123, 3) := by decide +kernel
theorem d25_0 : decode prog_119_method_2_code 0 = .ok (.aload_n 0, 1) := by decide +kernel
theorem d25_1 : decode prog_119_method_2_code 1 = .ok (.getfield 15, 3) := by decide +kernel
theorem d25_4 : decode prog_119_method_2_code 4 = .ok (.ireturn, 1) := by decide +kernel
theorem d24_11 : decode prog_117_method_7_code 11 = .ok (.invokevirtual 97, 3) := by decide +kernel
theorem d24_14 : decode prog_117_method_7_code 14 = .ok (.iconst 0, 1) := by decide +kernel
theorem d24_15 : decode prog_117_method_7_code 15 = .ok (.istore_n 3, 1) := by decide +kernel
theorem d24_16 : decode prog_117_method_7_code 16 = .ok (.iconst 0, 1) := by decide +kernel
theorem d24_17 : decode prog_117_method_7_code 17 = .ok (.istore 4, 2) := by decide +kernel
theorem d24_19 : decode prog_117_method_7_code 19 = .ok (.iload_n 2, 1) := by decide +kernel
theorem d24_20 : decode prog_117_method_7_code 20 = .ok (.ifCond .lt 30, 3) := by decide +kernel
theorem d24_50 : decode prog_117_method_7_code 50 = .ok (.iconst 0, 1) := by decide +kernel
theorem d24_51 : decode prog_117_method_7_code 51 = .ok (.istore 5, 2) := by decide +kernel
theorem d24_53 : decode prog_117_method_7_code 53 = .ok (.iconst 0, 1) := by decide +kernel
theorem d24_54 : decode prog_117_method_7_code 54 = .ok (.istore 6, 2) := by decide +kernel
theorem d24_56 : decode prog_117_method_7_code 56 = .ok (.iload 6, 2) := by decide +kernel
theorem d24_58 : decode prog_117_method_7_code 58 = .ok (.iload_n 1, 1) := by decide +kernel
theorem d24_59 : decode prog_117_method_7_code 59 = .ok (.if_icmp .ge 95, 3) := by decide +kernel
theorem d24_62 : decode prog_117_method_7_code 62 = .ok (.aload_n 0, 1) := by decide +kernel
theorem d24_63 : decode prog_117_method_7_code 63 = .ok (.getfield 44, 3) := by decide +kernel
theorem d24_66 : decode prog_117_method_7_code 66 = .ok (.iload 6, 2) := by decide +kernel
theorem d24_68 : decode prog_117_method_7_code 68 = .ok (.iaload, 1) := by decide +kernel
theorem d24_69 : decode prog_117_method_7_code 69 = .ok (.istore 7, 2) := by decide +kernel
theorem d24_71 : decode prog_117_method_7_code 71 = .ok (.iload 5, 2) := by decide +kernel
theorem d24_73 : decode prog_117_method_7_code 73 = .ok (.iload_n 3, 1) := by decide +kernel
theorem d24_74 : decode prog_117_method_7_code 74 = .ok (.if_icmp .ge 21, 3) := by decide +kernel
theorem d24_95 : decode prog_117_method_7_code 95 = .ok (.iload 5, 2) := by decide +kernel
theorem d24_97 : decode prog_117_method_7_code 97 = .ok (.iload_n 3, 1) := by decide +kernel
theorem d24_98 : decode prog_117_method_7_code 98 = .ok (.if_icmp .ge 19, 3) := by decide +kernel
theorem d24_117 : decode prog_117_method_7_code 117 = .ok (.iconst 0, 1) := by decide +kernel
theorem d24_118 : decode prog_117_method_7_code 118 = .ok (.istore 8, 2) := by decide +kernel
theorem d24_120 : decode prog_117_method_7_code 120 = .ok (.aload_n 0, 1) := by decide +kernel
theorem d24_121 : decode prog_117_method_7_code 121 = .ok (.getfield 23, 3) := by decide +kernel
theorem d24_124 : decode prog_117_method_7_code 124 = .ok (.iload 8, 2) := by decide +kernel
theorem d24_126 : decode prog_117_method_7_code 126 = .ok (.ifCond .eq 18, 3) := by decide +kernel
theorem d24_144 : decode prog_117_method_7_code 144 = .ok (.iload_n 2, 1) := by decide +kernel
theorem d24_145 : decode prog_117_method_7_code 145 = .ok (.invokevirtual 124, 3) := by decide +kernel
theorem d26_0 : decode prog_119_method_4_code 0 = .ok (.aload_n 0, 1) := by decide +kernel
theorem d26_1 : decode prog_119_method_4_code 1 = .ok (.getfield 15, 3) := by decide +kernel
theorem d26_4 : decode prog_119_method_4_code 4 = .ok (.ldc 21, 2) := by decide +kernel
theorem d26_6 : decode prog_119_method_4_code 6 = .ok (.if_icmp .ne 13, 3) := by decide +kernel
theorem d26_19 : decode prog_119_method_4_code 19 = .ok (.aload_n 0, 1) := by decide +kernel
theorem d26_20 : decode prog_119_method_4_code 20 = .ok (.getfield 15, 3) := by decide +kernel
theorem d26_23 : decode prog_119_method_4_code 23 = .ok (.bipush 10, 2) := by decide +kernel
theorem kc_bipush_10 : (Int8.ofInt 10).toInt32 = (10 : Int32) := by decide +kernel
theorem d26_25 : decode prog_119_method_4_code 25 = .ok (.iushr, 1) := by decide +kernel
theorem kf_41 : (((0 : Int32)).toUInt32 >>> ((10 : Int32) &&& 31).toUInt32).toInt32 = (0 : Int32) := by decide +kernel
theorem d26_26 : decode prog_119_method_4_code 26 = .ok (.istore_n 2, 1) := by decide +kernel
theorem d26_27 : decode prog_119_method_4_code 27 = .ok (.aload_n 0, 1) := by decide +kernel
theorem d26_28 : decode prog_119_method_4_code 28 = .ok (.getfield 15, 3) := by decide +kernel
theorem d26_31 : decode prog_119_method_4_code 31 = .ok (.sipush 1023, 3) := by decide +kernel
theorem kc_sipush_1023 : (Int16.ofInt 1023).toInt32 = (1023 : Int32) := by decide +kernel
theorem d26_34 : decode prog_119_method_4_code 34 = .ok (.iand, 1) := by decide +kernel
theorem kf_42 : ((0 : Int32) &&& (1023 : Int32)) = (0 : Int32) := by decide +kernel
theorem d26_35 : decode prog_119_method_4_code 35 = .ok (.ifCond .ne 49, 3) := by decide +kernel
theorem d26_38 : decode prog_119_method_4_code 38 = .ok (.iload_n 2, 1) := by decide +kernel
theorem d26_39 : decode prog_119_method_4_code 39 = .ok (.aload_n 0, 1) := by decide +kernel
theorem d26_40 : decode prog_119_method_4_code 40 = .ok (.getfield 11, 3) := by decide +kernel
theorem d26_43 : decode prog_119_method_4_code 43 = .ok (.arraylength, 1) := by decide +kernel
theorem d26_44 : decode prog_119_method_4_code 44 = .ok (.if_icmp .ne 29, 3) := by decide +kernel
theorem d26_73 : decode prog_119_method_4_code 73 = .ok (.aload_n 0, 1) := by decide +kernel
theorem d26_74 : decode prog_119_method_4_code 74 = .ok (.getfield 11, 3) := by decide +kernel
theorem d26_77 : decode prog_119_method_4_code 77 = .ok (.iload_n 2, 1) := by decide +kernel
theorem d26_78 : decode prog_119_method_4_code 78 = .ok (.sipush 1024, 3) := by decide +kernel
theorem kc_sipush_1024 : (Int16.ofInt 1024).toInt32 = (1024 : Int32) := by decide +kernel
theorem d26_81 : decode prog_119_method_4_code 81 = .ok (.newarray .int, 2) := by decide +kernel
theorem d26_83 : decode prog_119_method_4_code 83 = .ok (.aastore, 1) := by decide +kernel
theorem d26_84 : decode prog_119_method_4_code 84 = .ok (.aload_n 0, 1) := by decide +kernel
theorem d26_85 : decode prog_119_method_4_code 85 = .ok (.getfield 11, 3) := by decide +kernel
theorem d26_88 : decode prog_119_method_4_code 88 = .ok (.iload_n 2, 1) := by decide +kernel
theorem d26_89 : decode prog_119_method_4_code 89 = .ok (.aaload, 1) := by decide +kernel
theorem d26_90 : decode prog_119_method_4_code 90 = .ok (.aload_n 0, 1) := by decide +kernel
theorem d26_91 : decode prog_119_method_4_code 91 = .ok (.getfield 15, 3) := by decide +kernel
theorem d26_94 : decode prog_119_method_4_code 94 = .ok (.sipush 1023, 3) := by decide +kernel
theorem d26_97 : decode prog_119_method_4_code 97 = .ok (.iand, 1) := by decide +kernel
theorem d26_98 : decode prog_119_method_4_code 98 = .ok (.iload_n 1, 1) := by decide +kernel
theorem d26_99 : decode prog_119_method_4_code 99 = .ok (.iastore, 1) := by decide +kernel
theorem d26_100 : decode prog_119_method_4_code 100 = .ok (.aload_n 0, 1) := by decide +kernel
theorem d26_101 : decode prog_119_method_4_code 101 = .ok (.dup, 1) := by decide +kernel
theorem d26_102 : decode prog_119_method_4_code 102 = .ok (.getfield 15, 3) := by decide +kernel
theorem d26_105 : decode prog_119_method_4_code 105 = .ok (.iconst 1, 1) := by decide +kernel
theorem d26_106 : decode prog_119_method_4_code 106 = .ok (.iadd, 1) := by decide +kernel
theorem d26_107 : decode prog_119_method_4_code 107 = .ok (.putfield 15, 3) := by decide +kernel
theorem d26_110 : decode prog_119_method_4_code 110 = .ok (.return_, 1) := by decide +kernel
theorem d24_148 : decode prog_117_method_7_code 148 = .ok (.iinc 6 1, 3) := by decide +kernel
theorem d24_151 : decode prog_117_method_7_code 151 = .ok (.goto (-95), 3) := by decide +kernel
theorem d24_154 : decode prog_117_method_7_code 154 = .ok (.return_, 1) := by decide +kernel
theorem pd__II_V : parseMethodDescriptor "(II)V" = some ⟨[.int, .int], none⟩ := by decide +kernel
theorem d16_219 : decode prog_117_method_4_code 219 = .ok (.aload_n 0, 1) := by decide +kernel
theorem d16_220 : decode prog_117_method_4_code 220 = .ok (.dup, 1) := by decide +kernel
theorem d16_221 : decode prog_117_method_4_code 221 = .ok (.getfield 66, 3) := by decide +kernel
theorem d16_224 : decode prog_117_method_4_code 224 = .ok (.iconst 1, 1) := by decide +kernel
theorem d16_225 : decode prog_117_method_4_code 225 = .ok (.iadd, 1) := by decide +kernel
theorem d16_226 : decode prog_117_method_4_code 226 = .ok (.putfield 66, 3) := by decide +kernel
theorem d16_229 : decode prog_117_method_4_code 229 = .ok (.goto (-229), 3) := by decide +kernel
theorem d17_0 : decode prog_117_method_5_code 0 = .ok (.aload_n 0, 1) := by decide +kernel
theorem d17_1 : decode prog_117_method_5_code 1 = .ok (.getfield 66, 3) := by decide +kernel
theorem d17_4 : decode prog_117_method_5_code 4 = .ok (.aload_n 0, 1) := by decide +kernel
theorem d17_5 : decode prog_117_method_5_code 5 = .ok (.getfield 30, 3) := by decide +kernel
theorem d17_8 : decode prog_117_method_5_code 8 = .ok (.invokevirtual 69, 3) := by decide +kernel
theorem d17_11 : decode prog_117_method_5_code 11 = .ok (.if_icmp .lt 12, 3) := by decide +kernel
theorem d17_23 : decode prog_117_method_5_code 23 = .ok (.iconst 0, 1) := by decide +kernel
theorem d17_24 : decode prog_117_method_5_code 24 = .ok (.ireturn, 1) := by decide +kernel
theorem pd___JI_Z : parseMethodDescriptor "([JI)Z" = some ⟨[(.array .long), .int], some .boolean⟩ := by decide +kernel
theorem d18_0 : decode prog_117_method_2_code 0 = .ok (.aload_n 0, 1) := by decide +kernel
theorem d18_1 : decode prog_117_method_2_code 1 = .ok (.dup, 1) := by decide +kernel
theorem d18_2 : decode prog_117_method_2_code 2 = .ok (.getfield 60, 3) := by decide +kernel
theorem d18_5 : decode prog_117_method_2_code 5 = .ok (.aload_n 0, 1) := by decide +kernel
theorem d18_6 : decode prog_117_method_2_code 6 = .ok (.getfield 37, 3) := by decide +kernel
theorem d18_9 : decode prog_117_method_2_code 9 = .ok (.i2l, 1) := by decide +kernel
theorem d18_10 : decode prog_117_method_2_code 10 = .ok (.ladd, 1) := by decide +kernel
theorem d18_11 : decode prog_117_method_2_code 11 = .ok (.putfield 60, 3) := by decide +kernel
theorem d18_14 : decode prog_117_method_2_code 14 = .ok (.return_, 1) := by decide +kernel
theorem d17_14 : decode prog_117_method_5_code 14 = .ok (.aload_n 0, 1) := by decide +kernel
theorem d17_15 : decode prog_117_method_5_code 15 = .ok (.getfield 60, 3) := by decide +kernel
theorem d17_18 : decode prog_117_method_5_code 18 = .ok (.lconst 0, 1) := by decide +kernel
theorem d17_19 : decode prog_117_method_5_code 19 = .ok (.lcmp, 1) := by decide +kernel
theorem d17_20 : decode prog_117_method_5_code 20 = .ok (.ifCond .gt 5, 3) := by decide +kernel
theorem d17_25 : decode prog_117_method_5_code 25 = .ok (.aload_n 0, 1) := by decide +kernel
theorem d17_26 : decode prog_117_method_5_code 26 = .ok (.aload_n 1, 1) := by decide +kernel
theorem d17_27 : decode prog_117_method_5_code 27 = .ok (.aload_n 1, 1) := by decide +kernel
theorem d17_28 : decode prog_117_method_5_code 28 = .ok (.invokestatic 105, 3) := by decide +kernel
theorem d27_0 : decode prog_117_method_8_code 0 = .ok (.lconst 0, 1) := by decide +kernel
theorem d27_1 : decode prog_117_method_8_code 1 = .ok (.lstore_n 1, 1) := by decide +kernel
theorem d27_2 : decode prog_117_method_8_code 2 = .ok (.aload_n 0, 1) := by decide +kernel
theorem d27_3 : decode prog_117_method_8_code 3 = .ok (.astore_n 3, 1) := by decide +kernel
theorem d27_4 : decode prog_117_method_8_code 4 = .ok (.aload_n 3, 1) := by decide +kernel
theorem d27_5 : decode prog_117_method_8_code 5 = .ok (.arraylength, 1) := by decide +kernel
theorem d27_6 : decode prog_117_method_8_code 6 = .ok (.istore 4, 2) := by decide +kernel
theorem d27_8 : decode prog_117_method_8_code 8 = .ok (.iconst 0, 1) := by decide +kernel
theorem d27_9 : decode prog_117_method_8_code 9 = .ok (.istore 5, 2) := by decide +kernel
theorem d27_11 : decode prog_117_method_8_code 11 = .ok (.iload 5, 2) := by decide +kernel
theorem d27_13 : decode prog_117_method_8_code 13 = .ok (.iload 4, 2) := by decide +kernel
theorem d27_15 : decode prog_117_method_8_code 15 = .ok (.if_icmp .ge 20, 3) := by decide +kernel
theorem d27_18 : decode prog_117_method_8_code 18 = .ok (.aload_n 3, 1) := by decide +kernel
theorem d27_19 : decode prog_117_method_8_code 19 = .ok (.iload 5, 2) := by decide +kernel
theorem d27_21 : decode prog_117_method_8_code 21 = .ok (.laload, 1) := by decide +kernel
theorem d27_22 : decode prog_117_method_8_code 22 = .ok (.lstore 6, 2) := by decide +kernel
theorem d27_24 : decode prog_117_method_8_code 24 = .ok (.lload_n 1, 1) := by decide +kernel
theorem d27_25 : decode prog_117_method_8_code 25 = .ok (.lload 6, 2) := by decide +kernel
theorem d27_27 : decode prog_117_method_8_code 27 = .ok (.ladd, 1) := by decide +kernel
theorem kf_43 : ((0 : Int64) + (2 : Int64)) = (2 : Int64) := by decide +kernel
theorem d27_28 : decode prog_117_method_8_code 28 = .ok (.lstore_n 1, 1) := by decide +kernel
theorem d27_29 : decode prog_117_method_8_code 29 = .ok (.iinc 5 1, 3) := by decide +kernel
theorem d27_32 : decode prog_117_method_8_code 32 = .ok (.goto (-21), 3) := by decide +kernel
theorem d27_35 : decode prog_117_method_8_code 35 = .ok (.lload_n 1, 1) := by decide +kernel
theorem d27_36 : decode prog_117_method_8_code 36 = .ok (.lreturn, 1) := by decide +kernel
theorem pd___J_J : parseMethodDescriptor "([J)J" = some ⟨[(.array .long)], some .long⟩ := by decide +kernel
theorem d17_31 : decode prog_117_method_5_code 31 = .ok (.iload_n 2, 1) := by decide +kernel
theorem d17_32 : decode prog_117_method_5_code 32 = .ok (.invokevirtual 83, 3) := by decide +kernel
theorem d23_12 : decode prog_117_method_6_code 12 = .ok (.aload_n 0, 1) := by decide +kernel
theorem d23_13 : decode prog_117_method_6_code 13 = .ok (.dup, 1) := by decide +kernel
theorem d23_14 : decode prog_117_method_6_code 14 = .ok (.getfield 60, 3) := by decide +kernel
theorem d23_17 : decode prog_117_method_6_code 17 = .ok (.lconst 1, 1) := by decide +kernel
theorem d23_18 : decode prog_117_method_6_code 18 = .ok (.lsub, 1) := by decide +kernel
theorem d23_19 : decode prog_117_method_6_code 19 = .ok (.putfield 60, 3) := by decide +kernel
theorem d23_22 : decode prog_117_method_6_code 22 = .ok (.aload_n 0, 1) := by decide +kernel
theorem d23_23 : decode prog_117_method_6_code 23 = .ok (.getfield 7, 3) := by decide +kernel
theorem d23_26 : decode prog_117_method_6_code 26 = .ok (.iload 6, 2) := by decide +kernel
theorem d23_28 : decode prog_117_method_6_code 28 = .ok (.laload, 1) := by decide +kernel
theorem d23_29 : decode prog_117_method_6_code 29 = .ok (.lload_n 2, 1) := by decide +kernel
theorem d23_30 : decode prog_117_method_6_code 30 = .ok (.lcmp, 1) := by decide +kernel
theorem kf_44 : (XT.cmpL (1 : Int64) (2 : Int64)) = (-1 : Int32) := by decide +kernel
theorem d23_31 : decode prog_117_method_6_code 31 = .ok (.ifCond .lt 17, 3) := by decide +kernel
theorem d23_48 : decode prog_117_method_6_code 48 = .ok (.iload 5, 2) := by decide +kernel
theorem d23_50 : decode prog_117_method_6_code 50 = .ok (.ifCond .ge 7, 3) := by decide +kernel
theorem d23_53 : decode prog_117_method_6_code 53 = .ok (.iload 6, 2) := by decide +kernel
theorem d23_55 : decode prog_117_method_6_code 55 = .ok (.istore 5, 2) := by decide +kernel
theorem d23_57 : decode prog_117_method_6_code 57 = .ok (.aload_n 0, 1) := by decide +kernel
theorem d23_58 : decode prog_117_method_6_code 58 = .ok (.dup, 1) := by decide +kernel
theorem d23_59 : decode prog_117_method_6_code 59 = .ok (.getfield 60, 3) := by decide +kernel
theorem d23_62 : decode prog_117_method_6_code 62 = .ok (.aload_n 0, 1) := by decide +kernel
theorem d23_63 : decode prog_117_method_6_code 63 = .ok (.getfield 30, 3) := by decide +kernel
theorem d23_66 : decode prog_117_method_6_code 66 = .ok (.iload 6, 2) := by decide +kernel
theorem d23_68 : decode prog_117_method_6_code 68 = .ok (.invokevirtual 109, 3) := by decide +kernel
theorem d28_0 : decode prog_86_method_8_code 0 = .ok (.aload_n 0, 1) := by decide +kernel
theorem d28_1 : decode prog_86_method_8_code 1 = .ok (.iload_n 1, 1) := by decide +kernel
theorem d28_2 : decode prog_86_method_8_code 2 = .ok (.invokevirtual 92, 3) := by decide +kernel
theorem d28_5 : decode prog_86_method_8_code 5 = .ok (.aload_n 0, 1) := by decide +kernel
theorem d28_6 : decode prog_86_method_8_code 6 = .ok (.getfield 16, 3) := by decide +kernel
theorem d28_9 : decode prog_86_method_8_code 9 = .ok (.iload_n 1, 1) := by decide +kernel
theorem d28_10 : decode prog_86_method_8_code 10 = .ok (.invokevirtual 85, 3) := by decide +kernel
theorem d28_13 : decode prog_86_method_8_code 13 = .ok (.isub, 1) := by decide +kernel
theorem kf_45 : ((2 : Int32) - (0 : Int32)) = (2 : Int32) := by decide +kernel
theorem d28_14 : decode prog_86_method_8_code 14 = .ok (.ireturn, 1) := by decide +kernel
theorem d23_71 : decode prog_117_method_6_code 71 = .ok (.i2l, 1) := by decide +kernel
theorem kf_46 : ((2 : Int32)).toInt64 = (2 : Int64) := by decide +kernel
theorem d23_72 : decode prog_117_method_6_code 72 = .ok (.lsub, 1) := by decide +kernel
theorem d23_73 : decode prog_117_method_6_code 73 = .ok (.putfield 60, 3) := by decide +kernel
theorem d23_76 : decode prog_117_method_6_code 76 = .ok (.aload_n 0, 1) := by decide +kernel
theorem d23_77 : decode prog_117_method_6_code 77 = .ok (.getfield 30, 3) := by decide +kernel
theorem d23_80 : decode prog_117_method_6_code 80 = .ok (.iload 6, 2) := by decide +kernel
theorem d23_82 : decode prog_117_method_6_code 82 = .ok (.aload_n 1, 1) := by decide +kernel
theorem d23_83 : decode prog_117_method_6_code 83 = .ok (.aload_n 0, 1) := by decide +kernel
theorem d23_84 : decode prog_117_method_6_code 84 = .ok (.getfield 57, 3) := by decide +kernel
theorem d23_87 : decode prog_117_method_6_code 87 = .ok (.invokevirtual 112, 3) := by decide +kernel
theorem d29_0 : decode prog_86_method_7_code 0 = .ok (.aload_n 0, 1) := by decide +kernel
theorem d29_1 : decode prog_86_method_7_code 1 = .ok (.aload_n 0, 1) := by decide +kernel
theorem d29_2 : decode prog_86_method_7_code 2 = .ok (.getfield 16, 3) := by decide +kernel
theorem d29_5 : decode prog_86_method_7_code 5 = .ok (.iload_n 1, 1) := by decide +kernel
theorem d29_6 : decode prog_86_method_7_code 6 = .ok (.invokevirtual 85, 3) := by decide +kernel
theorem d29_9 : decode prog_86_method_7_code 9 = .ok (.putfield 89, 3) := by decide +kernel
theorem d29_12 : decode prog_86_method_7_code 12 = .ok (.aload_n 0, 1) := by decide +kernel
theorem d29_13 : decode prog_86_method_7_code 13 = .ok (.iload_n 1, 1) := by decide +kernel
theorem d29_14 : decode prog_86_method_7_code 14 = .ok (.invokevirtual 92, 3) := by decide +kernel
theorem d29_17 : decode prog_86_method_7_code 17 = .ok (.istore 4, 2) := by decide +kernel
theorem d29_19 : decode prog_86_method_7_code 19 = .ok (.iconst 0, 1) := by decide +kernel
theorem d29_20 : decode prog_86_method_7_code 20 = .ok (.istore 5, 2) := by decide +kernel
theorem d29_22 : decode prog_86_method_7_code 22 = .ok (.iconst 1, 1) := by decide +kernel
theorem d29_23 : decode prog_86_method_7_code 23 = .ok (.istore 6, 2) := by decide +kernel
theorem d29_25 : decode prog_86_method_7_code 25 = .ok (.iconst (-1), 1) := by decide +kernel
theorem d29_26 : decode prog_86_method_7_code 26 = .ok (.istore 7, 2) := by decide +kernel
theorem d29_28 : decode prog_86_method_7_code 28 = .ok (.iconst 0, 1) := by decide +kernel
theorem d29_29 : decode prog_86_method_7_code 29 = .ok (.istore 8, 2) := by decide +kernel
theorem d29_31 : decode prog_86_method_7_code 31 = .ok (.aload_n 0, 1) := by decide +kernel
theorem d29_32 : decode prog_86_method_7_code 32 = .ok (.getfield 89, 3) := by decide +kernel
theorem d29_35 : decode prog_86_method_7_code 35 = .ok (.iload 4, 2) := by decide +kernel
theorem d29_37 : decode prog_86_method_7_code 37 = .ok (.if_icmp .ge 64, 3) := by decide +kernel
theorem d29_40 : decode prog_86_method_7_code 40 = .ok (.iload 7, 2) := by decide +kernel
theorem d29_42 : decode prog_86_method_7_code 42 = .ok (.aload_n 0, 1) := by decide +kernel
theorem d29_43 : decode prog_86_method_7_code 43 = .ok (.invokevirtual 95, 3) := by decide +kernel
theorem d29_46 : decode prog_86_method_7_code 46 = .ok (.l2i, 1) := by decide +kernel
theorem d29_47 : decode prog_86_method_7_code 47 = .ok (.iconst 1, 1) := by decide +kernel
theorem d29_48 : decode prog_86_method_7_code 48 = .ok (.iadd, 1) := by decide +kernel
theorem d29_49 : decode prog_86_method_7_code 49 = .ok (.iadd, 1) := by decide +kernel
theorem d29_50 : decode prog_86_method_7_code 50 = .ok (.istore 7, 2) := by decide +kernel
theorem d29_52 : decode prog_86_method_7_code 52 = .ok (.aload_n 0, 1) := by decide +kernel
theorem d29_53 : decode prog_86_method_7_code 53 = .ok (.invokevirtual 95, 3) := by decide +kernel
theorem d29_56 : decode prog_86_method_7_code 56 = .ok (.lstore 9, 2) := by decide +kernel
theorem d29_58 : decode prog_86_method_7_code 58 = .ok (.aload_n 2, 1) := by decide +kernel
theorem d29_59 : decode prog_86_method_7_code 59 = .ok (.iload 7, 2) := by decide +kernel
theorem d29_61 : decode prog_86_method_7_code 61 = .ok (.laload, 1) := by decide +kernel
theorem d29_62 : decode prog_86_method_7_code 62 = .ok (.lconst 0, 1) := by decide +kernel
theorem d29_63 : decode prog_86_method_7_code 63 = .ok (.lcmp, 1) := by decide +kernel
theorem kf_47 : (XT.cmpL (2 : Int64) (0 : Int64)) = (1 : Int32) := by decide +kernel
theorem d29_64 : decode prog_86_method_7_code 64 = .ok (.ifCond .ne 18, 3) := by decide +kernel
theorem d29_82 : decode prog_86_method_7_code 82 = .ok (.aload_n 2, 1) := by decide +kernel
theorem d29_83 : decode prog_86_method_7_code 83 = .ok (.iload 7, 2) := by decide +kernel
theorem d29_85 : decode prog_86_method_7_code 85 = .ok (.laload, 1) := by decide +kernel
theorem d29_86 : decode prog_86_method_7_code 86 = .ok (.lload 9, 2) := by decide +kernel
theorem d29_88 : decode prog_86_method_7_code 88 = .ok (.lcmp, 1) := by decide +kernel
theorem kf_48 : (XT.cmpL (2 : Int64) (1 : Int64)) = (1 : Int32) := by decide +kernel
theorem d29_89 : decode prog_86_method_7_code 89 = .ok (.ifCond .ge 6, 3) := by decide +kernel
theorem d29_95 : decode prog_86_method_7_code 95 = .ok (.iinc 8 1, 3) := by decide +kernel
theorem d29_98 : decode prog_86_method_7_code 98 = .ok (.goto (-67), 3) := by decide +kernel
theorem d29_101 : decode prog_86_method_7_code 101 = .ok (.iload 6, 2) := by decide +kernel
theorem d29_103 : decode prog_86_method_7_code 103 = .ok (.ifCond .eq 7, 3) := by decide +kernel
theorem d29_106 : decode prog_86_method_7_code 106 = .ok (.iconst (-1), 1) := by decide +kernel
theorem d29_107 : decode prog_86_method_7_code 107 = .ok (.goto 5, 3) := by decide +kernel
theorem d29_112 : decode prog_86_method_7_code 112 = .ok (.ireturn, 1) := by decide +kernel
theorem pd__I_J_I_I : parseMethodDescriptor "(I[J[I)I" = some ⟨[.int, (.array .long), (.array .int)], some .int⟩ := by decide +kernel
theorem d23_90 : decode prog_117_method_6_code 90 = .ok (.istore 7, 2) := by decide +kernel
theorem d23_92 : decode prog_117_method_6_code 92 = .ok (.iload 7, 2) := by decide +kernel
theorem d23_94 : decode prog_117_method_6_code 94 = .ok (.ifCond .ge 6, 3) := by decide +kernel
theorem d23_97 : decode prog_117_method_6_code 97 = .ok (.bipush (-2), 2) := by decide +kernel
theorem d23_99 : decode prog_117_method_6_code 99 = .ok (.ireturn, 1) := by decide +kernel
theorem d17_35 : decode prog_117_method_5_code 35 = .ok (.bipush (-2), 2) := by decide +kernel
theorem d17_37 : decode prog_117_method_5_code 37 = .ok (.if_icmp .ne 7, 3) := by decide +kernel
theorem d17_40 : decode prog_117_method_5_code 40 = .ok (.iconst 1, 1) := by decide +kernel
theorem d17_41 : decode prog_117_method_5_code 41 = .ok (.goto 4, 3) := by decide +kernel
theorem d17_45 : decode prog_117_method_5_code 45 = .ok (.ireturn, 1) := by decide +kernel
theorem own_3 {x k : Int32} (e : k = (x &&& 2147483647) % 3) : k = 0 ∨ k = 1 ∨ k = 2 := by
  subst e
  have h := (c_and x 2147483647 (by decide)).1
  have q := (c_iremV (x &&& 2147483647) 3).1 h (by decide)
  have k0 : (0 : Int32).toInt = 0 := by decide
  have k1 : (1 : Int32).toInt = 1 := by decide
  have k2 : (2 : Int32).toInt = 2 := by decide
  have k3 : (3 : Int32).toInt = 3 := by decide
  simp only [← Int32.toInt_inj]
  omega
set_option maxRecDepth 65536 in
set_option maxHeartbeats 40000000 in
theorem rm_a7 (l : Launch) (Z : State) (a0 : Array Value) (hw : ∀ d ∈ tables_1, d.before a0 Z = true) (o5 : Addr) (h0 : Heap) (n0 : Nat) (Z0 : n0 ≤ h0.size) (E_o5 : Exa Z h0 o5 "com/example/eventloom/eventloom/net/IntList") (F_o5_values : Fld Z h0 o5 "com/example/eventloom/eventloom/net/IntList" "values" "[I" .null) (F_o5_size : Fld Z h0 o5 "com/example/eventloom/eventloom/net/IntList" "size" "I" (.int (0 : Int32))) (g_o5 : n0 ≤ o5) :
    Met l Z (⟨"com/example/eventloom/eventloom/net/IntList", "<init>", "()V"⟩ : MethodName) prog_85_method_1_code 1 none { frames := 1, cells := 1, slots := 16, locals := 12 } [] #[(.ref o5)] h0 n0 (fun v h => ∃ (o6 : Addr) (k_o6 : ClassId), v = none ∧ Exa Z h o5 "com/example/eventloom/eventloom/net/IntList" ∧ Fld Z h o5 "com/example/eventloom/eventloom/net/IntList" "values" "[I" (.ref o6) ∧ Fld Z h o5 "com/example/eventloom/eventloom/net/IntList" "size" "I" (.int (0 : Int32)) ∧ Keep h0 h [o5] ∧ Arv Z h o6 k_o6 .int (16 : Int32) [(.int (0 : Int32)), (.int (0 : Int32)), (.int (0 : Int32)), (.int (0 : Int32)), (.int (0 : Int32)), (.int (0 : Int32)), (.int (0 : Int32)), (.int (0 : Int32)), (.int (0 : Int32)), (.int (0 : Int32)), (.int (0 : Int32)), (.int (0 : Int32)), (.int (0 : Int32)), (.int (0 : Int32)), (.int (0 : Int32)), (.int (0 : Int32))] (.int (0 : Int32)) ∧ o5 ≠ o6 ∧ h0.size ≤ o6 ∧ n0 ≤ o6) := by
  refine Met.mk (tabs := tables_1) (a0 := a0) (ls0 := #[.val (.ref o5)]) (plainFor_of_name pn_com_example_eventloom_eventloom_net_IntList) hw Z0 (fun m => by first | (simp [entryFrame, mkF, argsToLocals, Value.category]; done) | rfl) ?_
  intro p e s m below meth c T C X
  have Kp : Keep h0 h0 [o5] := Keep.refl _ _
  refine s_aloadN 1 C X d3_0 rfl rfl ?_
  refine s_objInit 4 C X d3_1 (mW 21 rfl) (mW 10 rfl) (mW 11 rfl) rfl (W := 0) rfl (by decide) (fun T X => ?_)
  refine s_aloadN 5 C X d3_4 rfl rfl ?_
  refine s_bipush 7 C X d3_5 kc_bipush_16 ?_
  refine s_newarray 9 16 C X d3_7 (mW 22 rfl) (by decide) (by decide) (fun T hh o6 k_o6 hb_o6 X E A_o6 g_o6 => ?_)
  have ne_o5_o6 : o5 ≠ o6 := Nat.ne_of_lt (Nat.lt_of_lt_of_le E_o5.lt (Nat.le_of_eq hb_o6))
  have sz_o6 : h0.size ≤ o6 := Nat.le_trans Kp.1 (Nat.le_of_eq hb_o6)
  have E_o5 := E_o5.ext E
  have F_o5_values := F_o5_values.ext E
  have F_o5_size := F_o5_size.ext E
  have Kp := Kp.ext E
  have A_o6 : Arv Z _ o6 k_o6 .int (16 : Int32) [(.int (0 : Int32)), (.int (0 : Int32)), (.int (0 : Int32)), (.int (0 : Int32)), (.int (0 : Int32)), (.int (0 : Int32)), (.int (0 : Int32)), (.int (0 : Int32)), (.int (0 : Int32)), (.int (0 : Int32)), (.int (0 : Int32)), (.int (0 : Int32)), (.int (0 : Int32)), (.int (0 : Int32)), (.int (0 : Int32)), (.int (0 : Int32))] (.int (0 : Int32)) := A_o6.pad (pad_rep [] _ 16)
  refine s_putfield 12 C X (host := "") d3_9 (Or.inl (mW 23 rfl)) Via.refl F_o5_values E_o5 (Or.inl (mW 24 rfl)) (mW 16 rfl) (ty := (.array .int)) (by decide) rfl rfl g_o5 (fun T hh X W => ?_)
  have E_o5 := E_o5.wr W
  have F_o5_values := F_o5_values.same W
  have F_o5_size := oth F_o5_size W (Or.inl (hw _ (mW 78 rfl))) (Or.inl (hw _ (mW 24 rfl))) (by decide)
  have Kp := Kp.wr W (Or.inl (by simp))
  have A_o6 := A_o6.other W (Ne.symm ne_o5_o6)
  refine s_return C X d3_12 rfl ?_
  exact ⟨o6, k_o6, rfl, E_o5, F_o5_values, F_o5_size, Kp, A_o6, ne_o5_o6, sz_o6, g_o6⟩
set_option maxRecDepth 65536 in
set_option maxHeartbeats 40000000 in
theorem rm_a10 (l : Launch) (Z : State) (a0 : Array Value) (hw : ∀ d ∈ tables_1, d.before a0 Z = true) (o8 : Addr) (h0 : Heap) (n0 : Nat) (Z0 : n0 ≤ h0.size) (E_o8 : Exa Z h0 o8 "com/example/eventloom/eventloom/net/IntList") (F_o8_values : Fld Z h0 o8 "com/example/eventloom/eventloom/net/IntList" "values" "[I" .null) (F_o8_size : Fld Z h0 o8 "com/example/eventloom/eventloom/net/IntList" "size" "I" (.int (0 : Int32))) (g_o8 : n0 ≤ o8) :
    Met l Z (⟨"com/example/eventloom/eventloom/net/IntList", "<init>", "()V"⟩ : MethodName) prog_85_method_1_code 1 none { frames := 1, cells := 1, slots := 16, locals := 12 } [] #[(.ref o8)] h0 n0 (fun v h => ∃ (o9 : Addr) (k_o9 : ClassId), v = none ∧ Exa Z h o8 "com/example/eventloom/eventloom/net/IntList" ∧ Fld Z h o8 "com/example/eventloom/eventloom/net/IntList" "values" "[I" (.ref o9) ∧ Fld Z h o8 "com/example/eventloom/eventloom/net/IntList" "size" "I" (.int (0 : Int32)) ∧ Keep h0 h [o8] ∧ Arv Z h o9 k_o9 .int (16 : Int32) [(.int (0 : Int32)), (.int (0 : Int32)), (.int (0 : Int32)), (.int (0 : Int32)), (.int (0 : Int32)), (.int (0 : Int32)), (.int (0 : Int32)), (.int (0 : Int32)), (.int (0 : Int32)), (.int (0 : Int32)), (.int (0 : Int32)), (.int (0 : Int32)), (.int (0 : Int32)), (.int (0 : Int32)), (.int (0 : Int32)), (.int (0 : Int32))] (.int (0 : Int32)) ∧ o8 ≠ o9 ∧ h0.size ≤ o9 ∧ n0 ≤ o9) := by
  refine Met.mk (tabs := tables_1) (a0 := a0) (ls0 := #[.val (.ref o8)]) (plainFor_of_name pn_com_example_eventloom_eventloom_net_IntList) hw Z0 (fun m => by first | (simp [entryFrame, mkF, argsToLocals, Value.category]; done) | rfl) ?_
  intro p e s m below meth c T C X
  have Kp : Keep h0 h0 [o8] := Keep.refl _ _
  refine s_aloadN 1 C X d3_0 rfl rfl ?_
  refine s_objInit 4 C X d3_1 (mW 21 rfl) (mW 10 rfl) (mW 11 rfl) rfl (W := 0) rfl (by decide) (fun T X => ?_)
  refine s_aloadN 5 C X d3_4 rfl rfl ?_
  refine s_bipush 7 C X d3_5 kc_bipush_16 ?_
  refine s_newarray 9 16 C X d3_7 (mW 22 rfl) (by decide) (by decide) (fun T hh o9 k_o9 hb_o9 X E A_o9 g_o9 => ?_)
  have ne_o8_o9 : o8 ≠ o9 := Nat.ne_of_lt (Nat.lt_of_lt_of_le E_o8.lt (Nat.le_of_eq hb_o9))
  have sz_o9 : h0.size ≤ o9 := Nat.le_trans Kp.1 (Nat.le_of_eq hb_o9)
  have E_o8 := E_o8.ext E
  have F_o8_values := F_o8_values.ext E
  have F_o8_size := F_o8_size.ext E
  have Kp := Kp.ext E
  have A_o9 : Arv Z _ o9 k_o9 .int (16 : Int32) [(.int (0 : Int32)), (.int (0 : Int32)), (.int (0 : Int32)), (.int (0 : Int32)), (.int (0 : Int32)), (.int (0 : Int32)), (.int (0 : Int32)), (.int (0 : Int32)), (.int (0 : Int32)), (.int (0 : Int32)), (.int (0 : Int32)), (.int (0 : Int32)), (.int (0 : Int32)), (.int (0 : Int32)), (.int (0 : Int32)), (.int (0 : Int32))] (.int (0 : Int32)) := A_o9.pad (pad_rep [] _ 16)
  refine s_putfield 12 C X (host := "") d3_9 (Or.inl (mW 23 rfl)) Via.refl F_o8_values E_o8 (Or.inl (mW 24 rfl)) (mW 16 rfl) (ty := (.array .int)) (by decide) rfl rfl g_o8 (fun T hh X W => ?_)
  have E_o8 := E_o8.wr W
  have F_o8_values := F_o8_values.same W
  have F_o8_size := oth F_o8_size W (Or.inl (hw _ (mW 78 rfl))) (Or.inl (hw _ (mW 24 rfl))) (by decide)
  have Kp := Kp.wr W (Or.inl (by simp))
  have A_o9 := A_o9.other W (Ne.symm ne_o8_o9)
  refine s_return C X d3_12 rfl ?_
  exact ⟨o9, k_o9, rfl, E_o8, F_o8_values, F_o8_size, Kp, A_o9, ne_o8_o9, sz_o9, g_o9⟩
set_option maxRecDepth 65536 in
set_option maxHeartbeats 40000000 in
theorem rm_a29 (l : Launch) (Z : State) (a0 : Array Value) (hw : ∀ d ∈ tables_1, d.before a0 Z = true) (o11 : Addr) (k_o11 : ClassId) (h0 : Heap) (n0 : Nat) (Z0 : n0 ≤ h0.size) (A_o11 : Arv Z h0 o11 k_o11 .int (16 : Int32) [(.int (0 : Int32)), (.int (0 : Int32)), (.int (0 : Int32)), (.int (0 : Int32)), (.int (0 : Int32)), (.int (0 : Int32)), (.int (0 : Int32)), (.int (0 : Int32)), (.int (0 : Int32)), (.int (0 : Int32)), (.int (0 : Int32)), (.int (0 : Int32)), (.int (0 : Int32)), (.int (0 : Int32)), (.int (0 : Int32)), (.int (0 : Int32))] (.int (0 : Int32))) (g_o11 : n0 ≤ o11) :
    Met l Z (⟨"java/util/Arrays", "fill", "([II)V"⟩ : MethodName) jdk_65_method_103_code 4 none { frames := 0, cells := 0, slots := 0, locals := 0 } [] #[(.ref o11), (.int (-1 : Int32))] h0 n0 (fun v h => v = none ∧ Arv Z h o11 k_o11 .int (16 : Int32) [(.int (-1 : Int32)), (.int (-1 : Int32)), (.int (-1 : Int32)), (.int (-1 : Int32)), (.int (-1 : Int32)), (.int (-1 : Int32)), (.int (-1 : Int32)), (.int (-1 : Int32)), (.int (-1 : Int32)), (.int (-1 : Int32)), (.int (-1 : Int32)), (.int (-1 : Int32)), (.int (-1 : Int32)), (.int (-1 : Int32)), (.int (-1 : Int32)), (.int (-1 : Int32))] (.int (0 : Int32)) ∧ Keep h0 h [o11]) := by
  refine Met.mk (tabs := tables_1) (a0 := a0) (ls0 := #[.val (.ref o11), .val (.int (-1 : Int32)), .unset, .unset]) (plainFor_of_name pn_java_util_Arrays) hw Z0 (fun m => by first | (simp [entryFrame, mkF, argsToLocals, Value.category]; done) | rfl) ?_
  intro p e s m below meth c T C X
  have Kp : Keep h0 h0 [o11] := Keep.refl _ _
  refine s_iconst 1 C X d5_0 kc_iconst_0 ?_
  refine s_istoreN 2 C X (l' := #[.val (.ref o11), .val (.int (-1 : Int32)), .val (.int (0 : Int32)), .unset]) d5_1 rfl ?_
  refine s_aloadN 3 C X d5_2 rfl rfl ?_
  refine s_arraylength 4 C X d5_3 A_o11 ?_
  refine s_istoreN 5 C X (l' := #[.val (.ref o11), .val (.int (-1 : Int32)), .val (.int (0 : Int32)), .val (.int (16 : Int32))]) d5_4 rfl ?_
  refine s_iloadN 6 C X d5_5 rfl ?_
  refine s_iloadN 7 C X d5_6 rfl ?_
  refine s_icmp_ge 20 10 C X d5_7 (fun c => absurd (by decide : (0 : Int32) < (16 : Int32)) c) (fun _ => ?_)
  refine s_aloadN 11 C X d5_10 rfl rfl ?_
  refine s_iloadN 12 C X d5_11 rfl ?_
  refine s_iloadN 13 C X d5_12 rfl ?_
  refine s_iastore 14 0 C X d5_13 A_o11 g_o11 ⟨by decide, by decide⟩ rfl (Nat.le_of_ble_eq_true rfl) (fun T hh X W A_o11 => ?_)
  have A_o11 : Arv Z _ o11 k_o11 .int (16 : Int32) [(.int (-1 : Int32)), (.int (0 : Int32)), (.int (0 : Int32)), (.int (0 : Int32)), (.int (0 : Int32)), (.int (0 : Int32)), (.int (0 : Int32)), (.int (0 : Int32)), (.int (0 : Int32)), (.int (0 : Int32)), (.int (0 : Int32)), (.int (0 : Int32)), (.int (0 : Int32)), (.int (0 : Int32)), (.int (0 : Int32)), (.int (0 : Int32))] (.int (0 : Int32)) := A_o11
  have Kp := Kp.wr W (Or.inl (by simp))
  refine s_iinc 17 C X (l' := #[.val (.ref o11), .val (.int (-1 : Int32)), .val (.int (1 : Int32)), .val (.int (16 : Int32))]) d5_14 kc_iconst_1 rfl rfl ?_
  refine s_goto 5 C X d5_17 ?_
  refine s_iloadN 6 C X d5_5 rfl ?_
  refine s_iloadN 7 C X d5_6 rfl ?_
  refine s_icmp_ge 20 10 C X d5_7 (fun c => absurd (by decide : (1 : Int32) < (16 : Int32)) c) (fun _ => ?_)
  refine s_aloadN 11 C X d5_10 rfl rfl ?_
  refine s_iloadN 12 C X d5_11 rfl ?_
  refine s_iloadN 13 C X d5_12 rfl ?_
  refine s_iastore 14 1 C X d5_13 A_o11 g_o11 ⟨by decide, by decide⟩ rfl (Nat.le_of_ble_eq_true rfl) (fun T hh X W A_o11 => ?_)
  have A_o11 : Arv Z _ o11 k_o11 .int (16 : Int32) [(.int (-1 : Int32)), (.int (-1 : Int32)), (.int (0 : Int32)), (.int (0 : Int32)), (.int (0 : Int32)), (.int (0 : Int32)), (.int (0 : Int32)), (.int (0 : Int32)), (.int (0 : Int32)), (.int (0 : Int32)), (.int (0 : Int32)), (.int (0 : Int32)), (.int (0 : Int32)), (.int (0 : Int32)), (.int (0 : Int32)), (.int (0 : Int32))] (.int (0 : Int32)) := A_o11
  have Kp := Kp.wr W (Or.inl (by simp))
  refine s_iinc 17 C X (l' := #[.val (.ref o11), .val (.int (-1 : Int32)), .val (.int (2 : Int32)), .val (.int (16 : Int32))]) d5_14 kc_iconst_1 rfl rfl ?_
  refine s_goto 5 C X d5_17 ?_
  refine s_iloadN 6 C X d5_5 rfl ?_
  refine s_iloadN 7 C X d5_6 rfl ?_
  refine s_icmp_ge 20 10 C X d5_7 (fun c => absurd (by decide : (2 : Int32) < (16 : Int32)) c) (fun _ => ?_)
  refine s_aloadN 11 C X d5_10 rfl rfl ?_
  refine s_iloadN 12 C X d5_11 rfl ?_
  refine s_iloadN 13 C X d5_12 rfl ?_
  refine s_iastore 14 2 C X d5_13 A_o11 g_o11 ⟨by decide, by decide⟩ rfl (Nat.le_of_ble_eq_true rfl) (fun T hh X W A_o11 => ?_)
  have A_o11 : Arv Z _ o11 k_o11 .int (16 : Int32) [(.int (-1 : Int32)), (.int (-1 : Int32)), (.int (-1 : Int32)), (.int (0 : Int32)), (.int (0 : Int32)), (.int (0 : Int32)), (.int (0 : Int32)), (.int (0 : Int32)), (.int (0 : Int32)), (.int (0 : Int32)), (.int (0 : Int32)), (.int (0 : Int32)), (.int (0 : Int32)), (.int (0 : Int32)), (.int (0 : Int32)), (.int (0 : Int32))] (.int (0 : Int32)) := A_o11
  have Kp := Kp.wr W (Or.inl (by simp))
  refine s_iinc 17 C X (l' := #[.val (.ref o11), .val (.int (-1 : Int32)), .val (.int (3 : Int32)), .val (.int (16 : Int32))]) d5_14 kc_iconst_1 rfl rfl ?_
  refine s_goto 5 C X d5_17 ?_
  refine s_iloadN 6 C X d5_5 rfl ?_
  refine s_iloadN 7 C X d5_6 rfl ?_
  refine s_icmp_ge 20 10 C X d5_7 (fun c => absurd (by decide : (3 : Int32) < (16 : Int32)) c) (fun _ => ?_)
  refine s_aloadN 11 C X d5_10 rfl rfl ?_
  refine s_iloadN 12 C X d5_11 rfl ?_
  refine s_iloadN 13 C X d5_12 rfl ?_
  refine s_iastore 14 3 C X d5_13 A_o11 g_o11 ⟨by decide, by decide⟩ rfl (Nat.le_of_ble_eq_true rfl) (fun T hh X W A_o11 => ?_)
  have A_o11 : Arv Z _ o11 k_o11 .int (16 : Int32) [(.int (-1 : Int32)), (.int (-1 : Int32)), (.int (-1 : Int32)), (.int (-1 : Int32)), (.int (0 : Int32)), (.int (0 : Int32)), (.int (0 : Int32)), (.int (0 : Int32)), (.int (0 : Int32)), (.int (0 : Int32)), (.int (0 : Int32)), (.int (0 : Int32)), (.int (0 : Int32)), (.int (0 : Int32)), (.int (0 : Int32)), (.int (0 : Int32))] (.int (0 : Int32)) := A_o11
  have Kp := Kp.wr W (Or.inl (by simp))
  refine s_iinc 17 C X (l' := #[.val (.ref o11), .val (.int (-1 : Int32)), .val (.int (4 : Int32)), .val (.int (16 : Int32))]) d5_14 kc_iconst_1 rfl rfl ?_
  refine s_goto 5 C X d5_17 ?_
  refine s_iloadN 6 C X d5_5 rfl ?_
  refine s_iloadN 7 C X d5_6 rfl ?_
  refine s_icmp_ge 20 10 C X d5_7 (fun c => absurd (by decide : (4 : Int32) < (16 : Int32)) c) (fun _ => ?_)
  refine s_aloadN 11 C X d5_10 rfl rfl ?_
  refine s_iloadN 12 C X d5_11 rfl ?_
  refine s_iloadN 13 C X d5_12 rfl ?_
  refine s_iastore 14 4 C X d5_13 A_o11 g_o11 ⟨by decide, by decide⟩ rfl (Nat.le_of_ble_eq_true rfl) (fun T hh X W A_o11 => ?_)
  have A_o11 : Arv Z _ o11 k_o11 .int (16 : Int32) [(.int (-1 : Int32)), (.int (-1 : Int32)), (.int (-1 : Int32)), (.int (-1 : Int32)), (.int (-1 : Int32)), (.int (0 : Int32)), (.int (0 : Int32)), (.int (0 : Int32)), (.int (0 : Int32)), (.int (0 : Int32)), (.int (0 : Int32)), (.int (0 : Int32)), (.int (0 : Int32)), (.int (0 : Int32)), (.int (0 : Int32)), (.int (0 : Int32))] (.int (0 : Int32)) := A_o11
  have Kp := Kp.wr W (Or.inl (by simp))
  refine s_iinc 17 C X (l' := #[.val (.ref o11), .val (.int (-1 : Int32)), .val (.int (5 : Int32)), .val (.int (16 : Int32))]) d5_14 kc_iconst_1 rfl rfl ?_
  refine s_goto 5 C X d5_17 ?_
  refine s_iloadN 6 C X d5_5 rfl ?_
  refine s_iloadN 7 C X d5_6 rfl ?_
  refine s_icmp_ge 20 10 C X d5_7 (fun c => absurd (by decide : (5 : Int32) < (16 : Int32)) c) (fun _ => ?_)
  refine s_aloadN 11 C X d5_10 rfl rfl ?_
  refine s_iloadN 12 C X d5_11 rfl ?_
  refine s_iloadN 13 C X d5_12 rfl ?_
  refine s_iastore 14 5 C X d5_13 A_o11 g_o11 ⟨by decide, by decide⟩ rfl (Nat.le_of_ble_eq_true rfl) (fun T hh X W A_o11 => ?_)
  have A_o11 : Arv Z _ o11 k_o11 .int (16 : Int32) [(.int (-1 : Int32)), (.int (-1 : Int32)), (.int (-1 : Int32)), (.int (-1 : Int32)), (.int (-1 : Int32)), (.int (-1 : Int32)), (.int (0 : Int32)), (.int (0 : Int32)), (.int (0 : Int32)), (.int (0 : Int32)), (.int (0 : Int32)), (.int (0 : Int32)), (.int (0 : Int32)), (.int (0 : Int32)), (.int (0 : Int32)), (.int (0 : Int32))] (.int (0 : Int32)) := A_o11
  have Kp := Kp.wr W (Or.inl (by simp))
  refine s_iinc 17 C X (l' := #[.val (.ref o11), .val (.int (-1 : Int32)), .val (.int (6 : Int32)), .val (.int (16 : Int32))]) d5_14 kc_iconst_1 rfl rfl ?_
  refine s_goto 5 C X d5_17 ?_
  refine s_iloadN 6 C X d5_5 rfl ?_
  refine s_iloadN 7 C X d5_6 rfl ?_
  refine s_icmp_ge 20 10 C X d5_7 (fun c => absurd (by decide : (6 : Int32) < (16 : Int32)) c) (fun _ => ?_)
  refine s_aloadN 11 C X d5_10 rfl rfl ?_
  refine s_iloadN 12 C X d5_11 rfl ?_
  refine s_iloadN 13 C X d5_12 rfl ?_
  refine s_iastore 14 6 C X d5_13 A_o11 g_o11 ⟨by decide, by decide⟩ rfl (Nat.le_of_ble_eq_true rfl) (fun T hh X W A_o11 => ?_)
  have A_o11 : Arv Z _ o11 k_o11 .int (16 : Int32) [(.int (-1 : Int32)), (.int (-1 : Int32)), (.int (-1 : Int32)), (.int (-1 : Int32)), (.int (-1 : Int32)), (.int (-1 : Int32)), (.int (-1 : Int32)), (.int (0 : Int32)), (.int (0 : Int32)), (.int (0 : Int32)), (.int (0 : Int32)), (.int (0 : Int32)), (.int (0 : Int32)), (.int (0 : Int32)), (.int (0 : Int32)), (.int (0 : Int32))] (.int (0 : Int32)) := A_o11
  have Kp := Kp.wr W (Or.inl (by simp))
  refine s_iinc 17 C X (l' := #[.val (.ref o11), .val (.int (-1 : Int32)), .val (.int (7 : Int32)), .val (.int (16 : Int32))]) d5_14 kc_iconst_1 rfl rfl ?_
  refine s_goto 5 C X d5_17 ?_
  refine s_iloadN 6 C X d5_5 rfl ?_
  refine s_iloadN 7 C X d5_6 rfl ?_
  refine s_icmp_ge 20 10 C X d5_7 (fun c => absurd (by decide : (7 : Int32) < (16 : Int32)) c) (fun _ => ?_)
  refine s_aloadN 11 C X d5_10 rfl rfl ?_
  refine s_iloadN 12 C X d5_11 rfl ?_
  refine s_iloadN 13 C X d5_12 rfl ?_
  refine s_iastore 14 7 C X d5_13 A_o11 g_o11 ⟨by decide, by decide⟩ rfl (Nat.le_of_ble_eq_true rfl) (fun T hh X W A_o11 => ?_)
  have A_o11 : Arv Z _ o11 k_o11 .int (16 : Int32) [(.int (-1 : Int32)), (.int (-1 : Int32)), (.int (-1 : Int32)), (.int (-1 : Int32)), (.int (-1 : Int32)), (.int (-1 : Int32)), (.int (-1 : Int32)), (.int (-1 : Int32)), (.int (0 : Int32)), (.int (0 : Int32)), (.int (0 : Int32)), (.int (0 : Int32)), (.int (0 : Int32)), (.int (0 : Int32)), (.int (0 : Int32)), (.int (0 : Int32))] (.int (0 : Int32)) := A_o11
  have Kp := Kp.wr W (Or.inl (by simp))
  refine s_iinc 17 C X (l' := #[.val (.ref o11), .val (.int (-1 : Int32)), .val (.int (8 : Int32)), .val (.int (16 : Int32))]) d5_14 kc_iconst_1 rfl rfl ?_
  refine s_goto 5 C X d5_17 ?_
  refine s_iloadN 6 C X d5_5 rfl ?_
  refine s_iloadN 7 C X d5_6 rfl ?_
  refine s_icmp_ge 20 10 C X d5_7 (fun c => absurd (by decide : (8 : Int32) < (16 : Int32)) c) (fun _ => ?_)
  refine s_aloadN 11 C X d5_10 rfl rfl ?_
  refine s_iloadN 12 C X d5_11 rfl ?_
  refine s_iloadN 13 C X d5_12 rfl ?_
  refine s_iastore 14 8 C X d5_13 A_o11 g_o11 ⟨by decide, by decide⟩ rfl (Nat.le_of_ble_eq_true rfl) (fun T hh X W A_o11 => ?_)
  have A_o11 : Arv Z _ o11 k_o11 .int (16 : Int32) [(.int (-1 : Int32)), (.int (-1 : Int32)), (.int (-1 : Int32)), (.int (-1 : Int32)), (.int (-1 : Int32)), (.int (-1 : Int32)), (.int (-1 : Int32)), (.int (-1 : Int32)), (.int (-1 : Int32)), (.int (0 : Int32)), (.int (0 : Int32)), (.int (0 : Int32)), (.int (0 : Int32)), (.int (0 : Int32)), (.int (0 : Int32)), (.int (0 : Int32))] (.int (0 : Int32)) := A_o11
  have Kp := Kp.wr W (Or.inl (by simp))
  refine s_iinc 17 C X (l' := #[.val (.ref o11), .val (.int (-1 : Int32)), .val (.int (9 : Int32)), .val (.int (16 : Int32))]) d5_14 kc_iconst_1 rfl rfl ?_
  refine s_goto 5 C X d5_17 ?_
  refine s_iloadN 6 C X d5_5 rfl ?_
  refine s_iloadN 7 C X d5_6 rfl ?_
  refine s_icmp_ge 20 10 C X d5_7 (fun c => absurd (by decide : (9 : Int32) < (16 : Int32)) c) (fun _ => ?_)
  refine s_aloadN 11 C X d5_10 rfl rfl ?_
  refine s_iloadN 12 C X d5_11 rfl ?_
  refine s_iloadN 13 C X d5_12 rfl ?_
  refine s_iastore 14 9 C X d5_13 A_o11 g_o11 ⟨by decide, by decide⟩ rfl (Nat.le_of_ble_eq_true rfl) (fun T hh X W A_o11 => ?_)
  have A_o11 : Arv Z _ o11 k_o11 .int (16 : Int32) [(.int (-1 : Int32)), (.int (-1 : Int32)), (.int (-1 : Int32)), (.int (-1 : Int32)), (.int (-1 : Int32)), (.int (-1 : Int32)), (.int (-1 : Int32)), (.int (-1 : Int32)), (.int (-1 : Int32)), (.int (-1 : Int32)), (.int (0 : Int32)), (.int (0 : Int32)), (.int (0 : Int32)), (.int (0 : Int32)), (.int (0 : Int32)), (.int (0 : Int32))] (.int (0 : Int32)) := A_o11
  have Kp := Kp.wr W (Or.inl (by simp))
  refine s_iinc 17 C X (l' := #[.val (.ref o11), .val (.int (-1 : Int32)), .val (.int (10 : Int32)), .val (.int (16 : Int32))]) d5_14 kc_iconst_1 rfl rfl ?_
  refine s_goto 5 C X d5_17 ?_
  refine s_iloadN 6 C X d5_5 rfl ?_
  refine s_iloadN 7 C X d5_6 rfl ?_
  refine s_icmp_ge 20 10 C X d5_7 (fun c => absurd (by decide : (10 : Int32) < (16 : Int32)) c) (fun _ => ?_)
  refine s_aloadN 11 C X d5_10 rfl rfl ?_
  refine s_iloadN 12 C X d5_11 rfl ?_
  refine s_iloadN 13 C X d5_12 rfl ?_
  refine s_iastore 14 10 C X d5_13 A_o11 g_o11 ⟨by decide, by decide⟩ rfl (Nat.le_of_ble_eq_true rfl) (fun T hh X W A_o11 => ?_)
  have A_o11 : Arv Z _ o11 k_o11 .int (16 : Int32) [(.int (-1 : Int32)), (.int (-1 : Int32)), (.int (-1 : Int32)), (.int (-1 : Int32)), (.int (-1 : Int32)), (.int (-1 : Int32)), (.int (-1 : Int32)), (.int (-1 : Int32)), (.int (-1 : Int32)), (.int (-1 : Int32)), (.int (-1 : Int32)), (.int (0 : Int32)), (.int (0 : Int32)), (.int (0 : Int32)), (.int (0 : Int32)), (.int (0 : Int32))] (.int (0 : Int32)) := A_o11
  have Kp := Kp.wr W (Or.inl (by simp))
  refine s_iinc 17 C X (l' := #[.val (.ref o11), .val (.int (-1 : Int32)), .val (.int (11 : Int32)), .val (.int (16 : Int32))]) d5_14 kc_iconst_1 rfl rfl ?_
  refine s_goto 5 C X d5_17 ?_
  refine s_iloadN 6 C X d5_5 rfl ?_
  refine s_iloadN 7 C X d5_6 rfl ?_
  refine s_icmp_ge 20 10 C X d5_7 (fun c => absurd (by decide : (11 : Int32) < (16 : Int32)) c) (fun _ => ?_)
  refine s_aloadN 11 C X d5_10 rfl rfl ?_
  refine s_iloadN 12 C X d5_11 rfl ?_
  refine s_iloadN 13 C X d5_12 rfl ?_
  refine s_iastore 14 11 C X d5_13 A_o11 g_o11 ⟨by decide, by decide⟩ rfl (Nat.le_of_ble_eq_true rfl) (fun T hh X W A_o11 => ?_)
  have A_o11 : Arv Z _ o11 k_o11 .int (16 : Int32) [(.int (-1 : Int32)), (.int (-1 : Int32)), (.int (-1 : Int32)), (.int (-1 : Int32)), (.int (-1 : Int32)), (.int (-1 : Int32)), (.int (-1 : Int32)), (.int (-1 : Int32)), (.int (-1 : Int32)), (.int (-1 : Int32)), (.int (-1 : Int32)), (.int (-1 : Int32)), (.int (0 : Int32)), (.int (0 : Int32)), (.int (0 : Int32)), (.int (0 : Int32))] (.int (0 : Int32)) := A_o11
  have Kp := Kp.wr W (Or.inl (by simp))
  refine s_iinc 17 C X (l' := #[.val (.ref o11), .val (.int (-1 : Int32)), .val (.int (12 : Int32)), .val (.int (16 : Int32))]) d5_14 kc_iconst_1 rfl rfl ?_
  refine s_goto 5 C X d5_17 ?_
  refine s_iloadN 6 C X d5_5 rfl ?_
  refine s_iloadN 7 C X d5_6 rfl ?_
  refine s_icmp_ge 20 10 C X d5_7 (fun c => absurd (by decide : (12 : Int32) < (16 : Int32)) c) (fun _ => ?_)
  refine s_aloadN 11 C X d5_10 rfl rfl ?_
  refine s_iloadN 12 C X d5_11 rfl ?_
  refine s_iloadN 13 C X d5_12 rfl ?_
  refine s_iastore 14 12 C X d5_13 A_o11 g_o11 ⟨by decide, by decide⟩ rfl (Nat.le_of_ble_eq_true rfl) (fun T hh X W A_o11 => ?_)
  have A_o11 : Arv Z _ o11 k_o11 .int (16 : Int32) [(.int (-1 : Int32)), (.int (-1 : Int32)), (.int (-1 : Int32)), (.int (-1 : Int32)), (.int (-1 : Int32)), (.int (-1 : Int32)), (.int (-1 : Int32)), (.int (-1 : Int32)), (.int (-1 : Int32)), (.int (-1 : Int32)), (.int (-1 : Int32)), (.int (-1 : Int32)), (.int (-1 : Int32)), (.int (0 : Int32)), (.int (0 : Int32)), (.int (0 : Int32))] (.int (0 : Int32)) := A_o11
  have Kp := Kp.wr W (Or.inl (by simp))
  refine s_iinc 17 C X (l' := #[.val (.ref o11), .val (.int (-1 : Int32)), .val (.int (13 : Int32)), .val (.int (16 : Int32))]) d5_14 kc_iconst_1 rfl rfl ?_
  refine s_goto 5 C X d5_17 ?_
  refine s_iloadN 6 C X d5_5 rfl ?_
  refine s_iloadN 7 C X d5_6 rfl ?_
  refine s_icmp_ge 20 10 C X d5_7 (fun c => absurd (by decide : (13 : Int32) < (16 : Int32)) c) (fun _ => ?_)
  refine s_aloadN 11 C X d5_10 rfl rfl ?_
  refine s_iloadN 12 C X d5_11 rfl ?_
  refine s_iloadN 13 C X d5_12 rfl ?_
  refine s_iastore 14 13 C X d5_13 A_o11 g_o11 ⟨by decide, by decide⟩ rfl (Nat.le_of_ble_eq_true rfl) (fun T hh X W A_o11 => ?_)
  have A_o11 : Arv Z _ o11 k_o11 .int (16 : Int32) [(.int (-1 : Int32)), (.int (-1 : Int32)), (.int (-1 : Int32)), (.int (-1 : Int32)), (.int (-1 : Int32)), (.int (-1 : Int32)), (.int (-1 : Int32)), (.int (-1 : Int32)), (.int (-1 : Int32)), (.int (-1 : Int32)), (.int (-1 : Int32)), (.int (-1 : Int32)), (.int (-1 : Int32)), (.int (-1 : Int32)), (.int (0 : Int32)), (.int (0 : Int32))] (.int (0 : Int32)) := A_o11
  have Kp := Kp.wr W (Or.inl (by simp))
  refine s_iinc 17 C X (l' := #[.val (.ref o11), .val (.int (-1 : Int32)), .val (.int (14 : Int32)), .val (.int (16 : Int32))]) d5_14 kc_iconst_1 rfl rfl ?_
  refine s_goto 5 C X d5_17 ?_
  refine s_iloadN 6 C X d5_5 rfl ?_
  refine s_iloadN 7 C X d5_6 rfl ?_
  refine s_icmp_ge 20 10 C X d5_7 (fun c => absurd (by decide : (14 : Int32) < (16 : Int32)) c) (fun _ => ?_)
  refine s_aloadN 11 C X d5_10 rfl rfl ?_
  refine s_iloadN 12 C X d5_11 rfl ?_
  refine s_iloadN 13 C X d5_12 rfl ?_
  refine s_iastore 14 14 C X d5_13 A_o11 g_o11 ⟨by decide, by decide⟩ rfl (Nat.le_of_ble_eq_true rfl) (fun T hh X W A_o11 => ?_)
  have A_o11 : Arv Z _ o11 k_o11 .int (16 : Int32) [(.int (-1 : Int32)), (.int (-1 : Int32)), (.int (-1 : Int32)), (.int (-1 : Int32)), (.int (-1 : Int32)), (.int (-1 : Int32)), (.int (-1 : Int32)), (.int (-1 : Int32)), (.int (-1 : Int32)), (.int (-1 : Int32)), (.int (-1 : Int32)), (.int (-1 : Int32)), (.int (-1 : Int32)), (.int (-1 : Int32)), (.int (-1 : Int32)), (.int (0 : Int32))] (.int (0 : Int32)) := A_o11
  have Kp := Kp.wr W (Or.inl (by simp))
  refine s_iinc 17 C X (l' := #[.val (.ref o11), .val (.int (-1 : Int32)), .val (.int (15 : Int32)), .val (.int (16 : Int32))]) d5_14 kc_iconst_1 rfl rfl ?_
  refine s_goto 5 C X d5_17 ?_
  refine s_iloadN 6 C X d5_5 rfl ?_
  refine s_iloadN 7 C X d5_6 rfl ?_
  refine s_icmp_ge 20 10 C X d5_7 (fun c => absurd (by decide : (15 : Int32) < (16 : Int32)) c) (fun _ => ?_)
  refine s_aloadN 11 C X d5_10 rfl rfl ?_
  refine s_iloadN 12 C X d5_11 rfl ?_
  refine s_iloadN 13 C X d5_12 rfl ?_
  refine s_iastore 14 15 C X d5_13 A_o11 g_o11 ⟨by decide, by decide⟩ rfl (Nat.le_of_ble_eq_true rfl) (fun T hh X W A_o11 => ?_)
  have A_o11 : Arv Z _ o11 k_o11 .int (16 : Int32) [(.int (-1 : Int32)), (.int (-1 : Int32)), (.int (-1 : Int32)), (.int (-1 : Int32)), (.int (-1 : Int32)), (.int (-1 : Int32)), (.int (-1 : Int32)), (.int (-1 : Int32)), (.int (-1 : Int32)), (.int (-1 : Int32)), (.int (-1 : Int32)), (.int (-1 : Int32)), (.int (-1 : Int32)), (.int (-1 : Int32)), (.int (-1 : Int32)), (.int (-1 : Int32))] (.int (0 : Int32)) := A_o11
  have Kp := Kp.wr W (Or.inl (by simp))
  refine s_iinc 17 C X (l' := #[.val (.ref o11), .val (.int (-1 : Int32)), .val (.int (16 : Int32)), .val (.int (16 : Int32))]) d5_14 kc_iconst_1 rfl rfl ?_
  refine s_goto 5 C X d5_17 ?_
  refine s_iloadN 6 C X d5_5 rfl ?_
  refine s_iloadN 7 C X d5_6 rfl ?_
  refine s_icmp_ge 20 10 C X d5_7 (fun _ => ?_) (fun c => absurd c (by decide))
  refine s_return C X d5_20 rfl ?_
  exact ⟨rfl, A_o11, Kp⟩
set_option maxRecDepth 65536 in
set_option maxHeartbeats 40000000 in
theorem rm_a30 (l : Launch) (Z : State) (a0 : Array Value) (hw : ∀ d ∈ tables_1, d.before a0 Z = true)  (h0 : Heap) (n0 : Nat) (Z0 : n0 ≤ h0.size)  :
    Met l Z (⟨"com/example/eventloom/eventloom/net/MarkingStore", "emptyTable", "(I)[I"⟩ : MethodName) prog_86_method_16_code 2 (some (.array .int)) { frames := 1, cells := 1, slots := 16, locals := 15 } [] #[(.int (16 : Int32))] h0 n0 (fun v h => ∃ (o11 : Addr) (k_o11 : ClassId), v = some (.ref o11) ∧ Keep h0 h [] ∧ Arv Z h o11 k_o11 .int (16 : Int32) [(.int (-1 : Int32)), (.int (-1 : Int32)), (.int (-1 : Int32)), (.int (-1 : Int32)), (.int (-1 : Int32)), (.int (-1 : Int32)), (.int (-1 : Int32)), (.int (-1 : Int32)), (.int (-1 : Int32)), (.int (-1 : Int32)), (.int (-1 : Int32)), (.int (-1 : Int32)), (.int (-1 : Int32)), (.int (-1 : Int32)), (.int (-1 : Int32)), (.int (-1 : Int32))] (.int (0 : Int32)) ∧ h0.size ≤ o11 ∧ n0 ≤ o11) := by
  refine Met.mk (tabs := tables_1) (a0 := a0) (ls0 := #[.val (.int (16 : Int32)), .unset]) (plainFor_of_name pn_com_example_eventloom_eventloom_net_MarkingStore) hw Z0 (fun m => by first | (simp [entryFrame, mkF, argsToLocals, Value.category]; done) | rfl) ?_
  intro p e s m below meth c T C X
  have Kp : Keep h0 h0 [] := Keep.refl _ _
  refine s_iloadN 1 C X d4_0 rfl ?_
  refine s_newarray 3 16 C X d4_1 (mW 22 rfl) (by decide) (by decide) (fun T hh o11 k_o11 hb_o11 X E A_o11 g_o11 => ?_)
  have sz_o11 : h0.size ≤ o11 := Nat.le_trans Kp.1 (Nat.le_of_eq hb_o11)
  have Kp := Kp.ext E
  have A_o11 : Arv Z _ o11 k_o11 .int (16 : Int32) [(.int (0 : Int32)), (.int (0 : Int32)), (.int (0 : Int32)), (.int (0 : Int32)), (.int (0 : Int32)), (.int (0 : Int32)), (.int (0 : Int32)), (.int (0 : Int32)), (.int (0 : Int32)), (.int (0 : Int32)), (.int (0 : Int32)), (.int (0 : Int32)), (.int (0 : Int32)), (.int (0 : Int32)), (.int (0 : Int32)), (.int (0 : Int32))] (.int (0 : Int32)) := A_o11.pad (pad_rep [] _ 16)
  refine s_astoreN 4 C X (l' := #[.val (.int (16 : Int32)), .val (.ref o11)]) d4_3 rfl rfl ?_
  refine s_aloadN 5 C X d4_4 rfl rfl ?_
  refine s_iconst 6 C X d4_5 kc_iconst_m1 ?_
  refine s_callS 9 [(.ref o11), (.int (-1 : Int32))] [] 0 C X d4_6 (mW 32 rfl) (mW 33 rfl) (mW 34 rfl) (mW 35 rfl) (rm_a29 l Z a0 hw o11 k_o11 _ n0 X.sz A_o11 g_o11) (lenOf pd___II_V rfl) rfl rfl rfl (fun T v hh X q => ?_)
  obtain ⟨rfl, A_o11, Kc⟩ := q
  have Kp := Kp.trans Kc (allS (Or.inr sz_o11) all0)
  refine Run.cast (st' := []) rfl ?_
  refine s_aloadN 10 C X d4_9 rfl rfl ?_
  refine s_areturn C X d4_10 rfl rfl rfl ?_
  exact ⟨o11, k_o11, rfl, Kp, A_o11, sz_o11, g_o11⟩
set_option maxRecDepth 65536 in
set_option maxHeartbeats 40000000 in
theorem rm_a32 (l : Launch) (Z : State) (a0 : Array Value) (hw : ∀ d ∈ tables_1, d.before a0 Z = true) (o3 : Addr) (h0 : Heap) (n0 : Nat) (Z0 : n0 ≤ h0.size) (E_o3 : Exa Z h0 o3 "com/example/eventloom/eventloom/net/MarkingStore") (F_o3_bytes : Fld Z h0 o3 "com/example/eventloom/eventloom/net/MarkingStore" "bytes" "[B" .null) (F_o3_starts : Fld Z h0 o3 "com/example/eventloom/eventloom/net/MarkingStore" "starts" "Lcom/example/eventloom/eventloom/net/IntList;" .null) (F_o3_hashes : Fld Z h0 o3 "com/example/eventloom/eventloom/net/MarkingStore" "hashes" "Lcom/example/eventloom/eventloom/net/IntList;" .null) (F_o3_table : Fld Z h0 o3 "com/example/eventloom/eventloom/net/MarkingStore" "table" "[I" .null) (F_o3_encoded : Fld Z h0 o3 "com/example/eventloom/eventloom/net/MarkingStore" "encoded" "[B" .null) (F_o3_encodedLength : Fld Z h0 o3 "com/example/eventloom/eventloom/net/MarkingStore" "encodedLength" "I" (.int (0 : Int32))) (F_o3_encodedHash : Fld Z h0 o3 "com/example/eventloom/eventloom/net/MarkingStore" "encodedHash" "I" (.int (0 : Int32))) (F_o3_length : Fld Z h0 o3 "com/example/eventloom/eventloom/net/MarkingStore" "length" "I" (.int (0 : Int32))) (F_o3_position : Fld Z h0 o3 "com/example/eventloom/eventloom/net/MarkingStore" "position" "I" (.int (0 : Int32))) (g_o3 : n0 ≤ o3) :
    Met l Z (⟨"com/example/eventloom/eventloom/net/MarkingStore", "<init>", "()V"⟩ : MethodName) prog_86_method_1_code 1 none { frames := 2, cells := 7, slots := 4212, locals := 29 } [] #[(.ref o3)] h0 n0 (fun v h => ∃ (o4 : Addr) (o5 : Addr) (k_o4 : ClassId) (o6 : Addr) (k_o6 : ClassId) (o8 : Addr) (o9 : Addr) (k_o9 : ClassId) (o11 : Addr) (k_o11 : ClassId) (o31 : Addr) (k_o31 : ClassId), v = none ∧ Exa Z h o3 "com/example/eventloom/eventloom/net/MarkingStore" ∧ Fld Z h o3 "com/example/eventloom/eventloom/net/MarkingStore" "bytes" "[B" (.ref o4) ∧ Fld Z h o3 "com/example/eventloom/eventloom/net/MarkingStore" "starts" "Lcom/example/eventloom/eventloom/net/IntList;" (.ref o5) ∧ Fld Z h o3 "com/example/eventloom/eventloom/net/MarkingStore" "hashes" "Lcom/example/eventloom/eventloom/net/IntList;" (.ref o8) ∧ Fld Z h o3 "com/example/eventloom/eventloom/net/MarkingStore" "table" "[I" (.ref o11) ∧ Fld Z h o3 "com/example/eventloom/eventloom/net/MarkingStore" "encoded" "[B" (.ref o31) ∧ Fld Z h o3 "com/example/eventloom/eventloom/net/MarkingStore" "encodedLength" "I" (.int (0 : Int32)) ∧ Fld Z h o3 "com/example/eventloom/eventloom/net/MarkingStore" "encodedHash" "I" (.int (0 : Int32)) ∧ Fld Z h o3 "com/example/eventloom/eventloom/net/MarkingStore" "length" "I" (.int (0 : Int32)) ∧ Fld Z h o3 "com/example/eventloom/eventloom/net/MarkingStore" "position" "I" (.int (0 : Int32)) ∧ Keep h0 h [o3] ∧ Arv Z h o4 k_o4 .byte (4096 : Int32) [(.int (0 : Int32)), (.int (0 : Int32)), (.int (0 : Int32)), (.int (0 : Int32)), (.int (0 : Int32)), (.int (0 : Int32))] (.int (0 : Int32)) ∧ Exa Z h o5 "com/example/eventloom/eventloom/net/IntList" ∧ Fld Z h o5 "com/example/eventloom/eventloom/net/IntList" "values" "[I" (.ref o6) ∧ Fld Z h o5 "com/example/eventloom/eventloom/net/IntList" "size" "I" (.int (0 : Int32)) ∧ Arv Z h o6 k_o6 .int (16 : Int32) [(.int (0 : Int32)), (.int (0 : Int32)), (.int (0 : Int32)), (.int (0 : Int32)), (.int (0 : Int32)), (.int (0 : Int32)), (.int (0 : Int32)), (.int (0 : Int32)), (.int (0 : Int32)), (.int (0 : Int32)), (.int (0 : Int32)), (.int (0 : Int32)), (.int (0 : Int32)), (.int (0 : Int32)), (.int (0 : Int32)), (.int (0 : Int32))] (.int (0 : Int32)) ∧ Exa Z h o8 "com/example/eventloom/eventloom/net/IntList" ∧ Fld Z h o8 "com/example/eventloom/eventloom/net/IntList" "values" "[I" (.ref o9) ∧ Fld Z h o8 "com/example/eventloom/eventloom/net/IntList" "size" "I" (.int (0 : Int32)) ∧ Arv Z h o9 k_o9 .int (16 : Int32) [(.int (0 : Int32)), (.int (0 : Int32)), (.int (0 : Int32)), (.int (0 : Int32)), (.int (0 : Int32)), (.int (0 : Int32)), (.int (0 : Int32)), (.int (0 : Int32)), (.int (0 : Int32)), (.int (0 : Int32)), (.int (0 : Int32)), (.int (0 : Int32)), (.int (0 : Int32)), (.int (0 : Int32)), (.int (0 : Int32)), (.int (0 : Int32))] (.int (0 : Int32)) ∧ Arv Z h o11 k_o11 .int (16 : Int32) [(.int (-1 : Int32)), (.int (-1 : Int32)), (.int (-1 : Int32)), (.int (-1 : Int32)), (.int (-1 : Int32)), (.int (-1 : Int32)), (.int (-1 : Int32)), (.int (-1 : Int32)), (.int (-1 : Int32)), (.int (-1 : Int32)), (.int (-1 : Int32)), (.int (-1 : Int32)), (.int (-1 : Int32)), (.int (-1 : Int32)), (.int (-1 : Int32)), (.int (-1 : Int32))] (.int (0 : Int32)) ∧ Arv Z h o31 k_o31 .byte (64 : Int32) [(.int (0 : Int32)), (.int (0 : Int32)), (.int (0 : Int32)), (.int (0 : Int32)), (.int (0 : Int32)), (.int (0 : Int32))] (.int (0 : Int32)) ∧ o3 ≠ o4 ∧ h0.size ≤ o4 ∧ n0 ≤ o4 ∧ o3 ≠ o5 ∧ h0.size ≤ o5 ∧ o4 ≠ o5 ∧ n0 ≤ o5 ∧ o3 ≠ o6 ∧ o4 ≠ o6 ∧ h0.size ≤ o6 ∧ n0 ≤ o6 ∧ o5 ≠ o6 ∧ o3 ≠ o8 ∧ h0.size ≤ o8 ∧ o4 ≠ o8 ∧ o5 ≠ o8 ∧ o6 ≠ o8 ∧ n0 ≤ o8 ∧ o3 ≠ o9 ∧ o4 ≠ o9 ∧ o5 ≠ o9 ∧ o6 ≠ o9 ∧ h0.size ≤ o9 ∧ n0 ≤ o9 ∧ o8 ≠ o9 ∧ o3 ≠ o11 ∧ o4 ≠ o11 ∧ o5 ≠ o11 ∧ o6 ≠ o11 ∧ o8 ≠ o11 ∧ o9 ≠ o11 ∧ h0.size ≤ o11 ∧ n0 ≤ o11 ∧ o3 ≠ o31 ∧ h0.size ≤ o31 ∧ o4 ≠ o31 ∧ o5 ≠ o31 ∧ o6 ≠ o31 ∧ o8 ≠ o31 ∧ o9 ≠ o31 ∧ o11 ≠ o31 ∧ n0 ≤ o31) := by
  refine Met.mk (tabs := tables_1) (a0 := a0) (ls0 := #[.val (.ref o3)]) (plainFor_of_name pn_com_example_eventloom_eventloom_net_MarkingStore) hw Z0 (fun m => by first | (simp [entryFrame, mkF, argsToLocals, Value.category]; done) | rfl) ?_
  intro p e s m below meth c T C X
  have Kp : Keep h0 h0 [o3] := Keep.refl _ _
  refine s_aloadN 1 C X d1_0 rfl rfl ?_
  refine s_objInit 4 C X d1_1 (mW 9 rfl) (mW 10 rfl) (mW 11 rfl) rfl (W := 0) rfl (by decide) (fun T X => ?_)
  refine s_aloadN 5 C X d1_4 rfl rfl ?_
  refine s_sipush 8 C X d1_5 kc_sipush_4096 ?_
  refine s_newarray 10 4096 C X d1_8 (mW 12 rfl) (by decide) (by decide) (fun T hh o4 k_o4 hb_o4 X E A_o4 g_o4 => ?_)
  have ne_o3_o4 : o3 ≠ o4 := Nat.ne_of_lt (Nat.lt_of_lt_of_le E_o3.lt (Nat.le_of_eq hb_o4))
  have sz_o4 : h0.size ≤ o4 := Nat.le_trans Kp.1 (Nat.le_of_eq hb_o4)
  have E_o3 := E_o3.ext E
  have F_o3_bytes := F_o3_bytes.ext E
  have F_o3_starts := F_o3_starts.ext E
  have F_o3_hashes := F_o3_hashes.ext E
  have F_o3_table := F_o3_table.ext E
  have F_o3_encoded := F_o3_encoded.ext E
  have F_o3_encodedLength := F_o3_encodedLength.ext E
  have F_o3_encodedHash := F_o3_encodedHash.ext E
  have F_o3_length := F_o3_length.ext E
  have F_o3_position := F_o3_position.ext E
  have Kp := Kp.ext E
  have A_o4 : Arv Z _ o4 k_o4 .byte (4096 : Int32) [(.int (0 : Int32)), (.int (0 : Int32)), (.int (0 : Int32)), (.int (0 : Int32)), (.int (0 : Int32)), (.int (0 : Int32))] (.int (0 : Int32)) := A_o4.pad (pad_rep [] _ 6)
  refine s_putfield 13 C X (host := "") d1_10 (Or.inl (mW 13 rfl)) Via.refl F_o3_bytes E_o3 (Or.inl (mW 14 rfl)) (mW 4 rfl) (ty := (.array .byte)) (by decide) rfl rfl g_o3 (fun T hh X W => ?_)
  have E_o3 := E_o3.wr W
  have F_o3_bytes := F_o3_bytes.same W
  have F_o3_starts := oth F_o3_starts W (Or.inr (hw _ (mW 26 rfl))) (Or.inl (hw _ (mW 14 rfl))) (by decide)
  have F_o3_hashes := oth F_o3_hashes W (Or.inr (hw _ (mW 28 rfl))) (Or.inl (hw _ (mW 14 rfl))) (by decide)
  have F_o3_table := oth F_o3_table W (Or.inl (hw _ (mW 37 rfl))) (Or.inl (hw _ (mW 14 rfl))) (by decide)
  have F_o3_encoded := oth F_o3_encoded W (Or.inl (hw _ (mW 39 rfl))) (Or.inl (hw _ (mW 14 rfl))) (by decide)
  have F_o3_encodedLength := oth F_o3_encodedLength W (Or.inl (hw _ (mW 50 rfl))) (Or.inl (hw _ (mW 14 rfl))) (by decide)
  have F_o3_encodedHash := oth F_o3_encodedHash W (Or.inl (hw _ (mW 57 rfl))) (Or.inl (hw _ (mW 14 rfl))) (by decide)
  have F_o3_length := oth F_o3_length W (Or.inl (hw _ (mW 80 rfl))) (Or.inl (hw _ (mW 14 rfl))) (by decide)
  have F_o3_position := oth F_o3_position W (Or.inl (hw _ (mW 171 rfl))) (Or.inl (hw _ (mW 14 rfl))) (by decide)
  have Kp := Kp.wr W (Or.inl (by simp))
  have A_o4 := A_o4.other W (Ne.symm ne_o3_o4)
  refine s_aloadN 14 C X d1_13 rfl rfl ?_
  refine s_new 17 C X d1_14 (mW 15 rfl) (mW 16 rfl) (mW 17 rfl) (fun T hh o5 hb_o5 X E E_o5 D g_o5 => ?_)
  have ne_o3_o5 : o3 ≠ o5 := Nat.ne_of_lt (Nat.lt_of_lt_of_le E_o3.lt (Nat.le_of_eq hb_o5))
  have sz_o5 : h0.size ≤ o5 := Nat.le_trans Kp.1 (Nat.le_of_eq hb_o5)
  have ne_o4_o5 : o4 ≠ o5 := Nat.ne_of_lt (Nat.lt_of_lt_of_le A_o4.lt (Nat.le_of_eq hb_o5))
  have E_o3 := E_o3.ext E
  have F_o3_bytes := F_o3_bytes.ext E
  have F_o3_starts := F_o3_starts.ext E
  have F_o3_hashes := F_o3_hashes.ext E
  have F_o3_table := F_o3_table.ext E
  have F_o3_encoded := F_o3_encoded.ext E
  have F_o3_encodedLength := F_o3_encodedLength.ext E
  have F_o3_encodedHash := F_o3_encodedHash.ext E
  have F_o3_length := F_o3_length.ext E
  have F_o3_position := F_o3_position.ext E
  have Kp := Kp.ext E
  have A_o4 := A_o4.ext E
  have F_o5_values : Fld Z _ o5 "com/example/eventloom/eventloom/net/IntList" "values" "[I" .null := D (Or.inl (hw _ (mW 24 rfl))) (ty := (.array .int)) (by decide)
  have F_o5_size : Fld Z _ o5 "com/example/eventloom/eventloom/net/IntList" "size" "I" (.int (0 : Int32)) := D (Or.inl (hw _ (mW 78 rfl))) (ty := .int) (by decide)
  refine s_dup 18 C X d1_17 rfl ?_
  refine s_callC 21 [] [(.ref o5), (.ref o3)] 2 C X d1_18 rfl (mW 18 rfl) (mW 19 rfl) (mW 17 rfl) (mW 20 rfl) (rm_a7 l Z a0 hw o5 _ n0 X.sz E_o5 F_o5_values F_o5_size g_o5) (lenOf pd___V rfl) rfl rfl rfl (fun T v hh X q => ?_)
  obtain ⟨o6, k_o6, rfl, E_o5, F_o5_values, F_o5_size, Kc, A_o6, ne_o5_o6, sz_o6', g_o6⟩ := q
  have ne_o3_o6 : o3 ≠ o6 := Nat.ne_of_lt (Nat.lt_of_lt_of_le E_o3.lt sz_o6')
  have ne_o4_o6 : o4 ≠ o6 := Nat.ne_of_lt (Nat.lt_of_lt_of_le A_o4.lt sz_o6')
  have sz_o6 : h0.size ≤ o6 := Nat.le_trans Kp.1 sz_o6'
  have E_o3 := E_o3.keep Kc
  have F_o3_bytes := F_o3_bytes.keep Kc (ninS ne_o3_o5 nin0)
  have F_o3_starts := F_o3_starts.keep Kc (ninS ne_o3_o5 nin0)
  have F_o3_hashes := F_o3_hashes.keep Kc (ninS ne_o3_o5 nin0)
  have F_o3_table := F_o3_table.keep Kc (ninS ne_o3_o5 nin0)
  have F_o3_encoded := F_o3_encoded.keep Kc (ninS ne_o3_o5 nin0)
  have F_o3_encodedLength := F_o3_encodedLength.keep Kc (ninS ne_o3_o5 nin0)
  have F_o3_encodedHash := F_o3_encodedHash.keep Kc (ninS ne_o3_o5 nin0)
  have F_o3_length := F_o3_length.keep Kc (ninS ne_o3_o5 nin0)
  have F_o3_position := F_o3_position.keep Kc (ninS ne_o3_o5 nin0)
  have Kp := Kp.trans Kc (allS (Or.inr sz_o5) all0)
  have A_o4 := A_o4.keep Kc (ninS ne_o4_o5 nin0)
  refine Run.cast (st' := [(.ref o5), (.ref o3)]) rfl ?_
  refine s_putfield 24 C X (host := "") d1_21 (Or.inl (mW 25 rfl)) Via.refl F_o3_starts E_o3 (Or.inr ⟨(mW 26 rfl), rfl, rfl⟩) (mW 4 rfl) (ty := (.object "com/example/eventloom/eventloom/net/IntList")) (by decide) rfl rfl g_o3 (fun T hh X W => ?_)
  have E_o3 := E_o3.wr W
  have F_o3_bytes := oth F_o3_bytes W (Or.inl (hw _ (mW 14 rfl))) (Or.inr (hw _ (mW 26 rfl))) (by decide)
  have F_o3_starts := F_o3_starts.same W
  have F_o3_hashes := oth F_o3_hashes W (Or.inr (hw _ (mW 28 rfl))) (Or.inr (hw _ (mW 26 rfl))) (by decide)
  have F_o3_table := oth F_o3_table W (Or.inl (hw _ (mW 37 rfl))) (Or.inr (hw _ (mW 26 rfl))) (by decide)
  have F_o3_encoded := oth F_o3_encoded W (Or.inl (hw _ (mW 39 rfl))) (Or.inr (hw _ (mW 26 rfl))) (by decide)
  have F_o3_encodedLength := oth F_o3_encodedLength W (Or.inl (hw _ (mW 50 rfl))) (Or.inr (hw _ (mW 26 rfl))) (by decide)
  have F_o3_encodedHash := oth F_o3_encodedHash W (Or.inl (hw _ (mW 57 rfl))) (Or.inr (hw _ (mW 26 rfl))) (by decide)
  have F_o3_length := oth F_o3_length W (Or.inl (hw _ (mW 80 rfl))) (Or.inr (hw _ (mW 26 rfl))) (by decide)
  have F_o3_position := oth F_o3_position W (Or.inl (hw _ (mW 171 rfl))) (Or.inr (hw _ (mW 26 rfl))) (by decide)
  have Kp := Kp.wr W (Or.inl (by simp))
  have A_o4 := A_o4.other W (Ne.symm ne_o3_o4)
  have E_o5 := E_o5.wr W
  have F_o5_values := F_o5_values.other W (Or.inl (Ne.symm ne_o3_o5))
  have F_o5_size := F_o5_size.other W (Or.inl (Ne.symm ne_o3_o5))
  have A_o6 := A_o6.other W (Ne.symm ne_o3_o6)
  refine s_aloadN 25 C X d1_24 rfl rfl ?_
  refine s_new 28 C X d1_25 (mW 15 rfl) (mW 16 rfl) (mW 17 rfl) (fun T hh o8 hb_o8 X E E_o8 D g_o8 => ?_)
  have ne_o3_o8 : o3 ≠ o8 := Nat.ne_of_lt (Nat.lt_of_lt_of_le E_o3.lt (Nat.le_of_eq hb_o8))
  have sz_o8 : h0.size ≤ o8 := Nat.le_trans Kp.1 (Nat.le_of_eq hb_o8)
  have ne_o4_o8 : o4 ≠ o8 := Nat.ne_of_lt (Nat.lt_of_lt_of_le A_o4.lt (Nat.le_of_eq hb_o8))
  have ne_o5_o8 : o5 ≠ o8 := Nat.ne_of_lt (Nat.lt_of_lt_of_le E_o5.lt (Nat.le_of_eq hb_o8))
  have ne_o6_o8 : o6 ≠ o8 := Nat.ne_of_lt (Nat.lt_of_lt_of_le A_o6.lt (Nat.le_of_eq hb_o8))
  have E_o3 := E_o3.ext E
  have F_o3_bytes := F_o3_bytes.ext E
  have F_o3_starts := F_o3_starts.ext E
  have F_o3_hashes := F_o3_hashes.ext E
  have F_o3_table := F_o3_table.ext E
  have F_o3_encoded := F_o3_encoded.ext E
  have F_o3_encodedLength := F_o3_encodedLength.ext E
  have F_o3_encodedHash := F_o3_encodedHash.ext E
  have F_o3_length := F_o3_length.ext E
  have F_o3_position := F_o3_position.ext E
  have Kp := Kp.ext E
  have A_o4 := A_o4.ext E
  have E_o5 := E_o5.ext E
  have F_o5_values := F_o5_values.ext E
  have F_o5_size := F_o5_size.ext E
  have A_o6 := A_o6.ext E
  have F_o8_values : Fld Z _ o8 "com/example/eventloom/eventloom/net/IntList" "values" "[I" .null := D (Or.inl (hw _ (mW 24 rfl))) (ty := (.array .int)) (by decide)
  have F_o8_size : Fld Z _ o8 "com/example/eventloom/eventloom/net/IntList" "size" "I" (.int (0 : Int32)) := D (Or.inl (hw _ (mW 78 rfl))) (ty := .int) (by decide)
  refine s_dup 29 C X d1_28 rfl ?_
  refine s_callC 32 [] [(.ref o8), (.ref o3)] 2 C X d1_29 rfl (mW 18 rfl) (mW 19 rfl) (mW 17 rfl) (mW 20 rfl) (rm_a10 l Z a0 hw o8 _ n0 X.sz E_o8 F_o8_values F_o8_size g_o8) (lenOf pd___V rfl) rfl rfl rfl (fun T v hh X q => ?_)
  obtain ⟨o9, k_o9, rfl, E_o8, F_o8_values, F_o8_size, Kc, A_o9, ne_o8_o9, sz_o9', g_o9⟩ := q
  have ne_o3_o9 : o3 ≠ o9 := Nat.ne_of_lt (Nat.lt_of_lt_of_le E_o3.lt sz_o9')
  have ne_o4_o9 : o4 ≠ o9 := Nat.ne_of_lt (Nat.lt_of_lt_of_le A_o4.lt sz_o9')
  have ne_o5_o9 : o5 ≠ o9 := Nat.ne_of_lt (Nat.lt_of_lt_of_le E_o5.lt sz_o9')
  have ne_o6_o9 : o6 ≠ o9 := Nat.ne_of_lt (Nat.lt_of_lt_of_le A_o6.lt sz_o9')
  have sz_o9 : h0.size ≤ o9 := Nat.le_trans Kp.1 sz_o9'
  have E_o3 := E_o3.keep Kc
  have F_o3_bytes := F_o3_bytes.keep Kc (ninS ne_o3_o8 nin0)
  have F_o3_starts := F_o3_starts.keep Kc (ninS ne_o3_o8 nin0)
  have F_o3_hashes := F_o3_hashes.keep Kc (ninS ne_o3_o8 nin0)
  have F_o3_table := F_o3_table.keep Kc (ninS ne_o3_o8 nin0)
  have F_o3_encoded := F_o3_encoded.keep Kc (ninS ne_o3_o8 nin0)
  have F_o3_encodedLength := F_o3_encodedLength.keep Kc (ninS ne_o3_o8 nin0)
  have F_o3_encodedHash := F_o3_encodedHash.keep Kc (ninS ne_o3_o8 nin0)
  have F_o3_length := F_o3_length.keep Kc (ninS ne_o3_o8 nin0)
  have F_o3_position := F_o3_position.keep Kc (ninS ne_o3_o8 nin0)
  have Kp := Kp.trans Kc (allS (Or.inr sz_o8) all0)
  have A_o4 := A_o4.keep Kc (ninS ne_o4_o8 nin0)
  have E_o5 := E_o5.keep Kc
  have F_o5_values := F_o5_values.keep Kc (ninS ne_o5_o8 nin0)
  have F_o5_size := F_o5_size.keep Kc (ninS ne_o5_o8 nin0)
  have A_o6 := A_o6.keep Kc (ninS ne_o6_o8 nin0)
  refine Run.cast (st' := [(.ref o8), (.ref o3)]) rfl ?_
  refine s_putfield 35 C X (host := "") d1_32 (Or.inl (mW 27 rfl)) Via.refl F_o3_hashes E_o3 (Or.inr ⟨(mW 28 rfl), rfl, rfl⟩) (mW 4 rfl) (ty := (.object "com/example/eventloom/eventloom/net/IntList")) (by decide) rfl rfl g_o3 (fun T hh X W => ?_)
  have E_o3 := E_o3.wr W
  have F_o3_bytes := oth F_o3_bytes W (Or.inl (hw _ (mW 14 rfl))) (Or.inr (hw _ (mW 28 rfl))) (by decide)
  have F_o3_starts := oth F_o3_starts W (Or.inr (hw _ (mW 26 rfl))) (Or.inr (hw _ (mW 28 rfl))) (by decide)
  have F_o3_hashes := F_o3_hashes.same W
  have F_o3_table := oth F_o3_table W (Or.inl (hw _ (mW 37 rfl))) (Or.inr (hw _ (mW 28 rfl))) (by decide)
  have F_o3_encoded := oth F_o3_encoded W (Or.inl (hw _ (mW 39 rfl))) (Or.inr (hw _ (mW 28 rfl))) (by decide)
  have F_o3_encodedLength := oth F_o3_encodedLength W (Or.inl (hw _ (mW 50 rfl))) (Or.inr (hw _ (mW 28 rfl))) (by decide)
  have F_o3_encodedHash := oth F_o3_encodedHash W (Or.inl (hw _ (mW 57 rfl))) (Or.inr (hw _ (mW 28 rfl))) (by decide)
  have F_o3_length := oth F_o3_length W (Or.inl (hw _ (mW 80 rfl))) (Or.inr (hw _ (mW 28 rfl))) (by decide)
  have F_o3_position := oth F_o3_position W (Or.inl (hw _ (mW 171 rfl))) (Or.inr (hw _ (mW 28 rfl))) (by decide)
  have Kp := Kp.wr W (Or.inl (by simp))
  have A_o4 := A_o4.other W (Ne.symm ne_o3_o4)
  have E_o5 := E_o5.wr W
  have F_o5_values := F_o5_values.other W (Or.inl (Ne.symm ne_o3_o5))
  have F_o5_size := F_o5_size.other W (Or.inl (Ne.symm ne_o3_o5))
  have A_o6 := A_o6.other W (Ne.symm ne_o3_o6)
  have E_o8 := E_o8.wr W
  have F_o8_values := F_o8_values.other W (Or.inl (Ne.symm ne_o3_o8))
  have F_o8_size := F_o8_size.other W (Or.inl (Ne.symm ne_o3_o8))
  have A_o9 := A_o9.other W (Ne.symm ne_o3_o9)
  refine s_aloadN 36 C X d1_35 rfl rfl ?_
  refine s_bipush 38 C X d1_36 kc_bipush_16 ?_
  refine s_callS 41 [(.int (16 : Int32))] [(.ref o3)] 1 C X d1_38 (mW 29 rfl) (mW 30 rfl) (mW 5 rfl) (mW 31 rfl) (rm_a30 l Z a0 hw  _ n0 X.sz ) (lenOf pd__I__I rfl) rfl rfl rfl (fun T v hh X q => ?_)
  obtain ⟨o11, k_o11, rfl, Kc, A_o11, sz_o11', g_o11⟩ := q
  have ne_o3_o11 : o3 ≠ o11 := Nat.ne_of_lt (Nat.lt_of_lt_of_le E_o3.lt sz_o11')
  have ne_o4_o11 : o4 ≠ o11 := Nat.ne_of_lt (Nat.lt_of_lt_of_le A_o4.lt sz_o11')
  have ne_o5_o11 : o5 ≠ o11 := Nat.ne_of_lt (Nat.lt_of_lt_of_le E_o5.lt sz_o11')
  have ne_o6_o11 : o6 ≠ o11 := Nat.ne_of_lt (Nat.lt_of_lt_of_le A_o6.lt sz_o11')
  have ne_o8_o11 : o8 ≠ o11 := Nat.ne_of_lt (Nat.lt_of_lt_of_le E_o8.lt sz_o11')
  have ne_o9_o11 : o9 ≠ o11 := Nat.ne_of_lt (Nat.lt_of_lt_of_le A_o9.lt sz_o11')
  have sz_o11 : h0.size ≤ o11 := Nat.le_trans Kp.1 sz_o11'
  have E_o3 := E_o3.keep Kc
  have F_o3_bytes := F_o3_bytes.keep Kc nin0
  have F_o3_starts := F_o3_starts.keep Kc nin0
  have F_o3_hashes := F_o3_hashes.keep Kc nin0
  have F_o3_table := F_o3_table.keep Kc nin0
  have F_o3_encoded := F_o3_encoded.keep Kc nin0
  have F_o3_encodedLength := F_o3_encodedLength.keep Kc nin0
  have F_o3_encodedHash := F_o3_encodedHash.keep Kc nin0
  have F_o3_length := F_o3_length.keep Kc nin0
  have F_o3_position := F_o3_position.keep Kc nin0
  have Kp := Kp.trans Kc all0
  have A_o4 := A_o4.keep Kc nin0
  have E_o5 := E_o5.keep Kc
  have F_o5_values := F_o5_values.keep Kc nin0
  have F_o5_size := F_o5_size.keep Kc nin0
  have A_o6 := A_o6.keep Kc nin0
  have E_o8 := E_o8.keep Kc
  have F_o8_values := F_o8_values.keep Kc nin0
  have F_o8_size := F_o8_size.keep Kc nin0
  have A_o9 := A_o9.keep Kc nin0
  refine Run.cast (st' := [(.ref o11), (.ref o3)]) rfl ?_
  refine s_putfield 44 C X (host := "") d1_41 (Or.inl (mW 36 rfl)) Via.refl F_o3_table E_o3 (Or.inl (mW 37 rfl)) (mW 4 rfl) (ty := (.array .int)) (by decide) rfl rfl g_o3 (fun T hh X W => ?_)
  have E_o3 := E_o3.wr W
  have F_o3_bytes := oth F_o3_bytes W (Or.inl (hw _ (mW 14 rfl))) (Or.inl (hw _ (mW 37 rfl))) (by decide)
  have F_o3_starts := oth F_o3_starts W (Or.inr (hw _ (mW 26 rfl))) (Or.inl (hw _ (mW 37 rfl))) (by decide)
  have F_o3_hashes := oth F_o3_hashes W (Or.inr (hw _ (mW 28 rfl))) (Or.inl (hw _ (mW 37 rfl))) (by decide)
  have F_o3_table := F_o3_table.same W
  have F_o3_encoded := oth F_o3_encoded W (Or.inl (hw _ (mW 39 rfl))) (Or.inl (hw _ (mW 37 rfl))) (by decide)
  have F_o3_encodedLength := oth F_o3_encodedLength W (Or.inl (hw _ (mW 50 rfl))) (Or.inl (hw _ (mW 37 rfl))) (by decide)
  have F_o3_encodedHash := oth F_o3_encodedHash W (Or.inl (hw _ (mW 57 rfl))) (Or.inl (hw _ (mW 37 rfl))) (by decide)
  have F_o3_length := oth F_o3_length W (Or.inl (hw _ (mW 80 rfl))) (Or.inl (hw _ (mW 37 rfl))) (by decide)
  have F_o3_position := oth F_o3_position W (Or.inl (hw _ (mW 171 rfl))) (Or.inl (hw _ (mW 37 rfl))) (by decide)
  have Kp := Kp.wr W (Or.inl (by simp))
  have A_o4 := A_o4.other W (Ne.symm ne_o3_o4)
  have E_o5 := E_o5.wr W
  have F_o5_values := F_o5_values.other W (Or.inl (Ne.symm ne_o3_o5))
  have F_o5_size := F_o5_size.other W (Or.inl (Ne.symm ne_o3_o5))
  have A_o6 := A_o6.other W (Ne.symm ne_o3_o6)
  have E_o8 := E_o8.wr W
  have F_o8_values := F_o8_values.other W (Or.inl (Ne.symm ne_o3_o8))
  have F_o8_size := F_o8_size.other W (Or.inl (Ne.symm ne_o3_o8))
  have A_o9 := A_o9.other W (Ne.symm ne_o3_o9)
  have A_o11 := A_o11.other W (Ne.symm ne_o3_o11)
  refine s_aloadN 45 C X d1_44 rfl rfl ?_
  refine s_bipush 47 C X d1_45 kc_bipush_64 ?_
  refine s_newarray 49 64 C X d1_47 (mW 12 rfl) (by decide) (by decide) (fun T hh o31 k_o31 hb_o31 X E A_o31 g_o31 => ?_)
  have ne_o3_o31 : o3 ≠ o31 := Nat.ne_of_lt (Nat.lt_of_lt_of_le E_o3.lt (Nat.le_of_eq hb_o31))
  have sz_o31 : h0.size ≤ o31 := Nat.le_trans Kp.1 (Nat.le_of_eq hb_o31)
  have ne_o4_o31 : o4 ≠ o31 := Nat.ne_of_lt (Nat.lt_of_lt_of_le A_o4.lt (Nat.le_of_eq hb_o31))
  have ne_o5_o31 : o5 ≠ o31 := Nat.ne_of_lt (Nat.lt_of_lt_of_le E_o5.lt (Nat.le_of_eq hb_o31))
  have ne_o6_o31 : o6 ≠ o31 := Nat.ne_of_lt (Nat.lt_of_lt_of_le A_o6.lt (Nat.le_of_eq hb_o31))
  have ne_o8_o31 : o8 ≠ o31 := Nat.ne_of_lt (Nat.lt_of_lt_of_le E_o8.lt (Nat.le_of_eq hb_o31))
  have ne_o9_o31 : o9 ≠ o31 := Nat.ne_of_lt (Nat.lt_of_lt_of_le A_o9.lt (Nat.le_of_eq hb_o31))
  have ne_o11_o31 : o11 ≠ o31 := Nat.ne_of_lt (Nat.lt_of_lt_of_le A_o11.lt (Nat.le_of_eq hb_o31))
  have E_o3 := E_o3.ext E
  have F_o3_bytes := F_o3_bytes.ext E
  have F_o3_starts := F_o3_starts.ext E
  have F_o3_hashes := F_o3_hashes.ext E
  have F_o3_table := F_o3_table.ext E
  have F_o3_encoded := F_o3_encoded.ext E
  have F_o3_encodedLength := F_o3_encodedLength.ext E
  have F_o3_encodedHash := F_o3_encodedHash.ext E
  have F_o3_length := F_o3_length.ext E
  have F_o3_position := F_o3_position.ext E
  have Kp := Kp.ext E
  have A_o4 := A_o4.ext E
  have E_o5 := E_o5.ext E
  have F_o5_values := F_o5_values.ext E
  have F_o5_size := F_o5_size.ext E
  have A_o6 := A_o6.ext E
  have E_o8 := E_o8.ext E
  have F_o8_values := F_o8_values.ext E
  have F_o8_size := F_o8_size.ext E
  have A_o9 := A_o9.ext E
  have A_o11 := A_o11.ext E
  have A_o31 : Arv Z _ o31 k_o31 .byte (64 : Int32) [(.int (0 : Int32)), (.int (0 : Int32)), (.int (0 : Int32)), (.int (0 : Int32)), (.int (0 : Int32)), (.int (0 : Int32))] (.int (0 : Int32)) := A_o31.pad (pad_rep [] _ 6)
  refine s_putfield 52 C X (host := "") d1_49 (Or.inl (mW 38 rfl)) Via.refl F_o3_encoded E_o3 (Or.inl (mW 39 rfl)) (mW 4 rfl) (ty := (.array .byte)) (by decide) rfl rfl g_o3 (fun T hh X W => ?_)
  have E_o3 := E_o3.wr W
  have F_o3_bytes := oth F_o3_bytes W (Or.inl (hw _ (mW 14 rfl))) (Or.inl (hw _ (mW 39 rfl))) (by decide)
  have F_o3_starts := oth F_o3_starts W (Or.inr (hw _ (mW 26 rfl))) (Or.inl (hw _ (mW 39 rfl))) (by decide)
  have F_o3_hashes := oth F_o3_hashes W (Or.inr (hw _ (mW 28 rfl))) (Or.inl (hw _ (mW 39 rfl))) (by decide)
  have F_o3_table := oth F_o3_table W (Or.inl (hw _ (mW 37 rfl))) (Or.inl (hw _ (mW 39 rfl))) (by decide)
  have F_o3_encoded := F_o3_encoded.same W
  have F_o3_encodedLength := oth F_o3_encodedLength W (Or.inl (hw _ (mW 50 rfl))) (Or.inl (hw _ (mW 39 rfl))) (by decide)
  have F_o3_encodedHash := oth F_o3_encodedHash W (Or.inl (hw _ (mW 57 rfl))) (Or.inl (hw _ (mW 39 rfl))) (by decide)
  have F_o3_length := oth F_o3_length W (Or.inl (hw _ (mW 80 rfl))) (Or.inl (hw _ (mW 39 rfl))) (by decide)
  have F_o3_position := oth F_o3_position W (Or.inl (hw _ (mW 171 rfl))) (Or.inl (hw _ (mW 39 rfl))) (by decide)
  have Kp := Kp.wr W (Or.inl (by simp))
  have A_o4 := A_o4.other W (Ne.symm ne_o3_o4)
  have E_o5 := E_o5.wr W
  have F_o5_values := F_o5_values.other W (Or.inl (Ne.symm ne_o3_o5))
  have F_o5_size := F_o5_size.other W (Or.inl (Ne.symm ne_o3_o5))
  have A_o6 := A_o6.other W (Ne.symm ne_o3_o6)
  have E_o8 := E_o8.wr W
  have F_o8_values := F_o8_values.other W (Or.inl (Ne.symm ne_o3_o8))
  have F_o8_size := F_o8_size.other W (Or.inl (Ne.symm ne_o3_o8))
  have A_o9 := A_o9.other W (Ne.symm ne_o3_o9)
  have A_o11 := A_o11.other W (Ne.symm ne_o3_o11)
  have A_o31 := A_o31.other W (Ne.symm ne_o3_o31)
  refine s_return C X d1_52 rfl ?_
  exact ⟨o4, o5, k_o4, o6, k_o6, o8, o9, k_o9, o11, k_o11, o31, k_o31, rfl, E_o3, F_o3_bytes, F_o3_starts, F_o3_hashes, F_o3_table, F_o3_encoded, F_o3_encodedLength, F_o3_encodedHash, F_o3_length, F_o3_position, Kp, A_o4, E_o5, F_o5_values, F_o5_size, A_o6, E_o8, F_o8_values, F_o8_size, A_o9, A_o11, A_o31, ne_o3_o4, sz_o4, g_o4, ne_o3_o5, sz_o5, ne_o4_o5, g_o5, ne_o3_o6, ne_o4_o6, sz_o6, g_o6, ne_o5_o6, ne_o3_o8, sz_o8, ne_o4_o8, ne_o5_o8, ne_o6_o8, g_o8, ne_o3_o9, ne_o4_o9, ne_o5_o9, ne_o6_o9, sz_o9, g_o9, ne_o8_o9, ne_o3_o11, ne_o4_o11, ne_o5_o11, ne_o6_o11, ne_o8_o11, ne_o9_o11, sz_o11, g_o11, ne_o3_o31, sz_o31, ne_o4_o31, ne_o5_o31, ne_o6_o31, ne_o8_o31, ne_o9_o31, ne_o11_o31, g_o31⟩
set_option maxRecDepth 65536 in
set_option maxHeartbeats 40000000 in
theorem rm_a37 (l : Launch) (Z : State) (a0 : Array Value) (hw : ∀ d ∈ tables_1, d.before a0 Z = true) (o3 : Addr) (o4 : Addr) (o5 : Addr) (o8 : Addr) (o11 : Addr) (o31 : Addr) (k_o31 : ClassId) (h0 : Heap) (n0 : Nat) (Z0 : n0 ≤ h0.size) (E_o3 : Exa Z h0 o3 "com/example/eventloom/eventloom/net/MarkingStore") (F_o3_bytes : Fld Z h0 o3 "com/example/eventloom/eventloom/net/MarkingStore" "bytes" "[B" (.ref o4)) (F_o3_starts : Fld Z h0 o3 "com/example/eventloom/eventloom/net/MarkingStore" "starts" "Lcom/example/eventloom/eventloom/net/IntList;" (.ref o5)) (F_o3_hashes : Fld Z h0 o3 "com/example/eventloom/eventloom/net/MarkingStore" "hashes" "Lcom/example/eventloom/eventloom/net/IntList;" (.ref o8)) (F_o3_table : Fld Z h0 o3 "com/example/eventloom/eventloom/net/MarkingStore" "table" "[I" (.ref o11)) (F_o3_encoded : Fld Z h0 o3 "com/example/eventloom/eventloom/net/MarkingStore" "encoded" "[B" (.ref o31)) (F_o3_encodedLength : Fld Z h0 o3 "com/example/eventloom/eventloom/net/MarkingStore" "encodedLength" "I" (.int (0 : Int32))) (F_o3_encodedHash : Fld Z h0 o3 "com/example/eventloom/eventloom/net/MarkingStore" "encodedHash" "I" (.int (0 : Int32))) (F_o3_length : Fld Z h0 o3 "com/example/eventloom/eventloom/net/MarkingStore" "length" "I" (.int (0 : Int32))) (F_o3_position : Fld Z h0 o3 "com/example/eventloom/eventloom/net/MarkingStore" "position" "I" (.int (0 : Int32))) (A_o31 : Arv Z h0 o31 k_o31 .byte (64 : Int32) [(.int (0 : Int32)), (.int (0 : Int32)), (.int (0 : Int32)), (.int (0 : Int32)), (.int (0 : Int32)), (.int (0 : Int32))] (.int (0 : Int32))) (g_o3 : n0 ≤ o3) (g_o31 : n0 ≤ o31) (ne_o3_o31 : o3 ≠ o31) :
    Met l Z (⟨"com/example/eventloom/eventloom/net/MarkingStore", "write", "(J)V"⟩ : MethodName) prog_86_method_12_code 5 none { frames := 0, cells := 0, slots := 0, locals := 0 } [] #[(.ref o3), (.long (0 : Int64))] h0 n0 (fun v h => v = none ∧ Exa Z h o3 "com/example/eventloom/eventloom/net/MarkingStore" ∧ Fld Z h o3 "com/example/eventloom/eventloom/net/MarkingStore" "bytes" "[B" (.ref o4) ∧ Fld Z h o3 "com/example/eventloom/eventloom/net/MarkingStore" "starts" "Lcom/example/eventloom/eventloom/net/IntList;" (.ref o5) ∧ Fld Z h o3 "com/example/eventloom/eventloom/net/MarkingStore" "hashes" "Lcom/example/eventloom/eventloom/net/IntList;" (.ref o8) ∧ Fld Z h o3 "com/example/eventloom/eventloom/net/MarkingStore" "table" "[I" (.ref o11) ∧ Fld Z h o3 "com/example/eventloom/eventloom/net/MarkingStore" "encoded" "[B" (.ref o31) ∧ Fld Z h o3 "com/example/eventloom/eventloom/net/MarkingStore" "encodedLength" "I" (.int (1 : Int32)) ∧ Fld Z h o3 "com/example/eventloom/eventloom/net/MarkingStore" "encodedHash" "I" (.int (0 : Int32)) ∧ Fld Z h o3 "com/example/eventloom/eventloom/net/MarkingStore" "length" "I" (.int (0 : Int32)) ∧ Fld Z h o3 "com/example/eventloom/eventloom/net/MarkingStore" "position" "I" (.int (0 : Int32)) ∧ Arv Z h o31 k_o31 .byte (64 : Int32) [(.int (0 : Int32)), (.int (0 : Int32)), (.int (0 : Int32)), (.int (0 : Int32)), (.int (0 : Int32)), (.int (0 : Int32))] (.int (0 : Int32)) ∧ Keep h0 h [o3, o31]) := by
  refine Met.mk (tabs := tables_1) (a0 := a0) (ls0 := #[.val (.ref o3), .val (.long (0 : Int64)), .second, .unset, .unset]) (plainFor_of_name pn_com_example_eventloom_eventloom_net_MarkingStore) hw Z0 (fun m => by first | (simp [entryFrame, mkF, argsToLocals, Value.category]; done) | rfl) ?_
  intro p e s m below meth c T C X
  have Kp : Keep h0 h0 [o3, o31] := Keep.refl _ _
  refine s_lloadN 1 C X d8_0 rfl ?_
  refine s_lstoreN 2 C X (l' := #[.val (.ref o3), .val (.long (0 : Int64)), .second, .val (.long (0 : Int64)), .second]) d8_1 rfl ?_
  refine s_lloadN 3 C X d8_2 rfl ?_
  refine s_ldc2Long 6 C X d8_3 (mW 55 rfl) ?_
  refine s_land 7 C X d8_6 ?_
  refine Run.cast (st' := [(.long (0 : Int64))]) (by rw [kf_5]) ?_
  refine s_lconst 8 C X (z := (0 : Int64)) d8_7 rfl ?_
  refine s_lcmp 9 C X d8_8 ?_
  refine Run.cast (st' := [(.int (0 : Int32))]) (by rw [kf_6]) ?_
  refine s_if_eq 47 12 C X d8_9 (fun _ => ?_) (fun c => absurd (by decide : (0 : Int32) = (0 : Int32)) c)
  refine s_aloadN 48 C X d8_47 rfl rfl ?_
  refine s_getfield 51 C X (host := "") d8_48 (Or.inl (mW 38 rfl)) Via.refl F_o3_encoded (fun T X => ?_)
  refine s_aloadN 52 C X d8_51 rfl rfl ?_
  refine s_dup 53 C X d8_52 rfl ?_
  refine s_getfield 56 C X (host := "") d8_53 (Or.inl (mW 49 rfl)) Via.refl F_o3_encodedLength (fun T X => ?_)
  refine s_dupX1 57 C X d8_56 rfl rfl ?_
  refine s_iconst 58 C X d8_57 kc_iconst_1 ?_
  refine s_iadd 59 C X d8_58 ?_
  refine Run.cast (st' := [(.int (1 : Int32)), (.ref o3), (.int (0 : Int32)), (.ref o31)]) (by rw [kf_7]) ?_
  refine s_putfield 62 C X (host := "") d8_59 (Or.inl (mW 49 rfl)) Via.refl F_o3_encodedLength E_o3 (Or.inl (mW 50 rfl)) (mW 4 rfl) (ty := .int) (by decide) rfl rfl g_o3 (fun T hh X W => ?_)
  have E_o3 := E_o3.wr W
  have F_o3_bytes := oth F_o3_bytes W (Or.inl (hw _ (mW 14 rfl))) (Or.inl (hw _ (mW 50 rfl))) (by decide)
  have F_o3_starts := oth F_o3_starts W (Or.inr (hw _ (mW 26 rfl))) (Or.inl (hw _ (mW 50 rfl))) (by decide)
  have F_o3_hashes := oth F_o3_hashes W (Or.inr (hw _ (mW 28 rfl))) (Or.inl (hw _ (mW 50 rfl))) (by decide)
  have F_o3_table := oth F_o3_table W (Or.inl (hw _ (mW 37 rfl))) (Or.inl (hw _ (mW 50 rfl))) (by decide)
  have F_o3_encoded := oth F_o3_encoded W (Or.inl (hw _ (mW 39 rfl))) (Or.inl (hw _ (mW 50 rfl))) (by decide)
  have F_o3_encodedLength := F_o3_encodedLength.same W
  have F_o3_encodedHash := oth F_o3_encodedHash W (Or.inl (hw _ (mW 57 rfl))) (Or.inl (hw _ (mW 50 rfl))) (by decide)
  have F_o3_length := oth F_o3_length W (Or.inl (hw _ (mW 80 rfl))) (Or.inl (hw _ (mW 50 rfl))) (by decide)
  have F_o3_position := oth F_o3_position W (Or.inl (hw _ (mW 171 rfl))) (Or.inl (hw _ (mW 50 rfl))) (by decide)
  have A_o31 := A_o31.other W (Ne.symm ne_o3_o31)
  have Kp := Kp.wr W (Or.inl (by simp))
  refine s_lloadN 63 C X d8_62 rfl ?_
  refine s_l2i 64 C X d8_63 ?_
  refine Run.cast (st' := [(.int (0 : Int32)), (.int (0 : Int32)), (.ref o31)]) (by rw [kf_8]) ?_
  refine s_i2b 65 C X d8_64 ?_
  refine Run.cast (st' := [(.int (0 : Int32)), (.int (0 : Int32)), (.ref o31)]) (by rw [kf_9]) ?_
  refine s_bastore 66 0 C X d8_65 A_o31 g_o31 ⟨by decide, by decide⟩ rfl (Nat.le_of_ble_eq_true rfl) (fun T hh X W A_o31 => ?_)
  have A_o31 : Arv Z _ o31 k_o31 .byte (64 : Int32) [(.int (0 : Int32)), (.int (0 : Int32)), (.int (0 : Int32)), (.int (0 : Int32)), (.int (0 : Int32)), (.int (0 : Int32))] (.int (0 : Int32)) := A_o31
  have E_o3 := E_o3.wr W
  have F_o3_bytes := F_o3_bytes.other W (Or.inl ne_o3_o31)
  have F_o3_starts := F_o3_starts.other W (Or.inl ne_o3_o31)
  have F_o3_hashes := F_o3_hashes.other W (Or.inl ne_o3_o31)
  have F_o3_table := F_o3_table.other W (Or.inl ne_o3_o31)
  have F_o3_encoded := F_o3_encoded.other W (Or.inl ne_o3_o31)
  have F_o3_encodedLength := F_o3_encodedLength.other W (Or.inl ne_o3_o31)
  have F_o3_encodedHash := F_o3_encodedHash.other W (Or.inl ne_o3_o31)
  have F_o3_length := F_o3_length.other W (Or.inl ne_o3_o31)
  have F_o3_position := F_o3_position.other W (Or.inl ne_o3_o31)
  have Kp := Kp.wr W (Or.inl (by simp))
  refine s_return C X d8_66 rfl ?_
  exact ⟨rfl, E_o3, F_o3_bytes, F_o3_starts, F_o3_hashes, F_o3_table, F_o3_encoded, F_o3_encodedLength, F_o3_encodedHash, F_o3_length, F_o3_position, A_o31, Kp⟩
set_option maxRecDepth 65536 in
set_option maxHeartbeats 40000000 in
theorem rm_a39 (l : Launch) (Z : State) (a0 : Array Value) (hw : ∀ d ∈ tables_1, d.before a0 Z = true) (o3 : Addr) (o4 : Addr) (o5 : Addr) (o8 : Addr) (o11 : Addr) (o31 : Addr) (k_o31 : ClassId) (h0 : Heap) (n0 : Nat) (Z0 : n0 ≤ h0.size) (E_o3 : Exa Z h0 o3 "com/example/eventloom/eventloom/net/MarkingStore") (F_o3_bytes : Fld Z h0 o3 "com/example/eventloom/eventloom/net/MarkingStore" "bytes" "[B" (.ref o4)) (F_o3_starts : Fld Z h0 o3 "com/example/eventloom/eventloom/net/MarkingStore" "starts" "Lcom/example/eventloom/eventloom/net/IntList;" (.ref o5)) (F_o3_hashes : Fld Z h0 o3 "com/example/eventloom/eventloom/net/MarkingStore" "hashes" "Lcom/example/eventloom/eventloom/net/IntList;" (.ref o8)) (F_o3_table : Fld Z h0 o3 "com/example/eventloom/eventloom/net/MarkingStore" "table" "[I" (.ref o11)) (F_o3_encoded : Fld Z h0 o3 "com/example/eventloom/eventloom/net/MarkingStore" "encoded" "[B" (.ref o31)) (F_o3_encodedLength : Fld Z h0 o3 "com/example/eventloom/eventloom/net/MarkingStore" "encodedLength" "I" (.int (1 : Int32))) (F_o3_encodedHash : Fld Z h0 o3 "com/example/eventloom/eventloom/net/MarkingStore" "encodedHash" "I" (.int (0 : Int32))) (F_o3_length : Fld Z h0 o3 "com/example/eventloom/eventloom/net/MarkingStore" "length" "I" (.int (0 : Int32))) (F_o3_position : Fld Z h0 o3 "com/example/eventloom/eventloom/net/MarkingStore" "position" "I" (.int (0 : Int32))) (A_o31 : Arv Z h0 o31 k_o31 .byte (64 : Int32) [(.int (0 : Int32)), (.int (0 : Int32)), (.int (0 : Int32)), (.int (0 : Int32)), (.int (0 : Int32)), (.int (0 : Int32))] (.int (0 : Int32))) (g_o3 : n0 ≤ o3) (g_o31 : n0 ≤ o31) (ne_o3_o31 : o3 ≠ o31) :
    Met l Z (⟨"com/example/eventloom/eventloom/net/MarkingStore", "write", "(J)V"⟩ : MethodName) prog_86_method_12_code 5 none { frames := 0, cells := 0, slots := 0, locals := 0 } [] #[(.ref o3), (.long (1 : Int64))] h0 n0 (fun v h => v = none ∧ Exa Z h o3 "com/example/eventloom/eventloom/net/MarkingStore" ∧ Fld Z h o3 "com/example/eventloom/eventloom/net/MarkingStore" "bytes" "[B" (.ref o4) ∧ Fld Z h o3 "com/example/eventloom/eventloom/net/MarkingStore" "starts" "Lcom/example/eventloom/eventloom/net/IntList;" (.ref o5) ∧ Fld Z h o3 "com/example/eventloom/eventloom/net/MarkingStore" "hashes" "Lcom/example/eventloom/eventloom/net/IntList;" (.ref o8) ∧ Fld Z h o3 "com/example/eventloom/eventloom/net/MarkingStore" "table" "[I" (.ref o11) ∧ Fld Z h o3 "com/example/eventloom/eventloom/net/MarkingStore" "encoded" "[B" (.ref o31) ∧ Fld Z h o3 "com/example/eventloom/eventloom/net/MarkingStore" "encodedLength" "I" (.int (2 : Int32)) ∧ Fld Z h o3 "com/example/eventloom/eventloom/net/MarkingStore" "encodedHash" "I" (.int (0 : Int32)) ∧ Fld Z h o3 "com/example/eventloom/eventloom/net/MarkingStore" "length" "I" (.int (0 : Int32)) ∧ Fld Z h o3 "com/example/eventloom/eventloom/net/MarkingStore" "position" "I" (.int (0 : Int32)) ∧ Arv Z h o31 k_o31 .byte (64 : Int32) [(.int (0 : Int32)), (.int (1 : Int32)), (.int (0 : Int32)), (.int (0 : Int32)), (.int (0 : Int32)), (.int (0 : Int32))] (.int (0 : Int32)) ∧ Keep h0 h [o3, o31]) := by
  refine Met.mk (tabs := tables_1) (a0 := a0) (ls0 := #[.val (.ref o3), .val (.long (1 : Int64)), .second, .unset, .unset]) (plainFor_of_name pn_com_example_eventloom_eventloom_net_MarkingStore) hw Z0 (fun m => by first | (simp [entryFrame, mkF, argsToLocals, Value.category]; done) | rfl) ?_
  intro p e s m below meth c T C X
  have Kp : Keep h0 h0 [o3, o31] := Keep.refl _ _
  refine s_lloadN 1 C X d8_0 rfl ?_
  refine s_lstoreN 2 C X (l' := #[.val (.ref o3), .val (.long (1 : Int64)), .second, .val (.long (1 : Int64)), .second]) d8_1 rfl ?_
  refine s_lloadN 3 C X d8_2 rfl ?_
  refine s_ldc2Long 6 C X d8_3 (mW 55 rfl) ?_
  refine s_land 7 C X d8_6 ?_
  refine Run.cast (st' := [(.long (0 : Int64))]) (by rw [kf_10]) ?_
  refine s_lconst 8 C X (z := (0 : Int64)) d8_7 rfl ?_
  refine s_lcmp 9 C X d8_8 ?_
  refine Run.cast (st' := [(.int (0 : Int32))]) (by rw [kf_6]) ?_
  refine s_if_eq 47 12 C X d8_9 (fun _ => ?_) (fun c => absurd (by decide : (0 : Int32) = (0 : Int32)) c)
  refine s_aloadN 48 C X d8_47 rfl rfl ?_
  refine s_getfield 51 C X (host := "") d8_48 (Or.inl (mW 38 rfl)) Via.refl F_o3_encoded (fun T X => ?_)
  refine s_aloadN 52 C X d8_51 rfl rfl ?_
  refine s_dup 53 C X d8_52 rfl ?_
  refine s_getfield 56 C X (host := "") d8_53 (Or.inl (mW 49 rfl)) Via.refl F_o3_encodedLength (fun T X => ?_)
  refine s_dupX1 57 C X d8_56 rfl rfl ?_
  refine s_iconst 58 C X d8_57 kc_iconst_1 ?_
  refine s_iadd 59 C X d8_58 ?_
  refine Run.cast (st' := [(.int (2 : Int32)), (.ref o3), (.int (1 : Int32)), (.ref o31)]) (by rw [kf_11]) ?_
  refine s_putfield 62 C X (host := "") d8_59 (Or.inl (mW 49 rfl)) Via.refl F_o3_encodedLength E_o3 (Or.inl (mW 50 rfl)) (mW 4 rfl) (ty := .int) (by decide) rfl rfl g_o3 (fun T hh X W => ?_)
  have E_o3 := E_o3.wr W
  have F_o3_bytes := oth F_o3_bytes W (Or.inl (hw _ (mW 14 rfl))) (Or.inl (hw _ (mW 50 rfl))) (by decide)
  have F_o3_starts := oth F_o3_starts W (Or.inr (hw _ (mW 26 rfl))) (Or.inl (hw _ (mW 50 rfl))) (by decide)
  have F_o3_hashes := oth F_o3_hashes W (Or.inr (hw _ (mW 28 rfl))) (Or.inl (hw _ (mW 50 rfl))) (by decide)
  have F_o3_table := oth F_o3_table W (Or.inl (hw _ (mW 37 rfl))) (Or.inl (hw _ (mW 50 rfl))) (by decide)
  have F_o3_encoded := oth F_o3_encoded W (Or.inl (hw _ (mW 39 rfl))) (Or.inl (hw _ (mW 50 rfl))) (by decide)
  have F_o3_encodedLength := F_o3_encodedLength.same W
  have F_o3_encodedHash := oth F_o3_encodedHash W (Or.inl (hw _ (mW 57 rfl))) (Or.inl (hw _ (mW 50 rfl))) (by decide)
  have F_o3_length := oth F_o3_length W (Or.inl (hw _ (mW 80 rfl))) (Or.inl (hw _ (mW 50 rfl))) (by decide)
  have F_o3_position := oth F_o3_position W (Or.inl (hw _ (mW 171 rfl))) (Or.inl (hw _ (mW 50 rfl))) (by decide)
  have A_o31 := A_o31.other W (Ne.symm ne_o3_o31)
  have Kp := Kp.wr W (Or.inl (by simp))
  refine s_lloadN 63 C X d8_62 rfl ?_
  refine s_l2i 64 C X d8_63 ?_
  refine Run.cast (st' := [(.int (1 : Int32)), (.int (1 : Int32)), (.ref o31)]) (by rw [kf_12]) ?_
  refine s_i2b 65 C X d8_64 ?_
  refine Run.cast (st' := [(.int (1 : Int32)), (.int (1 : Int32)), (.ref o31)]) (by rw [kf_13]) ?_
  refine s_bastore 66 1 C X d8_65 A_o31 g_o31 ⟨by decide, by decide⟩ rfl (Nat.le_of_ble_eq_true rfl) (fun T hh X W A_o31 => ?_)
  have A_o31 : Arv Z _ o31 k_o31 .byte (64 : Int32) [(.int (0 : Int32)), (.int (1 : Int32)), (.int (0 : Int32)), (.int (0 : Int32)), (.int (0 : Int32)), (.int (0 : Int32))] (.int (0 : Int32)) := A_o31
  have E_o3 := E_o3.wr W
  have F_o3_bytes := F_o3_bytes.other W (Or.inl ne_o3_o31)
  have F_o3_starts := F_o3_starts.other W (Or.inl ne_o3_o31)
  have F_o3_hashes := F_o3_hashes.other W (Or.inl ne_o3_o31)
  have F_o3_table := F_o3_table.other W (Or.inl ne_o3_o31)
  have F_o3_encoded := F_o3_encoded.other W (Or.inl ne_o3_o31)
  have F_o3_encodedLength := F_o3_encodedLength.other W (Or.inl ne_o3_o31)
  have F_o3_encodedHash := F_o3_encodedHash.other W (Or.inl ne_o3_o31)
  have F_o3_length := F_o3_length.other W (Or.inl ne_o3_o31)
  have F_o3_position := F_o3_position.other W (Or.inl ne_o3_o31)
  have Kp := Kp.wr W (Or.inl (by simp))
  refine s_return C X d8_66 rfl ?_
  exact ⟨rfl, E_o3, F_o3_bytes, F_o3_starts, F_o3_hashes, F_o3_table, F_o3_encoded, F_o3_encodedLength, F_o3_encodedHash, F_o3_length, F_o3_position, A_o31, Kp⟩
set_option maxRecDepth 65536 in
set_option maxHeartbeats 40000000 in
theorem rm_a44 (l : Launch) (Z : State) (a0 : Array Value) (hw : ∀ d ∈ tables_1, d.before a0 Z = true) (o1 : Addr) (o3 : Addr) (k_o1 : ClassId) (o4 : Addr) (o5 : Addr) (o8 : Addr) (o11 : Addr) (o31 : Addr) (k_o31 : ClassId) (h0 : Heap) (n0 : Nat) (Z0 : n0 ≤ h0.size) (A_o1 : Arv Z h0 o1 k_o1 .long (1 : Int32) [(.long (1 : Int64))] (.long (0 : Int64))) (E_o3 : Exa Z h0 o3 "com/example/eventloom/eventloom/net/MarkingStore") (F_o3_bytes : Fld Z h0 o3 "com/example/eventloom/eventloom/net/MarkingStore" "bytes" "[B" (.ref o4)) (F_o3_starts : Fld Z h0 o3 "com/example/eventloom/eventloom/net/MarkingStore" "starts" "Lcom/example/eventloom/eventloom/net/IntList;" (.ref o5)) (F_o3_hashes : Fld Z h0 o3 "com/example/eventloom/eventloom/net/MarkingStore" "hashes" "Lcom/example/eventloom/eventloom/net/IntList;" (.ref o8)) (F_o3_table : Fld Z h0 o3 "com/example/eventloom/eventloom/net/MarkingStore" "table" "[I" (.ref o11)) (F_o3_encoded : Fld Z h0 o3 "com/example/eventloom/eventloom/net/MarkingStore" "encoded" "[B" (.ref o31)) (F_o3_encodedLength : Fld Z h0 o3 "com/example/eventloom/eventloom/net/MarkingStore" "encodedLength" "I" (.int (0 : Int32))) (F_o3_encodedHash : Fld Z h0 o3 "com/example/eventloom/eventloom/net/MarkingStore" "encodedHash" "I" (.int (0 : Int32))) (F_o3_length : Fld Z h0 o3 "com/example/eventloom/eventloom/net/MarkingStore" "length" "I" (.int (0 : Int32))) (F_o3_position : Fld Z h0 o3 "com/example/eventloom/eventloom/net/MarkingStore" "position" "I" (.int (0 : Int32))) (A_o31 : Arv Z h0 o31 k_o31 .byte (64 : Int32) [(.int (0 : Int32)), (.int (0 : Int32)), (.int (0 : Int32)), (.int (0 : Int32)), (.int (0 : Int32)), (.int (0 : Int32))] (.int (0 : Int32))) (ne_o1_o3 : o1 ≠ o3) (g_o3 : n0 ≤ o3) (ne_o1_o31 : o1 ≠ o31) (g_o31 : n0 ≤ o31) (ne_o3_o31 : o3 ≠ o31) :
    Met l Z (⟨"com/example/eventloom/eventloom/net/MarkingStore", "encode", "([J)V"⟩ : MethodName) prog_86_method_11_code 5 none { frames := 1, cells := 0, slots := 0, locals := 16 } [] #[(.ref o3), (.ref o1)] h0 n0 (fun v h => v = none ∧ Keep h0 h [o3, o31] ∧ Exa Z h o3 "com/example/eventloom/eventloom/net/MarkingStore" ∧ Fld Z h o3 "com/example/eventloom/eventloom/net/MarkingStore" "bytes" "[B" (.ref o4) ∧ Fld Z h o3 "com/example/eventloom/eventloom/net/MarkingStore" "starts" "Lcom/example/eventloom/eventloom/net/IntList;" (.ref o5) ∧ Fld Z h o3 "com/example/eventloom/eventloom/net/MarkingStore" "hashes" "Lcom/example/eventloom/eventloom/net/IntList;" (.ref o8) ∧ Fld Z h o3 "com/example/eventloom/eventloom/net/MarkingStore" "table" "[I" (.ref o11) ∧ Fld Z h o3 "com/example/eventloom/eventloom/net/MarkingStore" "encoded" "[B" (.ref o31) ∧ Fld Z h o3 "com/example/eventloom/eventloom/net/MarkingStore" "encodedLength" "I" (.int (2 : Int32)) ∧ Fld Z h o3 "com/example/eventloom/eventloom/net/MarkingStore" "encodedHash" "I" (.int (962 : Int32)) ∧ Fld Z h o3 "com/example/eventloom/eventloom/net/MarkingStore" "length" "I" (.int (0 : Int32)) ∧ Fld Z h o3 "com/example/eventloom/eventloom/net/MarkingStore" "position" "I" (.int (0 : Int32)) ∧ Arv Z h o31 k_o31 .byte (64 : Int32) [(.int (0 : Int32)), (.int (1 : Int32)), (.int (0 : Int32)), (.int (0 : Int32)), (.int (0 : Int32)), (.int (0 : Int32))] (.int (0 : Int32))) := by
  refine Met.mk (tabs := tables_1) (a0 := a0) (ls0 := #[.val (.ref o3), .val (.ref o1), .unset, .unset, .unset]) (plainFor_of_name pn_com_example_eventloom_eventloom_net_MarkingStore) hw Z0 (fun m => by first | (simp [entryFrame, mkF, argsToLocals, Value.category]; done) | rfl) ?_
  intro p e s m below meth c T C X
  have Kp : Keep h0 h0 [o3, o31] := Keep.refl _ _
  refine s_aloadN 1 C X d7_0 rfl rfl ?_
  refine s_iconst 2 C X d7_1 kc_iconst_0 ?_
  refine s_putfield 5 C X (host := "") d7_2 (Or.inl (mW 49 rfl)) Via.refl F_o3_encodedLength E_o3 (Or.inl (mW 50 rfl)) (mW 4 rfl) (ty := .int) (by decide) rfl rfl g_o3 (fun T hh X W => ?_)
  have A_o1 := A_o1.other W ne_o1_o3
  have E_o3 := E_o3.wr W
  have F_o3_bytes := oth F_o3_bytes W (Or.inl (hw _ (mW 14 rfl))) (Or.inl (hw _ (mW 50 rfl))) (by decide)
  have F_o3_starts := oth F_o3_starts W (Or.inr (hw _ (mW 26 rfl))) (Or.inl (hw _ (mW 50 rfl))) (by decide)
  have F_o3_hashes := oth F_o3_hashes W (Or.inr (hw _ (mW 28 rfl))) (Or.inl (hw _ (mW 50 rfl))) (by decide)
  have F_o3_table := oth F_o3_table W (Or.inl (hw _ (mW 37 rfl))) (Or.inl (hw _ (mW 50 rfl))) (by decide)
  have F_o3_encoded := oth F_o3_encoded W (Or.inl (hw _ (mW 39 rfl))) (Or.inl (hw _ (mW 50 rfl))) (by decide)
  have F_o3_encodedLength := F_o3_encodedLength.same W
  have F_o3_encodedHash := oth F_o3_encodedHash W (Or.inl (hw _ (mW 57 rfl))) (Or.inl (hw _ (mW 50 rfl))) (by decide)
  have F_o3_length := oth F_o3_length W (Or.inl (hw _ (mW 80 rfl))) (Or.inl (hw _ (mW 50 rfl))) (by decide)
  have F_o3_position := oth F_o3_position W (Or.inl (hw _ (mW 171 rfl))) (Or.inl (hw _ (mW 50 rfl))) (by decide)
  have A_o31 := A_o31.other W (Ne.symm ne_o3_o31)
  have Kp := Kp.wr W (Or.inl (by simp))
  refine s_iconst 6 C X d7_5 kc_iconst_m1 ?_
  refine s_istoreN 7 C X (l' := #[.val (.ref o3), .val (.ref o1), .val (.int (-1 : Int32)), .unset, .unset]) d7_6 rfl ?_
  refine s_iconst 8 C X d7_7 kc_iconst_0 ?_
  refine s_istoreN 9 C X (l' := #[.val (.ref o3), .val (.ref o1), .val (.int (-1 : Int32)), .val (.int (0 : Int32)), .unset]) d7_8 rfl ?_
  refine s_iloadN 10 C X d7_9 rfl ?_
  refine s_aloadN 11 C X d7_10 rfl rfl ?_
  refine s_arraylength 12 C X d7_11 A_o1 ?_
  refine s_icmp_ge 91 15 C X d7_12 (fun c => absurd (by decide : (0 : Int32) < (1 : Int32)) c) (fun _ => ?_)
  refine s_aloadN 16 C X d7_15 rfl rfl ?_
  refine s_iloadN 17 C X d7_16 rfl ?_
  refine s_laload 18 C X d7_17 A_o1 ⟨by decide, by decide⟩ (v := (.long (1 : Int64))) rfl ?_
  refine s_lconst 19 C X (z := (0 : Int64)) d7_18 rfl ?_
  refine s_lcmp 20 C X d7_19 ?_
  refine Run.cast (st' := [(.int (1 : Int32))]) (by rw [kf_0]) ?_
  refine s_if_eq 85 23 C X d7_20 (fun c => absurd c (by decide)) (fun _ => ?_)
  refine s_aloadN 24 C X d7_23 rfl rfl ?_
  refine s_getfield 27 C X (host := "") d7_24 (Or.inl (mW 49 rfl)) Via.refl F_o3_encodedLength (fun T X => ?_)
  refine s_bipush 29 C X d7_27 kc_bipush_20 ?_
  refine s_iadd 30 C X d7_29 ?_
  refine Run.cast (st' := [(.int (20 : Int32))]) (by rw [kf_1]) ?_
  refine s_aloadN 31 C X d7_30 rfl rfl ?_
  refine s_getfield 34 C X (host := "") d7_31 (Or.inl (mW 38 rfl)) Via.refl F_o3_encoded (fun T X => ?_)
  refine s_arraylength 35 C X d7_34 A_o31 ?_
  refine s_icmp_le 66 38 C X d7_35 (fun _ => ?_) (fun c => absurd c (by decide))
  refine s_aloadN 67 C X d7_66 rfl rfl ?_
  refine s_iloadN 68 C X d7_67 rfl ?_
  refine s_iloadN 69 C X d7_68 rfl ?_
  refine s_isub 70 C X d7_69 ?_
  refine Run.cast (st' := [(.int (1 : Int32)), (.ref o3)]) (by rw [kf_2]) ?_
  refine s_iconst 71 C X d7_70 kc_iconst_1 ?_
  refine s_isub 72 C X d7_71 ?_
  refine Run.cast (st' := [(.int (0 : Int32)), (.ref o3)]) (by rw [kf_3]) ?_
  refine s_i2l 73 C X d7_72 ?_
  refine Run.cast (st' := [(.long (0 : Int64)), (.ref o3)]) (by rw [kf_4]) ?_
  refine s_callPI 76 [(.long (0 : Int64))] [] 0 C X d7_73 (mW 51 rfl) (mW 52 rfl) (mW 4 rfl) (mW 53 rfl) (mW 5 rfl) (mW 54 rfl) E_o3 (rm_a37 l Z a0 hw o3 o4 o5 o8 o11 o31 k_o31 _ n0 X.sz E_o3 F_o3_bytes F_o3_starts F_o3_hashes F_o3_table F_o3_encoded F_o3_encodedLength F_o3_encodedHash F_o3_length F_o3_position A_o31 g_o3 g_o31 ne_o3_o31) (lenOf pd__J_V rfl) rfl rfl rfl (fun T v hh X q => ?_)
  obtain ⟨rfl, E_o3, F_o3_bytes, F_o3_starts, F_o3_hashes, F_o3_table, F_o3_encoded, F_o3_encodedLength, F_o3_encodedHash, F_o3_length, F_o3_position, A_o31, Kc⟩ := q
  have A_o1 := A_o1.keep Kc (ninS ne_o1_o3 (ninS ne_o1_o31 nin0))
  have Kp := Kp.trans Kc (allS (Or.inl (by simp)) (allS (Or.inl (by simp)) all0))
  refine Run.cast (st' := []) rfl ?_
  refine s_aloadN 77 C X d7_76 rfl rfl ?_
  refine s_aloadN 78 C X d7_77 rfl rfl ?_
  refine s_iloadN 79 C X d7_78 rfl ?_
  refine s_laload 80 C X d7_79 A_o1 ⟨by decide, by decide⟩ (v := (.long (1 : Int64))) rfl ?_
  refine s_callPI 83 [(.long (1 : Int64))] [] 0 C X d7_80 (mW 51 rfl) (mW 52 rfl) (mW 4 rfl) (mW 53 rfl) (mW 5 rfl) (mW 54 rfl) E_o3 (rm_a39 l Z a0 hw o3 o4 o5 o8 o11 o31 k_o31 _ n0 X.sz E_o3 F_o3_bytes F_o3_starts F_o3_hashes F_o3_table F_o3_encoded F_o3_encodedLength F_o3_encodedHash F_o3_length F_o3_position A_o31 g_o3 g_o31 ne_o3_o31) (lenOf pd__J_V rfl) rfl rfl rfl (fun T v hh X q => ?_)
  obtain ⟨rfl, E_o3, F_o3_bytes, F_o3_starts, F_o3_hashes, F_o3_table, F_o3_encoded, F_o3_encodedLength, F_o3_encodedHash, F_o3_length, F_o3_position, A_o31, Kc⟩ := q
  have A_o1 := A_o1.keep Kc (ninS ne_o1_o3 (ninS ne_o1_o31 nin0))
  have Kp := Kp.trans Kc (allS (Or.inl (by simp)) (allS (Or.inl (by simp)) all0))
  refine Run.cast (st' := []) rfl ?_
  refine s_iloadN 84 C X d7_83 rfl ?_
  refine s_istoreN 85 C X (l' := #[.val (.ref o3), .val (.ref o1), .val (.int (0 : Int32)), .val (.int (0 : Int32)), .unset]) d7_84 rfl ?_
  refine s_iinc 88 C X (l' := #[.val (.ref o3), .val (.ref o1), .val (.int (0 : Int32)), .val (.int (1 : Int32)), .unset]) d7_85 kc_iconst_1 rfl rfl ?_
  refine s_goto 9 C X d7_88 ?_
  refine s_iloadN 10 C X d7_9 rfl ?_
  refine s_aloadN 11 C X d7_10 rfl rfl ?_
  refine s_arraylength 12 C X d7_11 A_o1 ?_
  refine s_icmp_ge 91 15 C X d7_12 (fun _ => ?_) (fun c => absurd c (by decide))
  refine s_iconst 92 C X d7_91 kc_iconst_1 ?_
  refine s_istoreN 93 C X (l' := #[.val (.ref o3), .val (.ref o1), .val (.int (0 : Int32)), .val (.int (1 : Int32)), .unset]) d7_92 rfl ?_
  refine s_iconst 94 C X d7_93 kc_iconst_0 ?_
  refine s_istore 96 C X (l' := #[.val (.ref o3), .val (.ref o1), .val (.int (0 : Int32)), .val (.int (1 : Int32)), .val (.int (0 : Int32))]) d7_94 rfl ?_
  refine s_iload 98 C X d7_96 rfl ?_
  refine s_aloadN 99 C X d7_98 rfl rfl ?_
  refine s_getfield 102 C X (host := "") d7_99 (Or.inl (mW 49 rfl)) Via.refl F_o3_encodedLength (fun T X => ?_)
  refine s_icmp_ge 124 105 C X d7_102 (fun c => absurd (by decide : (0 : Int32) < (2 : Int32)) c) (fun _ => ?_)
  refine s_bipush 107 C X d7_105 kc_bipush_31 ?_
  refine s_iloadN 108 C X d7_107 rfl ?_
  refine s_imul 109 C X d7_108 ?_
  refine Run.cast (st' := [(.int (31 : Int32))]) (by rw [kf_14]) ?_
  refine s_aloadN 110 C X d7_109 rfl rfl ?_
  refine s_getfield 113 C X (host := "") d7_110 (Or.inl (mW 38 rfl)) Via.refl F_o3_encoded (fun T X => ?_)
  refine s_iload 115 C X d7_113 rfl ?_
  refine s_baload 116 C X d7_115 A_o31 ⟨by decide, by decide⟩ (v := (.int (0 : Int32))) rfl ?_
  refine s_iadd 117 C X d7_116 ?_
  refine Run.cast (st' := [(.int (31 : Int32))]) (by rw [kf_15]) ?_
  refine s_istoreN 118 C X (l' := #[.val (.ref o3), .val (.ref o1), .val (.int (0 : Int32)), .val (.int (31 : Int32)), .val (.int (0 : Int32))]) d7_117 rfl ?_
  refine s_iinc 121 C X (l' := #[.val (.ref o3), .val (.ref o1), .val (.int (0 : Int32)), .val (.int (31 : Int32)), .val (.int (1 : Int32))]) d7_118 kc_iconst_1 rfl rfl ?_
  refine s_goto 96 C X d7_121 ?_
  refine s_iload 98 C X d7_96 rfl ?_
  refine s_aloadN 99 C X d7_98 rfl rfl ?_
  refine s_getfield 102 C X (host := "") d7_99 (Or.inl (mW 49 rfl)) Via.refl F_o3_encodedLength (fun T X => ?_)
  refine s_icmp_ge 124 105 C X d7_102 (fun c => absurd (by decide : (1 : Int32) < (2 : Int32)) c) (fun _ => ?_)
  refine s_bipush 107 C X d7_105 kc_bipush_31 ?_
  refine s_iloadN 108 C X d7_107 rfl ?_
  refine s_imul 109 C X d7_108 ?_
  refine Run.cast (st' := [(.int (961 : Int32))]) (by rw [kf_16]) ?_
  refine s_aloadN 110 C X d7_109 rfl rfl ?_
  refine s_getfield 113 C X (host := "") d7_110 (Or.inl (mW 38 rfl)) Via.refl F_o3_encoded (fun T X => ?_)
  refine s_iload 115 C X d7_113 rfl ?_
  refine s_baload 116 C X d7_115 A_o31 ⟨by decide, by decide⟩ (v := (.int (1 : Int32))) rfl ?_
  refine s_iadd 117 C X d7_116 ?_
  refine Run.cast (st' := [(.int (962 : Int32))]) (by rw [kf_17]) ?_
  refine s_istoreN 118 C X (l' := #[.val (.ref o3), .val (.ref o1), .val (.int (0 : Int32)), .val (.int (962 : Int32)), .val (.int (1 : Int32))]) d7_117 rfl ?_
  refine s_iinc 121 C X (l' := #[.val (.ref o3), .val (.ref o1), .val (.int (0 : Int32)), .val (.int (962 : Int32)), .val (.int (2 : Int32))]) d7_118 kc_iconst_1 rfl rfl ?_
  refine s_goto 96 C X d7_121 ?_
  refine s_iload 98 C X d7_96 rfl ?_
  refine s_aloadN 99 C X d7_98 rfl rfl ?_
  refine s_getfield 102 C X (host := "") d7_99 (Or.inl (mW 49 rfl)) Via.refl F_o3_encodedLength (fun T X => ?_)
  refine s_icmp_ge 124 105 C X d7_102 (fun _ => ?_) (fun c => absurd c (by decide))
  refine s_aloadN 125 C X d7_124 rfl rfl ?_
  refine s_iloadN 126 C X d7_125 rfl ?_
  refine s_putfield 129 C X (host := "") d7_126 (Or.inl (mW 56 rfl)) Via.refl F_o3_encodedHash E_o3 (Or.inl (mW 57 rfl)) (mW 4 rfl) (ty := .int) (by decide) rfl rfl g_o3 (fun T hh X W => ?_)
  have A_o1 := A_o1.other W ne_o1_o3
  have Kp := Kp.wr W (Or.inl (by simp))
  have E_o3 := E_o3.wr W
  have F_o3_bytes := oth F_o3_bytes W (Or.inl (hw _ (mW 14 rfl))) (Or.inl (hw _ (mW 57 rfl))) (by decide)
  have F_o3_starts := oth F_o3_starts W (Or.inr (hw _ (mW 26 rfl))) (Or.inl (hw _ (mW 57 rfl))) (by decide)
  have F_o3_hashes := oth F_o3_hashes W (Or.inr (hw _ (mW 28 rfl))) (Or.inl (hw _ (mW 57 rfl))) (by decide)
  have F_o3_table := oth F_o3_table W (Or.inl (hw _ (mW 37 rfl))) (Or.inl (hw _ (mW 57 rfl))) (by decide)
  have F_o3_encoded := oth F_o3_encoded W (Or.inl (hw _ (mW 39 rfl))) (Or.inl (hw _ (mW 57 rfl))) (by decide)
  have F_o3_encodedLength := oth F_o3_encodedLength W (Or.inl (hw _ (mW 50 rfl))) (Or.inl (hw _ (mW 57 rfl))) (by decide)
  have F_o3_encodedHash := F_o3_encodedHash.same W
  have F_o3_length := oth F_o3_length W (Or.inl (hw _ (mW 80 rfl))) (Or.inl (hw _ (mW 57 rfl))) (by decide)
  have F_o3_position := oth F_o3_position W (Or.inl (hw _ (mW 171 rfl))) (Or.inl (hw _ (mW 57 rfl))) (by decide)
  have A_o31 := A_o31.other W (Ne.symm ne_o3_o31)
  refine s_return C X d7_129 rfl ?_
  exact ⟨rfl, Kp, E_o3, F_o3_bytes, F_o3_starts, F_o3_hashes, F_o3_table, F_o3_encoded, F_o3_encodedLength, F_o3_encodedHash, F_o3_length, F_o3_position, A_o31⟩
set_option maxRecDepth 65536 in
set_option maxHeartbeats 40000000 in
theorem rm_a45 (l : Launch) (Z : State) (a0 : Array Value) (hw : ∀ d ∈ tables_1, d.before a0 Z = true)  (h0 : Heap) (n0 : Nat) (Z0 : n0 ≤ h0.size)  :
    Met l Z (⟨"com/example/eventloom/eventloom/net/MarkingStore", "spread", "(I)I"⟩ : MethodName) prog_86_method_17_code 2 (some .int) { frames := 0, cells := 0, slots := 0, locals := 0 } [] #[(.int (962 : Int32))] h0 n0 (fun v h => v = some (.int (-1836372236 : Int32)) ∧ Keep h0 h []) := by
  refine Met.mk (tabs := tables_1) (a0 := a0) (ls0 := #[.val (.int (962 : Int32)), .unset]) (plainFor_of_name pn_com_example_eventloom_eventloom_net_MarkingStore) hw Z0 (fun m => by first | (simp [entryFrame, mkF, argsToLocals, Value.category]; done) | rfl) ?_
  intro p e s m below meth c T C X
  have Kp : Keep h0 h0 [] := Keep.refl _ _
  refine s_iloadN 1 C X d10_0 rfl ?_
  refine s_iloadN 2 C X d10_1 rfl ?_
  refine s_bipush 4 C X d10_2 kc_bipush_16 ?_
  refine s_iushr 5 C X d10_4 ?_
  refine Run.cast (st' := [(.int (0 : Int32)), (.int (962 : Int32))]) (by rw [kf_19]) ?_
  refine s_ixor 6 C X d10_5 ?_
  refine Run.cast (st' := [(.int (962 : Int32))]) (by rw [kf_20]) ?_
  refine s_istoreN 7 C X (l' := #[.val (.int (962 : Int32)), .val (.int (962 : Int32))]) d10_6 rfl ?_
  refine s_iloadN 8 C X d10_7 rfl ?_
  refine s_ldcInt 10 C X d10_8 (mW 65 rfl) ?_
  refine s_imul 11 C X d10_10 ?_
  refine Run.cast (st' := [(.int (1074701846 : Int32))]) (by rw [kf_21]) ?_
  refine s_istoreN 12 C X (l' := #[.val (.int (962 : Int32)), .val (.int (1074701846 : Int32))]) d10_11 rfl ?_
  refine s_iloadN 13 C X d10_12 rfl ?_
  refine s_iloadN 14 C X d10_13 rfl ?_
  refine s_bipush 16 C X d10_14 kc_bipush_13 ?_
  refine s_iushr 17 C X d10_16 ?_
  refine Run.cast (st' := [(.int (131189 : Int32)), (.int (1074701846 : Int32))]) (by rw [kf_22]) ?_
  refine s_ixor 18 C X d10_17 ?_
  refine Run.cast (st' := [(.int (1074570851 : Int32))]) (by rw [kf_23]) ?_
  refine s_istoreN 19 C X (l' := #[.val (.int (962 : Int32)), .val (.int (1074570851 : Int32))]) d10_18 rfl ?_
  refine s_iloadN 20 C X d10_19 rfl ?_
  refine s_ldcInt 22 C X d10_20 (mW 66 rfl) ?_
  refine s_imul 23 C X d10_22 ?_
  refine Run.cast (st' := [(.int (-1836336001 : Int32))]) (by rw [kf_24]) ?_
  refine s_istoreN 24 C X (l' := #[.val (.int (962 : Int32)), .val (.int (-1836336001 : Int32))]) d10_23 rfl ?_
  refine s_iloadN 25 C X d10_24 rfl ?_
  refine s_iloadN 26 C X d10_25 rfl ?_
  refine s_bipush 28 C X d10_26 kc_bipush_16 ?_
  refine s_iushr 29 C X d10_28 ?_
  refine Run.cast (st' := [(.int (37515 : Int32)), (.int (-1836336001 : Int32))]) (by rw [kf_25]) ?_
  refine s_ixor 30 C X d10_29 ?_
  refine Run.cast (st' := [(.int (-1836372236 : Int32))]) (by rw [kf_26]) ?_
  refine s_ireturn C X d10_30 rfl ?_
  exact ⟨rfl, Kp⟩
set_option maxRecDepth 65536 in
set_option maxHeartbeats 40000000 in
theorem rm_a47 (l : Launch) (Z : State) (a0 : Array Value) (hw : ∀ d ∈ tables_1, d.before a0 Z = true) (o3 : Addr) (o11 : Addr) (k_o11 : ClassId) (h0 : Heap) (n0 : Nat) (Z0 : n0 ≤ h0.size) (A_o11 : Arv Z h0 o11 k_o11 .int (16 : Int32) [(.int (-1 : Int32)), (.int (-1 : Int32)), (.int (-1 : Int32)), (.int (-1 : Int32)), (.int (-1 : Int32)), (.int (-1 : Int32)), (.int (-1 : Int32)), (.int (-1 : Int32)), (.int (-1 : Int32)), (.int (-1 : Int32)), (.int (-1 : Int32)), (.int (-1 : Int32)), (.int (-1 : Int32)), (.int (-1 : Int32)), (.int (-1 : Int32)), (.int (-1 : Int32))] (.int (0 : Int32))) (F_o3_table : Fld Z h0 o3 "com/example/eventloom/eventloom/net/MarkingStore" "table" "[I" (.ref o11)) (F_o3_encodedHash : Fld Z h0 o3 "com/example/eventloom/eventloom/net/MarkingStore" "encodedHash" "I" (.int (962 : Int32))) :
    Met l Z (⟨"com/example/eventloom/eventloom/net/MarkingStore", "slot", "()I"⟩ : MethodName) prog_86_method_13_code 4 (some .int) { frames := 1, cells := 0, slots := 0, locals := 13 } [] #[(.ref o3)] h0 n0 (fun v h => v = some (.int (4 : Int32)) ∧ Keep h0 h []) := by
  refine Met.mk (tabs := tables_1) (a0 := a0) (ls0 := #[.val (.ref o3), .unset, .unset, .unset]) (plainFor_of_name pn_com_example_eventloom_eventloom_net_MarkingStore) hw Z0 (fun m => by first | (simp [entryFrame, mkF, argsToLocals, Value.category]; done) | rfl) ?_
  intro p e s m below meth c T C X
  have Kp : Keep h0 h0 [] := Keep.refl _ _
  refine s_aloadN 1 C X d9_0 rfl rfl ?_
  refine s_getfield 4 C X (host := "") d9_1 (Or.inl (mW 36 rfl)) Via.refl F_o3_table (fun T X => ?_)
  refine s_arraylength 5 C X d9_4 A_o11 ?_
  refine s_iconst 6 C X d9_5 kc_iconst_1 ?_
  refine s_isub 7 C X d9_6 ?_
  refine Run.cast (st' := [(.int (15 : Int32))]) (by rw [kf_18]) ?_
  refine s_istoreN 8 C X (l' := #[.val (.ref o3), .val (.int (15 : Int32)), .unset, .unset]) d9_7 rfl ?_
  refine s_aloadN 9 C X d9_8 rfl rfl ?_
  refine s_getfield 12 C X (host := "") d9_9 (Or.inl (mW 56 rfl)) Via.refl F_o3_encodedHash (fun T X => ?_)
  refine s_callS 15 [(.int (962 : Int32))] [] 0 C X d9_12 (mW 62 rfl) (mW 63 rfl) (mW 5 rfl) (mW 64 rfl) (rm_a45 l Z a0 hw  _ n0 X.sz ) (lenOf pd__I_I rfl) rfl rfl rfl (fun T v hh X q => ?_)
  obtain ⟨rfl, Kc⟩ := q
  have A_o11 := A_o11.keep Kc nin0
  have F_o3_table := F_o3_table.keep Kc nin0
  have F_o3_encodedHash := F_o3_encodedHash.keep Kc nin0
  have Kp := Kp.trans Kc all0
  refine Run.cast (st' := [(.int (-1836372236 : Int32))]) rfl ?_
  refine s_iloadN 16 C X d9_15 rfl ?_
  refine s_iand 17 C X d9_16 ?_
  refine Run.cast (st' := [(.int (4 : Int32))]) (by rw [kf_27]) ?_
  refine s_istoreN 18 C X (l' := #[.val (.ref o3), .val (.int (15 : Int32)), .val (.int (4 : Int32)), .unset]) d9_17 rfl ?_
  refine s_aloadN 19 C X d9_18 rfl rfl ?_
  refine s_getfield 22 C X (host := "") d9_19 (Or.inl (mW 36 rfl)) Via.refl F_o3_table (fun T X => ?_)
  refine s_iloadN 23 C X d9_22 rfl ?_
  refine s_iaload 24 C X d9_23 A_o11 ⟨by decide, by decide⟩ (v := (.int (-1 : Int32))) rfl ?_
  refine s_istoreN 25 C X (l' := #[.val (.ref o3), .val (.int (15 : Int32)), .val (.int (4 : Int32)), .val (.int (-1 : Int32))]) d9_24 rfl ?_
  refine s_iloadN 26 C X d9_25 rfl ?_
  refine s_iconst 27 C X d9_26 kc_iconst_m1 ?_
  refine s_icmp_eq 53 30 C X d9_27 (fun _ => ?_) (fun c => absurd (by decide : (-1 : Int32) = (-1 : Int32)) c)
  refine s_iloadN 54 C X d9_53 rfl ?_
  refine s_ireturn C X d9_54 rfl ?_
  exact ⟨rfl, Kp⟩
set_option maxRecDepth 65536 in
set_option maxHeartbeats 40000000 in
theorem rm_a49 (l : Launch) (Z : State) (a0 : Array Value) (hw : ∀ d ∈ tables_1, d.before a0 Z = true) (o5 : Addr) (h0 : Heap) (n0 : Nat) (Z0 : n0 ≤ h0.size) (F_o5_size : Fld Z h0 o5 "com/example/eventloom/eventloom/net/IntList" "size" "I" (.int (0 : Int32))) :
    Met l Z (⟨"com/example/eventloom/eventloom/net/IntList", "size", "()I"⟩ : MethodName) prog_85_method_2_code 1 (some .int) { frames := 0, cells := 0, slots := 0, locals := 0 } [] #[(.ref o5)] h0 n0 (fun v h => v = some (.int (0 : Int32)) ∧ Keep h0 h []) := by
  refine Met.mk (tabs := tables_1) (a0 := a0) (ls0 := #[.val (.ref o5)]) (plainFor_of_name pn_com_example_eventloom_eventloom_net_IntList) hw Z0 (fun m => by first | (simp [entryFrame, mkF, argsToLocals, Value.category]; done) | rfl) ?_
  intro p e s m below meth c T C X
  have Kp : Keep h0 h0 [] := Keep.refl _ _
  refine s_aloadN 1 C X d12_0 rfl rfl ?_
  refine s_getfield 4 C X (host := "") d12_1 (Or.inl (mW 77 rfl)) Via.refl F_o5_size (fun T X => ?_)
  refine s_ireturn C X d12_4 rfl ?_
  exact ⟨rfl, Kp⟩
set_option maxRecDepth 65536 in
set_option maxHeartbeats 40000000 in
theorem rm_a50 (l : Launch) (Z : State) (a0 : Array Value) (hw : ∀ d ∈ tables_1, d.before a0 Z = true) (o3 : Addr) (o5 : Addr) (h0 : Heap) (n0 : Nat) (Z0 : n0 ≤ h0.size) (E_o5 : Exa Z h0 o5 "com/example/eventloom/eventloom/net/IntList") (F_o5_size : Fld Z h0 o5 "com/example/eventloom/eventloom/net/IntList" "size" "I" (.int (0 : Int32))) (F_o3_starts : Fld Z h0 o3 "com/example/eventloom/eventloom/net/MarkingStore" "starts" "Lcom/example/eventloom/eventloom/net/IntList;" (.ref o5)) :
    Met l Z (⟨"com/example/eventloom/eventloom/net/MarkingStore", "size", "()I"⟩ : MethodName) prog_86_method_2_code 1 (some .int) { frames := 1, cells := 0, slots := 0, locals := 12 } [] #[(.ref o3)] h0 n0 (fun v h => v = some (.int (0 : Int32)) ∧ Keep h0 h []) := by
  refine Met.mk (tabs := tables_1) (a0 := a0) (ls0 := #[.val (.ref o3)]) (plainFor_of_name pn_com_example_eventloom_eventloom_net_MarkingStore) hw Z0 (fun m => by first | (simp [entryFrame, mkF, argsToLocals, Value.category]; done) | rfl) ?_
  intro p e s m below meth c T C X
  have Kp : Keep h0 h0 [] := Keep.refl _ _
  refine s_aloadN 1 C X d11_0 rfl rfl ?_
  refine s_getfield 4 C X (host := "") d11_1 (Or.inl (mW 25 rfl)) Via.refl F_o3_starts (fun T X => ?_)
  refine s_callV 7 [] [] 0 C X d11_4 (mW 72 rfl) (mW 73 rfl) (notFace_of_selects (args := #[]) (mvT C.2.1 (C.w (mW 75 rfl)))) (mW 75 rfl) (mW 74 rfl) (mW 17 rfl) (mW 76 rfl) E_o5 (rm_a49 l Z a0 hw o5 _ n0 X.sz F_o5_size) (lenOf pd___I rfl) rfl rfl rfl (fun T v hh X q => ?_)
  obtain ⟨rfl, Kc⟩ := q
  have E_o5 := E_o5.keep Kc
  have F_o5_size := F_o5_size.keep Kc nin0
  have F_o3_starts := F_o3_starts.keep Kc nin0
  have Kp := Kp.trans Kc all0
  refine Run.cast (st' := [(.int (0 : Int32))]) rfl ?_
  refine s_ireturn C X d11_7 rfl ?_
  exact ⟨rfl, Kp⟩
set_option maxRecDepth 65536 in
set_option maxHeartbeats 40000000 in
theorem rm_a53 (l : Launch) (Z : State) (a0 : Array Value) (hw : ∀ d ∈ tables_1, d.before a0 Z = true) (o5 : Addr) (o6 : Addr) (k_o6 : ClassId) (h0 : Heap) (n0 : Nat) (Z0 : n0 ≤ h0.size) (E_o5 : Exa Z h0 o5 "com/example/eventloom/eventloom/net/IntList") (F_o5_values : Fld Z h0 o5 "com/example/eventloom/eventloom/net/IntList" "values" "[I" (.ref o6)) (F_o5_size : Fld Z h0 o5 "com/example/eventloom/eventloom/net/IntList" "size" "I" (.int (0 : Int32))) (A_o6 : Arv Z h0 o6 k_o6 .int (16 : Int32) [(.int (0 : Int32)), (.int (0 : Int32)), (.int (0 : Int32)), (.int (0 : Int32)), (.int (0 : Int32)), (.int (0 : Int32)), (.int (0 : Int32)), (.int (0 : Int32)), (.int (0 : Int32)), (.int (0 : Int32)), (.int (0 : Int32)), (.int (0 : Int32)), (.int (0 : Int32)), (.int (0 : Int32)), (.int (0 : Int32)), (.int (0 : Int32))] (.int (0 : Int32))) (g_o5 : n0 ≤ o5) (g_o6 : n0 ≤ o6) (ne_o5_o6 : o5 ≠ o6) :
    Met l Z (⟨"com/example/eventloom/eventloom/net/IntList", "add", "(I)V"⟩ : MethodName) prog_85_method_5_code 2 none { frames := 0, cells := 0, slots := 0, locals := 0 } [] #[(.ref o5), (.int (0 : Int32))] h0 n0 (fun v h => v = none ∧ Exa Z h o5 "com/example/eventloom/eventloom/net/IntList" ∧ Fld Z h o5 "com/example/eventloom/eventloom/net/IntList" "values" "[I" (.ref o6) ∧ Fld Z h o5 "com/example/eventloom/eventloom/net/IntList" "size" "I" (.int (1 : Int32)) ∧ Arv Z h o6 k_o6 .int (16 : Int32) [(.int (0 : Int32)), (.int (0 : Int32)), (.int (0 : Int32)), (.int (0 : Int32)), (.int (0 : Int32)), (.int (0 : Int32)), (.int (0 : Int32)), (.int (0 : Int32)), (.int (0 : Int32)), (.int (0 : Int32)), (.int (0 : Int32)), (.int (0 : Int32)), (.int (0 : Int32)), (.int (0 : Int32)), (.int (0 : Int32)), (.int (0 : Int32))] (.int (0 : Int32)) ∧ Keep h0 h [o5, o6]) := by
  refine Met.mk (tabs := tables_1) (a0 := a0) (ls0 := #[.val (.ref o5), .val (.int (0 : Int32))]) (plainFor_of_name pn_com_example_eventloom_eventloom_net_IntList) hw Z0 (fun m => by first | (simp [entryFrame, mkF, argsToLocals, Value.category]; done) | rfl) ?_
  intro p e s m below meth c T C X
  have Kp : Keep h0 h0 [o5, o6] := Keep.refl _ _
  refine s_aloadN 1 C X d13_0 rfl rfl ?_
  refine s_getfield 4 C X (host := "") d13_1 (Or.inl (mW 77 rfl)) Via.refl F_o5_size (fun T X => ?_)
  refine s_aloadN 5 C X d13_4 rfl rfl ?_
  refine s_getfield 8 C X (host := "") d13_5 (Or.inl (mW 23 rfl)) Via.refl F_o5_values (fun T X => ?_)
  refine s_arraylength 9 C X d13_8 A_o6 ?_
  refine s_icmp_ne 38 12 C X d13_9 (fun _ => ?_) (fun c => absurd c (by decide))
  refine s_aloadN 39 C X d13_38 rfl rfl ?_
  refine s_getfield 42 C X (host := "") d13_39 (Or.inl (mW 23 rfl)) Via.refl F_o5_values (fun T X => ?_)
  refine s_aloadN 43 C X d13_42 rfl rfl ?_
  refine s_dup 44 C X d13_43 rfl ?_
  refine s_getfield 47 C X (host := "") d13_44 (Or.inl (mW 77 rfl)) Via.refl F_o5_size (fun T X => ?_)
  refine s_dupX1 48 C X d13_47 rfl rfl ?_
  refine s_iconst 49 C X d13_48 kc_iconst_1 ?_
  refine s_iadd 50 C X d13_49 ?_
  refine Run.cast (st' := [(.int (1 : Int32)), (.ref o5), (.int (0 : Int32)), (.ref o6)]) (by rw [kf_7]) ?_
  refine s_putfield 53 C X (host := "") d13_50 (Or.inl (mW 77 rfl)) Via.refl F_o5_size E_o5 (Or.inl (mW 78 rfl)) (mW 16 rfl) (ty := .int) (by decide) rfl rfl g_o5 (fun T hh X W => ?_)
  have E_o5 := E_o5.wr W
  have F_o5_values := oth F_o5_values W (Or.inl (hw _ (mW 24 rfl))) (Or.inl (hw _ (mW 78 rfl))) (by decide)
  have F_o5_size := F_o5_size.same W
  have A_o6 := A_o6.other W (Ne.symm ne_o5_o6)
  have Kp := Kp.wr W (Or.inl (by simp))
  refine s_iloadN 54 C X d13_53 rfl ?_
  refine s_iastore 55 0 C X d13_54 A_o6 g_o6 ⟨by decide, by decide⟩ rfl (Nat.le_of_ble_eq_true rfl) (fun T hh X W A_o6 => ?_)
  have A_o6 : Arv Z _ o6 k_o6 .int (16 : Int32) [(.int (0 : Int32)), (.int (0 : Int32)), (.int (0 : Int32)), (.int (0 : Int32)), (.int (0 : Int32)), (.int (0 : Int32)), (.int (0 : Int32)), (.int (0 : Int32)), (.int (0 : Int32)), (.int (0 : Int32)), (.int (0 : Int32)), (.int (0 : Int32)), (.int (0 : Int32)), (.int (0 : Int32)), (.int (0 : Int32)), (.int (0 : Int32))] (.int (0 : Int32)) := A_o6
  have E_o5 := E_o5.wr W
  have F_o5_values := F_o5_values.other W (Or.inl ne_o5_o6)
  have F_o5_size := F_o5_size.other W (Or.inl ne_o5_o6)
  have Kp := Kp.wr W (Or.inl (by simp))
  refine s_return C X d13_55 rfl ?_
  exact ⟨rfl, E_o5, F_o5_values, F_o5_size, A_o6, Kp⟩
set_option maxRecDepth 65536 in
set_option maxHeartbeats 40000000 in
theorem rm_a55 (l : Launch) (Z : State) (a0 : Array Value) (hw : ∀ d ∈ tables_1, d.before a0 Z = true) (o8 : Addr) (o9 : Addr) (k_o9 : ClassId) (h0 : Heap) (n0 : Nat) (Z0 : n0 ≤ h0.size) (E_o8 : Exa Z h0 o8 "com/example/eventloom/eventloom/net/IntList") (F_o8_values : Fld Z h0 o8 "com/example/eventloom/eventloom/net/IntList" "values" "[I" (.ref o9)) (F_o8_size : Fld Z h0 o8 "com/example/eventloom/eventloom/net/IntList" "size" "I" (.int (0 : Int32))) (A_o9 : Arv Z h0 o9 k_o9 .int (16 : Int32) [(.int (0 : Int32)), (.int (0 : Int32)), (.int (0 : Int32)), (.int (0 : Int32)), (.int (0 : Int32)), (.int (0 : Int32)), (.int (0 : Int32)), (.int (0 : Int32)), (.int (0 : Int32)), (.int (0 : Int32)), (.int (0 : Int32)), (.int (0 : Int32)), (.int (0 : Int32)), (.int (0 : Int32)), (.int (0 : Int32)), (.int (0 : Int32))] (.int (0 : Int32))) (g_o8 : n0 ≤ o8) (g_o9 : n0 ≤ o9) (ne_o8_o9 : o8 ≠ o9) :
    Met l Z (⟨"com/example/eventloom/eventloom/net/IntList", "add", "(I)V"⟩ : MethodName) prog_85_method_5_code 2 none { frames := 0, cells := 0, slots := 0, locals := 0 } [] #[(.ref o8), (.int (962 : Int32))] h0 n0 (fun v h => v = none ∧ Exa Z h o8 "com/example/eventloom/eventloom/net/IntList" ∧ Fld Z h o8 "com/example/eventloom/eventloom/net/IntList" "values" "[I" (.ref o9) ∧ Fld Z h o8 "com/example/eventloom/eventloom/net/IntList" "size" "I" (.int (1 : Int32)) ∧ Arv Z h o9 k_o9 .int (16 : Int32) [(.int (962 : Int32)), (.int (0 : Int32)), (.int (0 : Int32)), (.int (0 : Int32)), (.int (0 : Int32)), (.int (0 : Int32)), (.int (0 : Int32)), (.int (0 : Int32)), (.int (0 : Int32)), (.int (0 : Int32)), (.int (0 : Int32)), (.int (0 : Int32)), (.int (0 : Int32)), (.int (0 : Int32)), (.int (0 : Int32)), (.int (0 : Int32))] (.int (0 : Int32)) ∧ Keep h0 h [o8, o9]) := by
  refine Met.mk (tabs := tables_1) (a0 := a0) (ls0 := #[.val (.ref o8), .val (.int (962 : Int32))]) (plainFor_of_name pn_com_example_eventloom_eventloom_net_IntList) hw Z0 (fun m => by first | (simp [entryFrame, mkF, argsToLocals, Value.category]; done) | rfl) ?_
  intro p e s m below meth c T C X
  have Kp : Keep h0 h0 [o8, o9] := Keep.refl _ _
  refine s_aloadN 1 C X d13_0 rfl rfl ?_
  refine s_getfield 4 C X (host := "") d13_1 (Or.inl (mW 77 rfl)) Via.refl F_o8_size (fun T X => ?_)
  refine s_aloadN 5 C X d13_4 rfl rfl ?_
  refine s_getfield 8 C X (host := "") d13_5 (Or.inl (mW 23 rfl)) Via.refl F_o8_values (fun T X => ?_)
  refine s_arraylength 9 C X d13_8 A_o9 ?_
  refine s_icmp_ne 38 12 C X d13_9 (fun _ => ?_) (fun c => absurd c (by decide))
  refine s_aloadN 39 C X d13_38 rfl rfl ?_
  refine s_getfield 42 C X (host := "") d13_39 (Or.inl (mW 23 rfl)) Via.refl F_o8_values (fun T X => ?_)
  refine s_aloadN 43 C X d13_42 rfl rfl ?_
  refine s_dup 44 C X d13_43 rfl ?_
  refine s_getfield 47 C X (host := "") d13_44 (Or.inl (mW 77 rfl)) Via.refl F_o8_size (fun T X => ?_)
  refine s_dupX1 48 C X d13_47 rfl rfl ?_
  refine s_iconst 49 C X d13_48 kc_iconst_1 ?_
  refine s_iadd 50 C X d13_49 ?_
  refine Run.cast (st' := [(.int (1 : Int32)), (.ref o8), (.int (0 : Int32)), (.ref o9)]) (by rw [kf_7]) ?_
  refine s_putfield 53 C X (host := "") d13_50 (Or.inl (mW 77 rfl)) Via.refl F_o8_size E_o8 (Or.inl (mW 78 rfl)) (mW 16 rfl) (ty := .int) (by decide) rfl rfl g_o8 (fun T hh X W => ?_)
  have E_o8 := E_o8.wr W
  have F_o8_values := oth F_o8_values W (Or.inl (hw _ (mW 24 rfl))) (Or.inl (hw _ (mW 78 rfl))) (by decide)
  have F_o8_size := F_o8_size.same W
  have A_o9 := A_o9.other W (Ne.symm ne_o8_o9)
  have Kp := Kp.wr W (Or.inl (by simp))
  refine s_iloadN 54 C X d13_53 rfl ?_
  refine s_iastore 55 0 C X d13_54 A_o9 g_o9 ⟨by decide, by decide⟩ rfl (Nat.le_of_ble_eq_true rfl) (fun T hh X W A_o9 => ?_)
  have A_o9 : Arv Z _ o9 k_o9 .int (16 : Int32) [(.int (962 : Int32)), (.int (0 : Int32)), (.int (0 : Int32)), (.int (0 : Int32)), (.int (0 : Int32)), (.int (0 : Int32)), (.int (0 : Int32)), (.int (0 : Int32)), (.int (0 : Int32)), (.int (0 : Int32)), (.int (0 : Int32)), (.int (0 : Int32)), (.int (0 : Int32)), (.int (0 : Int32)), (.int (0 : Int32)), (.int (0 : Int32))] (.int (0 : Int32)) := A_o9
  have E_o8 := E_o8.wr W
  have F_o8_values := F_o8_values.other W (Or.inl ne_o8_o9)
  have F_o8_size := F_o8_size.other W (Or.inl ne_o8_o9)
  have Kp := Kp.wr W (Or.inl (by simp))
  refine s_return C X d13_55 rfl ?_
  exact ⟨rfl, E_o8, F_o8_values, F_o8_size, A_o9, Kp⟩
set_option maxRecDepth 65536 in
set_option maxHeartbeats 40000000 in
theorem rm_a56 (l : Launch) (Z : State) (a0 : Array Value) (hw : ∀ d ∈ tables_1, d.before a0 Z = true) (o5 : Addr) (h0 : Heap) (n0 : Nat) (Z0 : n0 ≤ h0.size) (F_o5_size : Fld Z h0 o5 "com/example/eventloom/eventloom/net/IntList" "size" "I" (.int (1 : Int32))) :
    Met l Z (⟨"com/example/eventloom/eventloom/net/IntList", "size", "()I"⟩ : MethodName) prog_85_method_2_code 1 (some .int) { frames := 0, cells := 0, slots := 0, locals := 0 } [] #[(.ref o5)] h0 n0 (fun v h => v = some (.int (1 : Int32)) ∧ Keep h0 h []) := by
  refine Met.mk (tabs := tables_1) (a0 := a0) (ls0 := #[.val (.ref o5)]) (plainFor_of_name pn_com_example_eventloom_eventloom_net_IntList) hw Z0 (fun m => by first | (simp [entryFrame, mkF, argsToLocals, Value.category]; done) | rfl) ?_
  intro p e s m below meth c T C X
  have Kp : Keep h0 h0 [] := Keep.refl _ _
  refine s_aloadN 1 C X d12_0 rfl rfl ?_
  refine s_getfield 4 C X (host := "") d12_1 (Or.inl (mW 77 rfl)) Via.refl F_o5_size (fun T X => ?_)
  refine s_ireturn C X d12_4 rfl ?_
  exact ⟨rfl, Kp⟩
set_option maxRecDepth 65536 in
set_option maxHeartbeats 40000000 in
theorem rm_a57 (l : Launch) (Z : State) (a0 : Array Value) (hw : ∀ d ∈ tables_1, d.before a0 Z = true) (o3 : Addr) (o5 : Addr) (h0 : Heap) (n0 : Nat) (Z0 : n0 ≤ h0.size) (F_o3_starts : Fld Z h0 o3 "com/example/eventloom/eventloom/net/MarkingStore" "starts" "Lcom/example/eventloom/eventloom/net/IntList;" (.ref o5)) (E_o5 : Exa Z h0 o5 "com/example/eventloom/eventloom/net/IntList") (F_o5_size : Fld Z h0 o5 "com/example/eventloom/eventloom/net/IntList" "size" "I" (.int (1 : Int32))) :
    Met l Z (⟨"com/example/eventloom/eventloom/net/MarkingStore", "size", "()I"⟩ : MethodName) prog_86_method_2_code 1 (some .int) { frames := 1, cells := 0, slots := 0, locals := 12 } [] #[(.ref o3)] h0 n0 (fun v h => v = some (.int (1 : Int32)) ∧ Keep h0 h []) := by
  refine Met.mk (tabs := tables_1) (a0 := a0) (ls0 := #[.val (.ref o3)]) (plainFor_of_name pn_com_example_eventloom_eventloom_net_MarkingStore) hw Z0 (fun m => by first | (simp [entryFrame, mkF, argsToLocals, Value.category]; done) | rfl) ?_
  intro p e s m below meth c T C X
  have Kp : Keep h0 h0 [] := Keep.refl _ _
  refine s_aloadN 1 C X d11_0 rfl rfl ?_
  refine s_getfield 4 C X (host := "") d11_1 (Or.inl (mW 25 rfl)) Via.refl F_o3_starts (fun T X => ?_)
  refine s_callV 7 [] [] 0 C X d11_4 (mW 72 rfl) (mW 73 rfl) (notFace_of_selects (args := #[]) (mvT C.2.1 (C.w (mW 75 rfl)))) (mW 75 rfl) (mW 74 rfl) (mW 17 rfl) (mW 76 rfl) E_o5 (rm_a56 l Z a0 hw o5 _ n0 X.sz F_o5_size) (lenOf pd___I rfl) rfl rfl rfl (fun T v hh X q => ?_)
  obtain ⟨rfl, Kc⟩ := q
  have F_o3_starts := F_o3_starts.keep Kc nin0
  have E_o5 := E_o5.keep Kc
  have F_o5_size := F_o5_size.keep Kc nin0
  have Kp := Kp.trans Kc all0
  refine Run.cast (st' := [(.int (1 : Int32))]) rfl ?_
  refine s_ireturn C X d11_7 rfl ?_
  exact ⟨rfl, Kp⟩
set_option maxRecDepth 65536 in
set_option maxHeartbeats 40000000 in
theorem rm_a59 (l : Launch) (Z : State) (a0 : Array Value) (hw : ∀ d ∈ tables_1, d.before a0 Z = true) (o1 : Addr) (o3 : Addr) (k_o1 : ClassId) (o4 : Addr) (o5 : Addr) (k_o4 : ClassId) (o6 : Addr) (k_o6 : ClassId) (o8 : Addr) (o9 : Addr) (k_o9 : ClassId) (o11 : Addr) (k_o11 : ClassId) (o31 : Addr) (k_o31 : ClassId) (h0 : Heap) (n0 : Nat) (Z0 : n0 ≤ h0.size) (A_o1 : Arv Z h0 o1 k_o1 .long (1 : Int32) [(.long (1 : Int64))] (.long (0 : Int64))) (E_o3 : Exa Z h0 o3 "com/example/eventloom/eventloom/net/MarkingStore") (F_o3_bytes : Fld Z h0 o3 "com/example/eventloom/eventloom/net/MarkingStore" "bytes" "[B" (.ref o4)) (F_o3_starts : Fld Z h0 o3 "com/example/eventloom/eventloom/net/MarkingStore" "starts" "Lcom/example/eventloom/eventloom/net/IntList;" (.ref o5)) (F_o3_hashes : Fld Z h0 o3 "com/example/eventloom/eventloom/net/MarkingStore" "hashes" "Lcom/example/eventloom/eventloom/net/IntList;" (.ref o8)) (F_o3_table : Fld Z h0 o3 "com/example/eventloom/eventloom/net/MarkingStore" "table" "[I" (.ref o11)) (F_o3_encoded : Fld Z h0 o3 "com/example/eventloom/eventloom/net/MarkingStore" "encoded" "[B" (.ref o31)) (F_o3_encodedLength : Fld Z h0 o3 "com/example/eventloom/eventloom/net/MarkingStore" "encodedLength" "I" (.int (0 : Int32))) (F_o3_encodedHash : Fld Z h0 o3 "com/example/eventloom/eventloom/net/MarkingStore" "encodedHash" "I" (.int (0 : Int32))) (F_o3_length : Fld Z h0 o3 "com/example/eventloom/eventloom/net/MarkingStore" "length" "I" (.int (0 : Int32))) (F_o3_position : Fld Z h0 o3 "com/example/eventloom/eventloom/net/MarkingStore" "position" "I" (.int (0 : Int32))) (A_o4 : Arv Z h0 o4 k_o4 .byte (4096 : Int32) [(.int (0 : Int32)), (.int (0 : Int32)), (.int (0 : Int32)), (.int (0 : Int32)), (.int (0 : Int32)), (.int (0 : Int32))] (.int (0 : Int32))) (E_o5 : Exa Z h0 o5 "com/example/eventloom/eventloom/net/IntList") (F_o5_values : Fld Z h0 o5 "com/example/eventloom/eventloom/net/IntList" "values" "[I" (.ref o6)) (F_o5_size : Fld Z h0 o5 "com/example/eventloom/eventloom/net/IntList" "size" "I" (.int (0 : Int32))) (A_o6 : Arv Z h0 o6 k_o6 .int (16 : Int32) [(.int (0 : Int32)), (.int (0 : Int32)), (.int (0 : Int32)), (.int (0 : Int32)), (.int (0 : Int32)), (.int (0 : Int32)), (.int (0 : Int32)), (.int (0 : Int32)), (.int (0 : Int32)), (.int (0 : Int32)), (.int (0 : Int32)), (.int (0 : Int32)), (.int (0 : Int32)), (.int (0 : Int32)), (.int (0 : Int32)), (.int (0 : Int32))] (.int (0 : Int32))) (E_o8 : Exa Z h0 o8 "com/example/eventloom/eventloom/net/IntList") (F_o8_values : Fld Z h0 o8 "com/example/eventloom/eventloom/net/IntList" "values" "[I" (.ref o9)) (F_o8_size : Fld Z h0 o8 "com/example/eventloom/eventloom/net/IntList" "size" "I" (.int (0 : Int32))) (A_o9 : Arv Z h0 o9 k_o9 .int (16 : Int32) [(.int (0 : Int32)), (.int (0 : Int32)), (.int (0 : Int32)), (.int (0 : Int32)), (.int (0 : Int32)), (.int (0 : Int32)), (.int (0 : Int32)), (.int (0 : Int32)), (.int (0 : Int32)), (.int (0 : Int32)), (.int (0 : Int32)), (.int (0 : Int32)), (.int (0 : Int32)), (.int (0 : Int32)), (.int (0 : Int32)), (.int (0 : Int32))] (.int (0 : Int32))) (A_o11 : Arv Z h0 o11 k_o11 .int (16 : Int32) [(.int (-1 : Int32)), (.int (-1 : Int32)), (.int (-1 : Int32)), (.int (-1 : Int32)), (.int (-1 : Int32)), (.int (-1 : Int32)), (.int (-1 : Int32)), (.int (-1 : Int32)), (.int (-1 : Int32)), (.int (-1 : Int32)), (.int (-1 : Int32)), (.int (-1 : Int32)), (.int (-1 : Int32)), (.int (-1 : Int32)), (.int (-1 : Int32)), (.int (-1 : Int32))] (.int (0 : Int32))) (A_o31 : Arv Z h0 o31 k_o31 .byte (64 : Int32) [(.int (0 : Int32)), (.int (0 : Int32)), (.int (0 : Int32)), (.int (0 : Int32)), (.int (0 : Int32)), (.int (0 : Int32))] (.int (0 : Int32))) (ne_o1_o3 : o1 ≠ o3) (g_o3 : n0 ≤ o3) (ne_o1_o4 : o1 ≠ o4) (g_o4 : n0 ≤ o4) (ne_o1_o5 : o1 ≠ o5) (g_o5 : n0 ≤ o5) (ne_o1_o6 : o1 ≠ o6) (g_o6 : n0 ≤ o6) (ne_o1_o8 : o1 ≠ o8) (g_o8 : n0 ≤ o8) (ne_o1_o9 : o1 ≠ o9) (g_o9 : n0 ≤ o9) (ne_o1_o11 : o1 ≠ o11) (g_o11 : n0 ≤ o11) (ne_o1_o31 : o1 ≠ o31) (g_o31 : n0 ≤ o31) (ne_o3_o4 : o3 ≠ o4) (ne_o3_o5 : o3 ≠ o5) (ne_o4_o5 : o4 ≠ o5) (ne_o3_o6 : o3 ≠ o6) (ne_o4_o6 : o4 ≠ o6) (ne_o5_o6 : o5 ≠ o6) (ne_o3_o8 : o3 ≠ o8) (ne_o4_o8 : o4 ≠ o8) (ne_o5_o8 : o5 ≠ o8) (ne_o6_o8 : o6 ≠ o8) (ne_o3_o9 : o3 ≠ o9) (ne_o4_o9 : o4 ≠ o9) (ne_o5_o9 : o5 ≠ o9) (ne_o6_o9 : o6 ≠ o9) (ne_o8_o9 : o8 ≠ o9) (ne_o3_o11 : o3 ≠ o11) (ne_o4_o11 : o4 ≠ o11) (ne_o5_o11 : o5 ≠ o11) (ne_o6_o11 : o6 ≠ o11) (ne_o8_o11 : o8 ≠ o11) (ne_o9_o11 : o9 ≠ o11) (ne_o3_o31 : o3 ≠ o31) (ne_o4_o31 : o4 ≠ o31) (ne_o5_o31 : o5 ≠ o31) (ne_o6_o31 : o6 ≠ o31) (ne_o8_o31 : o8 ≠ o31) (ne_o9_o31 : o9 ≠ o31) (ne_o11_o31 : o11 ≠ o31) :
    Met l Z (⟨"com/example/eventloom/eventloom/net/MarkingStore", "add", "([J)I"⟩ : MethodName) prog_86_method_4_code 4 (some .int) { frames := 2, cells := 0, slots := 0, locals := 40 } [] #[(.ref o3), (.ref o1)] h0 n0 (fun v h => v = some (.int (0 : Int32)) ∧ Arv Z h o11 k_o11 .int (16 : Int32) [(.int (-1 : Int32)), (.int (-1 : Int32)), (.int (-1 : Int32)), (.int (-1 : Int32)), (.int (0 : Int32)), (.int (-1 : Int32)), (.int (-1 : Int32)), (.int (-1 : Int32)), (.int (-1 : Int32)), (.int (-1 : Int32)), (.int (-1 : Int32)), (.int (-1 : Int32)), (.int (-1 : Int32)), (.int (-1 : Int32)), (.int (-1 : Int32)), (.int (-1 : Int32))] (.int (0 : Int32)) ∧ Keep h0 h [o3, o4, o5, o8, o11, o31, o6, o9] ∧ Exa Z h o3 "com/example/eventloom/eventloom/net/MarkingStore" ∧ Fld Z h o3 "com/example/eventloom/eventloom/net/MarkingStore" "bytes" "[B" (.ref o4) ∧ Fld Z h o3 "com/example/eventloom/eventloom/net/MarkingStore" "starts" "Lcom/example/eventloom/eventloom/net/IntList;" (.ref o5) ∧ Fld Z h o3 "com/example/eventloom/eventloom/net/MarkingStore" "hashes" "Lcom/example/eventloom/eventloom/net/IntList;" (.ref o8) ∧ Fld Z h o3 "com/example/eventloom/eventloom/net/MarkingStore" "table" "[I" (.ref o11) ∧ Fld Z h o3 "com/example/eventloom/eventloom/net/MarkingStore" "encoded" "[B" (.ref o31) ∧ Fld Z h o3 "com/example/eventloom/eventloom/net/MarkingStore" "encodedLength" "I" (.int (2 : Int32)) ∧ Fld Z h o3 "com/example/eventloom/eventloom/net/MarkingStore" "encodedHash" "I" (.int (962 : Int32)) ∧ Fld Z h o3 "com/example/eventloom/eventloom/net/MarkingStore" "length" "I" (.int (2 : Int32)) ∧ Fld Z h o3 "com/example/eventloom/eventloom/net/MarkingStore" "position" "I" (.int (0 : Int32)) ∧ Arv Z h o31 k_o31 .byte (64 : Int32) [(.int (0 : Int32)), (.int (1 : Int32)), (.int (0 : Int32)), (.int (0 : Int32)), (.int (0 : Int32)), (.int (0 : Int32))] (.int (0 : Int32)) ∧ Arv Z h o4 k_o4 .byte (4096 : Int32) [(.int (0 : Int32)), (.int (1 : Int32)), (.int (0 : Int32)), (.int (0 : Int32)), (.int (0 : Int32)), (.int (0 : Int32))] (.int (0 : Int32)) ∧ Exa Z h o5 "com/example/eventloom/eventloom/net/IntList" ∧ Fld Z h o5 "com/example/eventloom/eventloom/net/IntList" "values" "[I" (.ref o6) ∧ Fld Z h o5 "com/example/eventloom/eventloom/net/IntList" "size" "I" (.int (1 : Int32)) ∧ Arv Z h o6 k_o6 .int (16 : Int32) [(.int (0 : Int32)), (.int (0 : Int32)), (.int (0 : Int32)), (.int (0 : Int32)), (.int (0 : Int32)), (.int (0 : Int32)), (.int (0 : Int32)), (.int (0 : Int32)), (.int (0 : Int32)), (.int (0 : Int32)), (.int (0 : Int32)), (.int (0 : Int32)), (.int (0 : Int32)), (.int (0 : Int32)), (.int (0 : Int32)), (.int (0 : Int32))] (.int (0 : Int32)) ∧ Exa Z h o8 "com/example/eventloom/eventloom/net/IntList" ∧ Fld Z h o8 "com/example/eventloom/eventloom/net/IntList" "values" "[I" (.ref o9) ∧ Fld Z h o8 "com/example/eventloom/eventloom/net/IntList" "size" "I" (.int (1 : Int32)) ∧ Arv Z h o9 k_o9 .int (16 : Int32) [(.int (962 : Int32)), (.int (0 : Int32)), (.int (0 : Int32)), (.int (0 : Int32)), (.int (0 : Int32)), (.int (0 : Int32)), (.int (0 : Int32)), (.int (0 : Int32)), (.int (0 : Int32)), (.int (0 : Int32)), (.int (0 : Int32)), (.int (0 : Int32)), (.int (0 : Int32)), (.int (0 : Int32)), (.int (0 : Int32)), (.int (0 : Int32))] (.int (0 : Int32))) := by
  refine Met.mk (tabs := tables_1) (a0 := a0) (ls0 := #[.val (.ref o3), .val (.ref o1), .unset, .unset]) (plainFor_of_name pn_com_example_eventloom_eventloom_net_MarkingStore) hw Z0 (fun m => by first | (simp [entryFrame, mkF, argsToLocals, Value.category]; done) | rfl) ?_
  intro p e s m below meth c T C X
  have Kp : Keep h0 h0 [o3, o4, o5, o8, o11, o31, o6, o9] := Keep.refl _ _
  refine s_aloadN 1 C X d6_0 rfl rfl ?_
  refine s_aloadN 2 C X d6_1 rfl rfl ?_
  refine s_callPI 5 [(.ref o1)] [] 0 C X d6_2 (mW 45 rfl) (mW 46 rfl) (mW 4 rfl) (mW 47 rfl) (mW 5 rfl) (mW 48 rfl) E_o3 (rm_a44 l Z a0 hw o1 o3 k_o1 o4 o5 o8 o11 o31 k_o31 _ n0 X.sz A_o1 E_o3 F_o3_bytes F_o3_starts F_o3_hashes F_o3_table F_o3_encoded F_o3_encodedLength F_o3_encodedHash F_o3_length F_o3_position A_o31 ne_o1_o3 g_o3 ne_o1_o31 g_o31 ne_o3_o31) (lenOf pd___J_V rfl) rfl rfl rfl (fun T v hh X q => ?_)
  obtain ⟨rfl, Kc, E_o3, F_o3_bytes, F_o3_starts, F_o3_hashes, F_o3_table, F_o3_encoded, F_o3_encodedLength, F_o3_encodedHash, F_o3_length, F_o3_position, A_o31⟩ := q
  have nn_o5 : o5 ∉ [o3, o31] := (ninS (Ne.symm ne_o3_o5) (ninS ne_o5_o31 nin0))
  have nn_o8 : o8 ∉ [o3, o31] := (ninS (Ne.symm ne_o3_o8) (ninS ne_o8_o31 nin0))
  have A_o1 := A_o1.keep Kc (ninS ne_o1_o3 (ninS ne_o1_o31 nin0))
  have A_o4 := A_o4.keep Kc (ninS (Ne.symm ne_o3_o4) (ninS ne_o4_o31 nin0))
  have E_o5 := E_o5.keep Kc
  have F_o5_values := F_o5_values.keep Kc nn_o5
  have F_o5_size := F_o5_size.keep Kc nn_o5
  have A_o6 := A_o6.keep Kc (ninS (Ne.symm ne_o3_o6) (ninS ne_o6_o31 nin0))
  have E_o8 := E_o8.keep Kc
  have F_o8_values := F_o8_values.keep Kc nn_o8
  have F_o8_size := F_o8_size.keep Kc nn_o8
  have A_o9 := A_o9.keep Kc (ninS (Ne.symm ne_o3_o9) (ninS ne_o9_o31 nin0))
  have A_o11 := A_o11.keep Kc (ninS (Ne.symm ne_o3_o11) (ninS ne_o11_o31 nin0))
  have Kp := Kp.trans Kc (allS (Or.inl (by simp)) (allS (Or.inl (by simp)) all0))
  refine Run.cast (st' := []) rfl ?_
  refine s_aloadN 6 C X d6_5 rfl rfl ?_
  refine s_callPI 9 [] [] 0 C X d6_6 (mW 58 rfl) (mW 59 rfl) (mW 4 rfl) (mW 60 rfl) (mW 5 rfl) (mW 61 rfl) E_o3 (rm_a47 l Z a0 hw o3 o11 k_o11 _ n0 X.sz A_o11 F_o3_table F_o3_encodedHash) (lenOf pd___I rfl) rfl rfl rfl (fun T v hh X q => ?_)
  obtain ⟨rfl, Kc⟩ := q
  have A_o1 := A_o1.keep Kc nin0
  have A_o4 := A_o4.keep Kc nin0
  have E_o5 := E_o5.keep Kc
  have F_o5_values := F_o5_values.keep Kc nin0
  have F_o5_size := F_o5_size.keep Kc nin0
  have A_o6 := A_o6.keep Kc nin0
  have E_o8 := E_o8.keep Kc
  have F_o8_values := F_o8_values.keep Kc nin0
  have F_o8_size := F_o8_size.keep Kc nin0
  have A_o9 := A_o9.keep Kc nin0
  have A_o11 := A_o11.keep Kc nin0
  have Kp := Kp.trans Kc all0
  have E_o3 := E_o3.keep Kc
  have F_o3_bytes := F_o3_bytes.keep Kc nin0
  have F_o3_starts := F_o3_starts.keep Kc nin0
  have F_o3_hashes := F_o3_hashes.keep Kc nin0
  have F_o3_table := F_o3_table.keep Kc nin0
  have F_o3_encoded := F_o3_encoded.keep Kc nin0
  have F_o3_encodedLength := F_o3_encodedLength.keep Kc nin0
  have F_o3_encodedHash := F_o3_encodedHash.keep Kc nin0
  have F_o3_length := F_o3_length.keep Kc nin0
  have F_o3_position := F_o3_position.keep Kc nin0
  have A_o31 := A_o31.keep Kc nin0
  refine Run.cast (st' := [(.int (4 : Int32))]) rfl ?_
  refine s_istoreN 10 C X (l' := #[.val (.ref o3), .val (.ref o1), .val (.int (4 : Int32)), .unset]) d6_9 rfl ?_
  refine s_aloadN 11 C X d6_10 rfl rfl ?_
  refine s_getfield 14 C X (host := "") d6_11 (Or.inl (mW 36 rfl)) Via.refl F_o3_table (fun T X => ?_)
  refine s_iloadN 15 C X d6_14 rfl ?_
  refine s_iaload 16 C X d6_15 A_o11 ⟨by decide, by decide⟩ (v := (.int (-1 : Int32))) rfl ?_
  refine s_iconst 17 C X d6_16 kc_iconst_m1 ?_
  refine s_icmp_eq 27 20 C X d6_17 (fun _ => ?_) (fun c => absurd (by decide : (-1 : Int32) = (-1 : Int32)) c)
  refine s_aloadN 28 C X d6_27 rfl rfl ?_
  refine s_callV 31 [] [] 0 C X d6_28 (mW 67 rfl) (mW 68 rfl) (notFace_of_selects (args := #[]) (mvT C.2.1 (C.w (mW 70 rfl)))) (mW 70 rfl) (mW 69 rfl) (mW 5 rfl) (mW 71 rfl) E_o3 (rm_a50 l Z a0 hw o3 o5 _ n0 X.sz E_o5 F_o5_size F_o3_starts) (lenOf pd___I rfl) rfl rfl rfl (fun T v hh X q => ?_)
  obtain ⟨rfl, Kc⟩ := q
  have A_o1 := A_o1.keep Kc nin0
  have A_o4 := A_o4.keep Kc nin0
  have E_o5 := E_o5.keep Kc
  have F_o5_values := F_o5_values.keep Kc nin0
  have F_o5_size := F_o5_size.keep Kc nin0
  have A_o6 := A_o6.keep Kc nin0
  have E_o8 := E_o8.keep Kc
  have F_o8_values := F_o8_values.keep Kc nin0
  have F_o8_size := F_o8_size.keep Kc nin0
  have A_o9 := A_o9.keep Kc nin0
  have A_o11 := A_o11.keep Kc nin0
  have Kp := Kp.trans Kc all0
  have E_o3 := E_o3.keep Kc
  have F_o3_bytes := F_o3_bytes.keep Kc nin0
  have F_o3_starts := F_o3_starts.keep Kc nin0
  have F_o3_hashes := F_o3_hashes.keep Kc nin0
  have F_o3_table := F_o3_table.keep Kc nin0
  have F_o3_encoded := F_o3_encoded.keep Kc nin0
  have F_o3_encodedLength := F_o3_encodedLength.keep Kc nin0
  have F_o3_encodedHash := F_o3_encodedHash.keep Kc nin0
  have F_o3_length := F_o3_length.keep Kc nin0
  have F_o3_position := F_o3_position.keep Kc nin0
  have A_o31 := A_o31.keep Kc nin0
  refine Run.cast (st' := [(.int (0 : Int32))]) rfl ?_
  refine s_istoreN 32 C X (l' := #[.val (.ref o3), .val (.ref o1), .val (.int (4 : Int32)), .val (.int (0 : Int32))]) d6_31 rfl ?_
  refine s_aloadN 33 C X d6_32 rfl rfl ?_
  refine s_getfield 36 C X (host := "") d6_33 (Or.inl (mW 79 rfl)) Via.refl F_o3_length (fun T X => ?_)
  refine s_aloadN 37 C X d6_36 rfl rfl ?_
  refine s_getfield 40 C X (host := "") d6_37 (Or.inl (mW 49 rfl)) Via.refl F_o3_encodedLength (fun T X => ?_)
  refine s_iadd 41 C X d6_40 ?_
  refine Run.cast (st' := [(.int (2 : Int32))]) (by rw [kf_28]) ?_
  refine s_aloadN 42 C X d6_41 rfl rfl ?_
  refine s_getfield 45 C X (host := "") d6_42 (Or.inl (mW 13 rfl)) Via.refl F_o3_bytes (fun T X => ?_)
  refine s_arraylength 46 C X d6_45 A_o4 ?_
  refine s_icmp_le 79 49 C X d6_46 (fun _ => ?_) (fun c => absurd c (by decide))
  refine s_aloadN 80 C X d6_79 rfl rfl ?_
  refine s_getfield 83 C X (host := "") d6_80 (Or.inl (mW 38 rfl)) Via.refl F_o3_encoded (fun T X => ?_)
  refine s_iconst 84 C X d6_83 kc_iconst_0 ?_
  refine s_aloadN 85 C X d6_84 rfl rfl ?_
  refine s_getfield 88 C X (host := "") d6_85 (Or.inl (mW 13 rfl)) Via.refl F_o3_bytes (fun T X => ?_)
  refine s_aloadN 89 C X d6_88 rfl rfl ?_
  refine s_getfield 92 C X (host := "") d6_89 (Or.inl (mW 79 rfl)) Via.refl F_o3_length (fun T X => ?_)
  refine s_aloadN 93 C X d6_92 rfl rfl ?_
  refine s_getfield 96 C X (host := "") d6_93 (Or.inl (mW 49 rfl)) Via.refl F_o3_encodedLength (fun T X => ?_)
  refine s_arraycopy 99 0 [(.int (0 : Int32)), (.int (1 : Int32)), (.int (0 : Int32)), (.int (0 : Int32)), (.int (0 : Int32)), (.int (0 : Int32))] C X d6_96 (mW 81 rfl) (mW 84 rfl) (mW 82 rfl) (mW 83 rfl) A_o31 A_o4 rfl (by decide) (by decide) (by decide) (by decide) (by decide) (Nat.le_of_ble_eq_true rfl) g_o4 rfl rfl rfl (fun T hh X Kc A_o4 => ?_)
  have A_o1 := A_o1.keep Kc (ninS ne_o1_o4 nin0)
  have E_o5 := E_o5.keep Kc
  have F_o5_values := F_o5_values.keep Kc (ninS (Ne.symm ne_o4_o5) nin0)
  have F_o5_size := F_o5_size.keep Kc (ninS (Ne.symm ne_o4_o5) nin0)
  have A_o6 := A_o6.keep Kc (ninS (Ne.symm ne_o4_o6) nin0)
  have E_o8 := E_o8.keep Kc
  have F_o8_values := F_o8_values.keep Kc (ninS (Ne.symm ne_o4_o8) nin0)
  have F_o8_size := F_o8_size.keep Kc (ninS (Ne.symm ne_o4_o8) nin0)
  have A_o9 := A_o9.keep Kc (ninS (Ne.symm ne_o4_o9) nin0)
  have A_o11 := A_o11.keep Kc (ninS (Ne.symm ne_o4_o11) nin0)
  have Kp := Kp.trans Kc (allS (Or.inl (by simp)) all0)
  have E_o3 := E_o3.keep Kc
  have F_o3_bytes := F_o3_bytes.keep Kc (ninS ne_o3_o4 nin0)
  have F_o3_starts := F_o3_starts.keep Kc (ninS ne_o3_o4 nin0)
  have F_o3_hashes := F_o3_hashes.keep Kc (ninS ne_o3_o4 nin0)
  have F_o3_table := F_o3_table.keep Kc (ninS ne_o3_o4 nin0)
  have F_o3_encoded := F_o3_encoded.keep Kc (ninS ne_o3_o4 nin0)
  have F_o3_encodedLength := F_o3_encodedLength.keep Kc (ninS ne_o3_o4 nin0)
  have F_o3_encodedHash := F_o3_encodedHash.keep Kc (ninS ne_o3_o4 nin0)
  have F_o3_length := F_o3_length.keep Kc (ninS ne_o3_o4 nin0)
  have F_o3_position := F_o3_position.keep Kc (ninS ne_o3_o4 nin0)
  have A_o31 := A_o31.keep Kc (ninS (Ne.symm ne_o4_o31) nin0)
  refine s_aloadN 100 C X d6_99 rfl rfl ?_
  refine s_getfield 103 C X (host := "") d6_100 (Or.inl (mW 25 rfl)) Via.refl F_o3_starts (fun T X => ?_)
  refine s_aloadN 104 C X d6_103 rfl rfl ?_
  refine s_getfield 107 C X (host := "") d6_104 (Or.inl (mW 79 rfl)) Via.refl F_o3_length (fun T X => ?_)
  refine s_callV 110 [(.int (0 : Int32))] [] 0 C X d6_107 (mW 85 rfl) (mW 86 rfl) (notFace_of_selects (args := #[]) (mvT C.2.1 (C.w (mW 88 rfl)))) (mW 88 rfl) (mW 87 rfl) (mW 17 rfl) (mW 89 rfl) E_o5 (rm_a53 l Z a0 hw o5 o6 k_o6 _ n0 X.sz E_o5 F_o5_values F_o5_size A_o6 g_o5 g_o6 ne_o5_o6) (lenOf pd__I_V rfl) rfl rfl rfl (fun T v hh X q => ?_)
  obtain ⟨rfl, E_o5, F_o5_values, F_o5_size, A_o6, Kc⟩ := q
  have nn_o8 : o8 ∉ [o5, o6] := (ninS (Ne.symm ne_o5_o8) (ninS (Ne.symm ne_o6_o8) nin0))
  have nn_o3 : o3 ∉ [o5, o6] := (ninS ne_o3_o5 (ninS ne_o3_o6 nin0))
  have A_o1 := A_o1.keep Kc (ninS ne_o1_o5 (ninS ne_o1_o6 nin0))
  have E_o8 := E_o8.keep Kc
  have F_o8_values := F_o8_values.keep Kc nn_o8
  have F_o8_size := F_o8_size.keep Kc nn_o8
  have A_o9 := A_o9.keep Kc (ninS (Ne.symm ne_o5_o9) (ninS (Ne.symm ne_o6_o9) nin0))
  have A_o11 := A_o11.keep Kc (ninS (Ne.symm ne_o5_o11) (ninS (Ne.symm ne_o6_o11) nin0))
  have Kp := Kp.trans Kc (allS (Or.inl (by simp)) (allS (Or.inl (by simp)) all0))
  have E_o3 := E_o3.keep Kc
  have F_o3_bytes := F_o3_bytes.keep Kc nn_o3
  have F_o3_starts := F_o3_starts.keep Kc nn_o3
  have F_o3_hashes := F_o3_hashes.keep Kc nn_o3
  have F_o3_table := F_o3_table.keep Kc nn_o3
  have F_o3_encoded := F_o3_encoded.keep Kc nn_o3
  have F_o3_encodedLength := F_o3_encodedLength.keep Kc nn_o3
  have F_o3_encodedHash := F_o3_encodedHash.keep Kc nn_o3
  have F_o3_length := F_o3_length.keep Kc nn_o3
  have F_o3_position := F_o3_position.keep Kc nn_o3
  have A_o31 := A_o31.keep Kc (ninS (Ne.symm ne_o5_o31) (ninS (Ne.symm ne_o6_o31) nin0))
  have A_o4 := A_o4.keep Kc (ninS ne_o4_o5 (ninS ne_o4_o6 nin0))
  refine Run.cast (st' := []) rfl ?_
  refine s_aloadN 111 C X d6_110 rfl rfl ?_
  refine s_getfield 114 C X (host := "") d6_111 (Or.inl (mW 27 rfl)) Via.refl F_o3_hashes (fun T X => ?_)
  refine s_aloadN 115 C X d6_114 rfl rfl ?_
  refine s_getfield 118 C X (host := "") d6_115 (Or.inl (mW 56 rfl)) Via.refl F_o3_encodedHash (fun T X => ?_)
  refine s_callV 121 [(.int (962 : Int32))] [] 0 C X d6_118 (mW 85 rfl) (mW 86 rfl) (notFace_of_selects (args := #[]) (mvT C.2.1 (C.w (mW 88 rfl)))) (mW 88 rfl) (mW 87 rfl) (mW 17 rfl) (mW 89 rfl) E_o8 (rm_a55 l Z a0 hw o8 o9 k_o9 _ n0 X.sz E_o8 F_o8_values F_o8_size A_o9 g_o8 g_o9 ne_o8_o9) (lenOf pd__I_V rfl) rfl rfl rfl (fun T v hh X q => ?_)
  obtain ⟨rfl, E_o8, F_o8_values, F_o8_size, A_o9, Kc⟩ := q
  have nn_o3 : o3 ∉ [o8, o9] := (ninS ne_o3_o8 (ninS ne_o3_o9 nin0))
  have nn_o5 : o5 ∉ [o8, o9] := (ninS ne_o5_o8 (ninS ne_o5_o9 nin0))
  have A_o1 := A_o1.keep Kc (ninS ne_o1_o8 (ninS ne_o1_o9 nin0))
  have A_o11 := A_o11.keep Kc (ninS (Ne.symm ne_o8_o11) (ninS (Ne.symm ne_o9_o11) nin0))
  have Kp := Kp.trans Kc (allS (Or.inl (by simp)) (allS (Or.inl (by simp)) all0))
  have E_o3 := E_o3.keep Kc
  have F_o3_bytes := F_o3_bytes.keep Kc nn_o3
  have F_o3_starts := F_o3_starts.keep Kc nn_o3
  have F_o3_hashes := F_o3_hashes.keep Kc nn_o3
  have F_o3_table := F_o3_table.keep Kc nn_o3
  have F_o3_encoded := F_o3_encoded.keep Kc nn_o3
  have F_o3_encodedLength := F_o3_encodedLength.keep Kc nn_o3
  have F_o3_encodedHash := F_o3_encodedHash.keep Kc nn_o3
  have F_o3_length := F_o3_length.keep Kc nn_o3
  have F_o3_position := F_o3_position.keep Kc nn_o3
  have A_o31 := A_o31.keep Kc (ninS (Ne.symm ne_o8_o31) (ninS (Ne.symm ne_o9_o31) nin0))
  have A_o4 := A_o4.keep Kc (ninS ne_o4_o8 (ninS ne_o4_o9 nin0))
  have E_o5 := E_o5.keep Kc
  have F_o5_values := F_o5_values.keep Kc nn_o5
  have F_o5_size := F_o5_size.keep Kc nn_o5
  have A_o6 := A_o6.keep Kc (ninS ne_o6_o8 (ninS ne_o6_o9 nin0))
  refine Run.cast (st' := []) rfl ?_
  refine s_aloadN 122 C X d6_121 rfl rfl ?_
  refine s_dup 123 C X d6_122 rfl ?_
  refine s_getfield 126 C X (host := "") d6_123 (Or.inl (mW 79 rfl)) Via.refl F_o3_length (fun T X => ?_)
  refine s_aloadN 127 C X d6_126 rfl rfl ?_
  refine s_getfield 130 C X (host := "") d6_127 (Or.inl (mW 49 rfl)) Via.refl F_o3_encodedLength (fun T X => ?_)
  refine s_iadd 131 C X d6_130 ?_
  refine Run.cast (st' := [(.int (2 : Int32)), (.ref o3)]) (by rw [kf_28]) ?_
  refine s_putfield 134 C X (host := "") d6_131 (Or.inl (mW 79 rfl)) Via.refl F_o3_length E_o3 (Or.inl (mW 80 rfl)) (mW 4 rfl) (ty := .int) (by decide) rfl rfl g_o3 (fun T hh X W => ?_)
  have A_o1 := A_o1.other W ne_o1_o3
  have A_o11 := A_o11.other W (Ne.symm ne_o3_o11)
  have Kp := Kp.wr W (Or.inl (by simp))
  have E_o3 := E_o3.wr W
  have F_o3_bytes := oth F_o3_bytes W (Or.inl (hw _ (mW 14 rfl))) (Or.inl (hw _ (mW 80 rfl))) (by decide)
  have F_o3_starts := oth F_o3_starts W (Or.inr (hw _ (mW 26 rfl))) (Or.inl (hw _ (mW 80 rfl))) (by decide)
  have F_o3_hashes := oth F_o3_hashes W (Or.inr (hw _ (mW 28 rfl))) (Or.inl (hw _ (mW 80 rfl))) (by decide)
  have F_o3_table := oth F_o3_table W (Or.inl (hw _ (mW 37 rfl))) (Or.inl (hw _ (mW 80 rfl))) (by decide)
  have F_o3_encoded := oth F_o3_encoded W (Or.inl (hw _ (mW 39 rfl))) (Or.inl (hw _ (mW 80 rfl))) (by decide)
  have F_o3_encodedLength := oth F_o3_encodedLength W (Or.inl (hw _ (mW 50 rfl))) (Or.inl (hw _ (mW 80 rfl))) (by decide)
  have F_o3_encodedHash := oth F_o3_encodedHash W (Or.inl (hw _ (mW 57 rfl))) (Or.inl (hw _ (mW 80 rfl))) (by decide)
  have F_o3_length := F_o3_length.same W
  have F_o3_position := oth F_o3_position W (Or.inl (hw _ (mW 171 rfl))) (Or.inl (hw _ (mW 80 rfl))) (by decide)
  have A_o31 := A_o31.other W (Ne.symm ne_o3_o31)
  have A_o4 := A_o4.other W (Ne.symm ne_o3_o4)
  have E_o5 := E_o5.wr W
  have F_o5_values := F_o5_values.other W (Or.inl (Ne.symm ne_o3_o5))
  have F_o5_size := F_o5_size.other W (Or.inl (Ne.symm ne_o3_o5))
  have A_o6 := A_o6.other W (Ne.symm ne_o3_o6)
  have E_o8 := E_o8.wr W
  have F_o8_values := F_o8_values.other W (Or.inl (Ne.symm ne_o3_o8))
  have F_o8_size := F_o8_size.other W (Or.inl (Ne.symm ne_o3_o8))
  have A_o9 := A_o9.other W (Ne.symm ne_o3_o9)
  refine s_aloadN 135 C X d6_134 rfl rfl ?_
  refine s_getfield 138 C X (host := "") d6_135 (Or.inl (mW 36 rfl)) Via.refl F_o3_table (fun T X => ?_)
  refine s_iloadN 139 C X d6_138 rfl ?_
  refine s_iloadN 140 C X d6_139 rfl ?_
  refine s_iastore 141 4 C X d6_140 A_o11 g_o11 ⟨by decide, by decide⟩ rfl (Nat.le_of_ble_eq_true rfl) (fun T hh X W A_o11 => ?_)
  have A_o11 : Arv Z _ o11 k_o11 .int (16 : Int32) [(.int (-1 : Int32)), (.int (-1 : Int32)), (.int (-1 : Int32)), (.int (-1 : Int32)), (.int (0 : Int32)), (.int (-1 : Int32)), (.int (-1 : Int32)), (.int (-1 : Int32)), (.int (-1 : Int32)), (.int (-1 : Int32)), (.int (-1 : Int32)), (.int (-1 : Int32)), (.int (-1 : Int32)), (.int (-1 : Int32)), (.int (-1 : Int32)), (.int (-1 : Int32))] (.int (0 : Int32)) := A_o11
  have A_o1 := A_o1.other W ne_o1_o11
  have Kp := Kp.wr W (Or.inl (by simp))
  have E_o3 := E_o3.wr W
  have F_o3_bytes := F_o3_bytes.other W (Or.inl ne_o3_o11)
  have F_o3_starts := F_o3_starts.other W (Or.inl ne_o3_o11)
  have F_o3_hashes := F_o3_hashes.other W (Or.inl ne_o3_o11)
  have F_o3_table := F_o3_table.other W (Or.inl ne_o3_o11)
  have F_o3_encoded := F_o3_encoded.other W (Or.inl ne_o3_o11)
  have F_o3_encodedLength := F_o3_encodedLength.other W (Or.inl ne_o3_o11)
  have F_o3_encodedHash := F_o3_encodedHash.other W (Or.inl ne_o3_o11)
  have F_o3_length := F_o3_length.other W (Or.inl ne_o3_o11)
  have F_o3_position := F_o3_position.other W (Or.inl ne_o3_o11)
  have A_o31 := A_o31.other W (Ne.symm ne_o11_o31)
  have A_o4 := A_o4.other W ne_o4_o11
  have E_o5 := E_o5.wr W
  have F_o5_values := F_o5_values.other W (Or.inl ne_o5_o11)
  have F_o5_size := F_o5_size.other W (Or.inl ne_o5_o11)
  have A_o6 := A_o6.other W ne_o6_o11
  have E_o8 := E_o8.wr W
  have F_o8_values := F_o8_values.other W (Or.inl ne_o8_o11)
  have F_o8_size := F_o8_size.other W (Or.inl ne_o8_o11)
  have A_o9 := A_o9.other W ne_o9_o11
  refine s_ldc2Long 144 C X d6_141 (mW 90 rfl) ?_
  refine s_aloadN 145 C X d6_144 rfl rfl ?_
  refine s_callV 148 [] [(.long (2 : Int64))] 2 C X d6_145 (mW 67 rfl) (mW 68 rfl) (notFace_of_selects (args := #[]) (mvT C.2.1 (C.w (mW 70 rfl)))) (mW 70 rfl) (mW 69 rfl) (mW 5 rfl) (mW 71 rfl) E_o3 (rm_a57 l Z a0 hw o3 o5 _ n0 X.sz F_o3_starts E_o5 F_o5_size) (lenOf pd___I rfl) rfl rfl rfl (fun T v hh X q => ?_)
  obtain ⟨rfl, Kc⟩ := q
  have A_o1 := A_o1.keep Kc nin0
  have A_o11 := A_o11.keep Kc nin0
  have Kp := Kp.trans Kc all0
  have E_o3 := E_o3.keep Kc
  have F_o3_bytes := F_o3_bytes.keep Kc nin0
  have F_o3_starts := F_o3_starts.keep Kc nin0
  have F_o3_hashes := F_o3_hashes.keep Kc nin0
  have F_o3_table := F_o3_table.keep Kc nin0
  have F_o3_encoded := F_o3_encoded.keep Kc nin0
  have F_o3_encodedLength := F_o3_encodedLength.keep Kc nin0
  have F_o3_encodedHash := F_o3_encodedHash.keep Kc nin0
  have F_o3_length := F_o3_length.keep Kc nin0
  have F_o3_position := F_o3_position.keep Kc nin0
  have A_o31 := A_o31.keep Kc nin0
  have A_o4 := A_o4.keep Kc nin0
  have E_o5 := E_o5.keep Kc
  have F_o5_values := F_o5_values.keep Kc nin0
  have F_o5_size := F_o5_size.keep Kc nin0
  have A_o6 := A_o6.keep Kc nin0
  have E_o8 := E_o8.keep Kc
  have F_o8_values := F_o8_values.keep Kc nin0
  have F_o8_size := F_o8_size.keep Kc nin0
  have A_o9 := A_o9.keep Kc nin0
  refine Run.cast (st' := [(.int (1 : Int32)), (.long (2 : Int64))]) rfl ?_
  refine s_i2l 149 C X d6_148 ?_
  refine Run.cast (st' := [(.long (1 : Int64)), (.long (2 : Int64))]) (by rw [kf_29]) ?_
  refine s_lmul 150 C X d6_149 ?_
  refine Run.cast (st' := [(.long (2 : Int64))]) (by rw [kf_30]) ?_
  refine s_aloadN 151 C X d6_150 rfl rfl ?_
  refine s_getfield 154 C X (host := "") d6_151 (Or.inl (mW 36 rfl)) Via.refl F_o3_table (fun T X => ?_)
  refine s_arraylength 155 C X d6_154 A_o11 ?_
  refine s_i2l 156 C X d6_155 ?_
  refine Run.cast (st' := [(.long (16 : Int64)), (.long (2 : Int64))]) (by rw [kf_31]) ?_
  refine s_lcmp 157 C X d6_156 ?_
  refine Run.cast (st' := [(.int (-1 : Int32))]) (by rw [kf_32]) ?_
  refine s_if_le 164 160 C X d6_157 (fun _ => ?_) (fun c => absurd c (by decide))
  refine s_iloadN 165 C X d6_164 rfl ?_
  refine s_ireturn C X d6_165 rfl ?_
  exact ⟨rfl, A_o11, Kp, E_o3, F_o3_bytes, F_o3_starts, F_o3_hashes, F_o3_table, F_o3_encoded, F_o3_encodedLength, F_o3_encodedHash, F_o3_length, F_o3_position, A_o31, A_o4, E_o5, F_o5_values, F_o5_size, A_o6, E_o8, F_o8_values, F_o8_size, A_o9⟩
set_option maxRecDepth 65536 in
set_option maxHeartbeats 40000000 in
theorem rm_a62 (l : Launch) (Z : State) (a0 : Array Value) (hw : ∀ d ∈ tables_1, d.before a0 Z = true) (o60 : Addr) (h0 : Heap) (n0 : Nat) (Z0 : n0 ≤ h0.size) (E_o60 : Exa Z h0 o60 "com/example/eventloom/eventloom/net/IntList") (F_o60_values : Fld Z h0 o60 "com/example/eventloom/eventloom/net/IntList" "values" "[I" .null) (F_o60_size : Fld Z h0 o60 "com/example/eventloom/eventloom/net/IntList" "size" "I" (.int (0 : Int32))) (g_o60 : n0 ≤ o60) :
    Met l Z (⟨"com/example/eventloom/eventloom/net/IntList", "<init>", "()V"⟩ : MethodName) prog_85_method_1_code 1 none { frames := 1, cells := 1, slots := 16, locals := 12 } [] #[(.ref o60)] h0 n0 (fun v h => ∃ (o61 : Addr) (k_o61 : ClassId), v = none ∧ Exa Z h o60 "com/example/eventloom/eventloom/net/IntList" ∧ Fld Z h o60 "com/example/eventloom/eventloom/net/IntList" "values" "[I" (.ref o61) ∧ Fld Z h o60 "com/example/eventloom/eventloom/net/IntList" "size" "I" (.int (0 : Int32)) ∧ Keep h0 h [o60] ∧ Arv Z h o61 k_o61 .int (16 : Int32) [(.int (0 : Int32)), (.int (0 : Int32)), (.int (0 : Int32)), (.int (0 : Int32)), (.int (0 : Int32)), (.int (0 : Int32)), (.int (0 : Int32)), (.int (0 : Int32)), (.int (0 : Int32)), (.int (0 : Int32)), (.int (0 : Int32)), (.int (0 : Int32)), (.int (0 : Int32)), (.int (0 : Int32)), (.int (0 : Int32)), (.int (0 : Int32))] (.int (0 : Int32)) ∧ o60 ≠ o61 ∧ h0.size ≤ o61 ∧ n0 ≤ o61) := by
  refine Met.mk (tabs := tables_1) (a0 := a0) (ls0 := #[.val (.ref o60)]) (plainFor_of_name pn_com_example_eventloom_eventloom_net_IntList) hw Z0 (fun m => by first | (simp [entryFrame, mkF, argsToLocals, Value.category]; done) | rfl) ?_
  intro p e s m below meth c T C X
  have Kp : Keep h0 h0 [o60] := Keep.refl _ _
  refine s_aloadN 1 C X d3_0 rfl rfl ?_
  refine s_objInit 4 C X d3_1 (mW 21 rfl) (mW 10 rfl) (mW 11 rfl) rfl (W := 0) rfl (by decide) (fun T X => ?_)
  refine s_aloadN 5 C X d3_4 rfl rfl ?_
  refine s_bipush 7 C X d3_5 kc_bipush_16 ?_
  refine s_newarray 9 16 C X d3_7 (mW 22 rfl) (by decide) (by decide) (fun T hh o61 k_o61 hb_o61 X E A_o61 g_o61 => ?_)
  have ne_o60_o61 : o60 ≠ o61 := Nat.ne_of_lt (Nat.lt_of_lt_of_le E_o60.lt (Nat.le_of_eq hb_o61))
  have sz_o61 : h0.size ≤ o61 := Nat.le_trans Kp.1 (Nat.le_of_eq hb_o61)
  have E_o60 := E_o60.ext E
  have F_o60_values := F_o60_values.ext E
  have F_o60_size := F_o60_size.ext E
  have Kp := Kp.ext E
  have A_o61 : Arv Z _ o61 k_o61 .int (16 : Int32) [(.int (0 : Int32)), (.int (0 : Int32)), (.int (0 : Int32)), (.int (0 : Int32)), (.int (0 : Int32)), (.int (0 : Int32)), (.int (0 : Int32)), (.int (0 : Int32)), (.int (0 : Int32)), (.int (0 : Int32)), (.int (0 : Int32)), (.int (0 : Int32)), (.int (0 : Int32)), (.int (0 : Int32)), (.int (0 : Int32)), (.int (0 : Int32))] (.int (0 : Int32)) := A_o61.pad (pad_rep [] _ 16)
  refine s_putfield 12 C X (host := "") d3_9 (Or.inl (mW 23 rfl)) Via.refl F_o60_values E_o60 (Or.inl (mW 24 rfl)) (mW 16 rfl) (ty := (.array .int)) (by decide) rfl rfl g_o60 (fun T hh X W => ?_)
  have E_o60 := E_o60.wr W
  have F_o60_values := F_o60_values.same W
  have F_o60_size := oth F_o60_size W (Or.inl (hw _ (mW 78 rfl))) (Or.inl (hw _ (mW 24 rfl))) (by decide)
  have Kp := Kp.wr W (Or.inl (by simp))
  have A_o61 := A_o61.other W (Ne.symm ne_o60_o61)
  refine s_return C X d3_12 rfl ?_
  exact ⟨o61, k_o61, rfl, E_o60, F_o60_values, F_o60_size, Kp, A_o61, ne_o60_o61, sz_o61, g_o61⟩
set_option maxRecDepth 65536 in
set_option maxHeartbeats 40000000 in
theorem rm_a64 (l : Launch) (Z : State) (a0 : Array Value) (hw : ∀ d ∈ tables_1, d.before a0 Z = true) (o60 : Addr) (o61 : Addr) (k_o61 : ClassId) (h0 : Heap) (n0 : Nat) (Z0 : n0 ≤ h0.size) (E_o60 : Exa Z h0 o60 "com/example/eventloom/eventloom/net/IntList") (F_o60_values : Fld Z h0 o60 "com/example/eventloom/eventloom/net/IntList" "values" "[I" (.ref o61)) (F_o60_size : Fld Z h0 o60 "com/example/eventloom/eventloom/net/IntList" "size" "I" (.int (0 : Int32))) (A_o61 : Arv Z h0 o61 k_o61 .int (16 : Int32) [(.int (0 : Int32)), (.int (0 : Int32)), (.int (0 : Int32)), (.int (0 : Int32)), (.int (0 : Int32)), (.int (0 : Int32)), (.int (0 : Int32)), (.int (0 : Int32)), (.int (0 : Int32)), (.int (0 : Int32)), (.int (0 : Int32)), (.int (0 : Int32)), (.int (0 : Int32)), (.int (0 : Int32)), (.int (0 : Int32)), (.int (0 : Int32))] (.int (0 : Int32))) (g_o60 : n0 ≤ o60) (g_o61 : n0 ≤ o61) (ne_o60_o61 : o60 ≠ o61) :
    Met l Z (⟨"com/example/eventloom/eventloom/net/IntList", "add", "(I)V"⟩ : MethodName) prog_85_method_5_code 2 none { frames := 0, cells := 0, slots := 0, locals := 0 } [] #[(.ref o60), (.int (-1 : Int32))] h0 n0 (fun v h => v = none ∧ Exa Z h o60 "com/example/eventloom/eventloom/net/IntList" ∧ Fld Z h o60 "com/example/eventloom/eventloom/net/IntList" "values" "[I" (.ref o61) ∧ Fld Z h o60 "com/example/eventloom/eventloom/net/IntList" "size" "I" (.int (1 : Int32)) ∧ Arv Z h o61 k_o61 .int (16 : Int32) [(.int (-1 : Int32)), (.int (0 : Int32)), (.int (0 : Int32)), (.int (0 : Int32)), (.int (0 : Int32)), (.int (0 : Int32)), (.int (0 : Int32)), (.int (0 : Int32)), (.int (0 : Int32)), (.int (0 : Int32)), (.int (0 : Int32)), (.int (0 : Int32)), (.int (0 : Int32)), (.int (0 : Int32)), (.int (0 : Int32)), (.int (0 : Int32))] (.int (0 : Int32)) ∧ Keep h0 h [o60, o61]) := by
  refine Met.mk (tabs := tables_1) (a0 := a0) (ls0 := #[.val (.ref o60), .val (.int (-1 : Int32))]) (plainFor_of_name pn_com_example_eventloom_eventloom_net_IntList) hw Z0 (fun m => by first | (simp [entryFrame, mkF, argsToLocals, Value.category]; done) | rfl) ?_
  intro p e s m below meth c T C X
  have Kp : Keep h0 h0 [o60, o61] := Keep.refl _ _
  refine s_aloadN 1 C X d13_0 rfl rfl ?_
  refine s_getfield 4 C X (host := "") d13_1 (Or.inl (mW 77 rfl)) Via.refl F_o60_size (fun T X => ?_)
  refine s_aloadN 5 C X d13_4 rfl rfl ?_
  refine s_getfield 8 C X (host := "") d13_5 (Or.inl (mW 23 rfl)) Via.refl F_o60_values (fun T X => ?_)
  refine s_arraylength 9 C X d13_8 A_o61 ?_
  refine s_icmp_ne 38 12 C X d13_9 (fun _ => ?_) (fun c => absurd c (by decide))
  refine s_aloadN 39 C X d13_38 rfl rfl ?_
  refine s_getfield 42 C X (host := "") d13_39 (Or.inl (mW 23 rfl)) Via.refl F_o60_values (fun T X => ?_)
  refine s_aloadN 43 C X d13_42 rfl rfl ?_
  refine s_dup 44 C X d13_43 rfl ?_
  refine s_getfield 47 C X (host := "") d13_44 (Or.inl (mW 77 rfl)) Via.refl F_o60_size (fun T X => ?_)
  refine s_dupX1 48 C X d13_47 rfl rfl ?_
  refine s_iconst 49 C X d13_48 kc_iconst_1 ?_
  refine s_iadd 50 C X d13_49 ?_
  refine Run.cast (st' := [(.int (1 : Int32)), (.ref o60), (.int (0 : Int32)), (.ref o61)]) (by rw [kf_7]) ?_
  refine s_putfield 53 C X (host := "") d13_50 (Or.inl (mW 77 rfl)) Via.refl F_o60_size E_o60 (Or.inl (mW 78 rfl)) (mW 16 rfl) (ty := .int) (by decide) rfl rfl g_o60 (fun T hh X W => ?_)
  have E_o60 := E_o60.wr W
  have F_o60_values := oth F_o60_values W (Or.inl (hw _ (mW 24 rfl))) (Or.inl (hw _ (mW 78 rfl))) (by decide)
  have F_o60_size := F_o60_size.same W
  have A_o61 := A_o61.other W (Ne.symm ne_o60_o61)
  have Kp := Kp.wr W (Or.inl (by simp))
  refine s_iloadN 54 C X d13_53 rfl ?_
  refine s_iastore 55 0 C X d13_54 A_o61 g_o61 ⟨by decide, by decide⟩ rfl (Nat.le_of_ble_eq_true rfl) (fun T hh X W A_o61 => ?_)
  have A_o61 : Arv Z _ o61 k_o61 .int (16 : Int32) [(.int (-1 : Int32)), (.int (0 : Int32)), (.int (0 : Int32)), (.int (0 : Int32)), (.int (0 : Int32)), (.int (0 : Int32)), (.int (0 : Int32)), (.int (0 : Int32)), (.int (0 : Int32)), (.int (0 : Int32)), (.int (0 : Int32)), (.int (0 : Int32)), (.int (0 : Int32)), (.int (0 : Int32)), (.int (0 : Int32)), (.int (0 : Int32))] (.int (0 : Int32)) := A_o61
  have E_o60 := E_o60.wr W
  have F_o60_values := F_o60_values.other W (Or.inl ne_o60_o61)
  have F_o60_size := F_o60_size.other W (Or.inl ne_o60_o61)
  have Kp := Kp.wr W (Or.inl (by simp))
  refine s_return C X d13_55 rfl ?_
  exact ⟨rfl, E_o60, F_o60_values, F_o60_size, A_o61, Kp⟩
set_option maxRecDepth 65536 in
set_option maxHeartbeats 40000000 in
theorem rm_a69 (l : Launch) (Z : State) (a0 : Array Value) (hw : ∀ d ∈ tables_1, d.before a0 Z = true) (o67 : Addr) (h0 : Heap) (n0 : Nat) (Z0 : n0 ≤ h0.size) (E_o67 : Exa Z h0 o67 "com/example/eventloom/eventloom/net/IntList") (F_o67_values : Fld Z h0 o67 "com/example/eventloom/eventloom/net/IntList" "values" "[I" .null) (F_o67_size : Fld Z h0 o67 "com/example/eventloom/eventloom/net/IntList" "size" "I" (.int (0 : Int32))) (g_o67 : n0 ≤ o67) :
    Met l Z (⟨"com/example/eventloom/eventloom/net/IntList", "<init>", "()V"⟩ : MethodName) prog_85_method_1_code 1 none { frames := 1, cells := 1, slots := 16, locals := 12 } [] #[(.ref o67)] h0 n0 (fun v h => ∃ (o68 : Addr) (k_o68 : ClassId), v = none ∧ Exa Z h o67 "com/example/eventloom/eventloom/net/IntList" ∧ Fld Z h o67 "com/example/eventloom/eventloom/net/IntList" "values" "[I" (.ref o68) ∧ Fld Z h o67 "com/example/eventloom/eventloom/net/IntList" "size" "I" (.int (0 : Int32)) ∧ Keep h0 h [o67] ∧ Arv Z h o68 k_o68 .int (16 : Int32) [(.int (0 : Int32)), (.int (0 : Int32)), (.int (0 : Int32)), (.int (0 : Int32)), (.int (0 : Int32)), (.int (0 : Int32)), (.int (0 : Int32)), (.int (0 : Int32)), (.int (0 : Int32)), (.int (0 : Int32)), (.int (0 : Int32)), (.int (0 : Int32)), (.int (0 : Int32)), (.int (0 : Int32)), (.int (0 : Int32)), (.int (0 : Int32))] (.int (0 : Int32)) ∧ o67 ≠ o68 ∧ h0.size ≤ o68 ∧ n0 ≤ o68) := by
  refine Met.mk (tabs := tables_1) (a0 := a0) (ls0 := #[.val (.ref o67)]) (plainFor_of_name pn_com_example_eventloom_eventloom_net_IntList) hw Z0 (fun m => by first | (simp [entryFrame, mkF, argsToLocals, Value.category]; done) | rfl) ?_
  intro p e s m below meth c T C X
  have Kp : Keep h0 h0 [o67] := Keep.refl _ _
  refine s_aloadN 1 C X d3_0 rfl rfl ?_
  refine s_objInit 4 C X d3_1 (mW 21 rfl) (mW 10 rfl) (mW 11 rfl) rfl (W := 0) rfl (by decide) (fun T X => ?_)
  refine s_aloadN 5 C X d3_4 rfl rfl ?_
  refine s_bipush 7 C X d3_5 kc_bipush_16 ?_
  refine s_newarray 9 16 C X d3_7 (mW 22 rfl) (by decide) (by decide) (fun T hh o68 k_o68 hb_o68 X E A_o68 g_o68 => ?_)
  have ne_o67_o68 : o67 ≠ o68 := Nat.ne_of_lt (Nat.lt_of_lt_of_le E_o67.lt (Nat.le_of_eq hb_o68))
  have sz_o68 : h0.size ≤ o68 := Nat.le_trans Kp.1 (Nat.le_of_eq hb_o68)
  have E_o67 := E_o67.ext E
  have F_o67_values := F_o67_values.ext E
  have F_o67_size := F_o67_size.ext E
  have Kp := Kp.ext E
  have A_o68 : Arv Z _ o68 k_o68 .int (16 : Int32) [(.int (0 : Int32)), (.int (0 : Int32)), (.int (0 : Int32)), (.int (0 : Int32)), (.int (0 : Int32)), (.int (0 : Int32)), (.int (0 : Int32)), (.int (0 : Int32)), (.int (0 : Int32)), (.int (0 : Int32)), (.int (0 : Int32)), (.int (0 : Int32)), (.int (0 : Int32)), (.int (0 : Int32)), (.int (0 : Int32)), (.int (0 : Int32))] (.int (0 : Int32)) := A_o68.pad (pad_rep [] _ 16)
  refine s_putfield 12 C X (host := "") d3_9 (Or.inl (mW 23 rfl)) Via.refl F_o67_values E_o67 (Or.inl (mW 24 rfl)) (mW 16 rfl) (ty := (.array .int)) (by decide) rfl rfl g_o67 (fun T hh X W => ?_)
  have E_o67 := E_o67.wr W
  have F_o67_values := F_o67_values.same W
  have F_o67_size := oth F_o67_size W (Or.inl (hw _ (mW 78 rfl))) (Or.inl (hw _ (mW 24 rfl))) (by decide)
  have Kp := Kp.wr W (Or.inl (by simp))
  have A_o68 := A_o68.other W (Ne.symm ne_o67_o68)
  refine s_return C X d3_12 rfl ?_
  exact ⟨o68, k_o68, rfl, E_o67, F_o67_values, F_o67_size, Kp, A_o68, ne_o67_o68, sz_o68, g_o68⟩
set_option maxRecDepth 65536 in
set_option maxHeartbeats 40000000 in
theorem rm_a72 (l : Launch) (Z : State) (a0 : Array Value) (hw : ∀ d ∈ tables_1, d.before a0 Z = true) (o70 : Addr) (h0 : Heap) (n0 : Nat) (Z0 : n0 ≤ h0.size) (E_o70 : Exa Z h0 o70 "com/example/eventloom/eventloom/verification/IntBlockList") (F_o70_blocks : Fld Z h0 o70 "com/example/eventloom/eventloom/verification/IntBlockList" "blocks" "[[I" .null) (F_o70_size : Fld Z h0 o70 "com/example/eventloom/eventloom/verification/IntBlockList" "size" "I" (.int (0 : Int32))) (g_o70 : n0 ≤ o70) :
    Met l Z (⟨"com/example/eventloom/eventloom/verification/IntBlockList", "<init>", "()V"⟩ : MethodName) prog_119_method_1_code 1 none { frames := 1, cells := 1, slots := 1, locals := 12 } [] #[(.ref o70)] h0 n0 (fun v h => ∃ (o71 : Addr) (k_o71 : ClassId), v = none ∧ Exa Z h o70 "com/example/eventloom/eventloom/verification/IntBlockList" ∧ Fld Z h o70 "com/example/eventloom/eventloom/verification/IntBlockList" "blocks" "[[I" (.ref o71) ∧ Fld Z h o70 "com/example/eventloom/eventloom/verification/IntBlockList" "size" "I" (.int (0 : Int32)) ∧ Keep h0 h [o70] ∧ Exa Z h o71 "[[I" ∧ Arv Z h o71 k_o71 (.array .int) (1 : Int32) [.null] .null ∧ o70 ≠ o71 ∧ h0.size ≤ o71 ∧ n0 ≤ o71 ∧ OvrA Z k_o71 .int "[I") := by
  refine Met.mk (tabs := tables_1) (a0 := a0) (ls0 := #[.val (.ref o70)]) (plainFor_of_name pn_com_example_eventloom_eventloom_verification_IntBlockList) hw Z0 (fun m => by first | (simp [entryFrame, mkF, argsToLocals, Value.category]; done) | rfl) ?_
  intro p e s m below meth c T C X
  have Kp : Keep h0 h0 [o70] := Keep.refl _ _
  refine s_aloadN 1 C X d15_0 rfl rfl ?_
  refine s_objInit 4 C X d15_1 (mW 113 rfl) (mW 10 rfl) (mW 11 rfl) rfl (W := 0) rfl (by decide) (fun T X => ?_)
  refine s_aloadN 5 C X d15_4 rfl rfl ?_
  refine s_iconst 6 C X d15_5 kc_iconst_1 ?_
  refine s_anewarrayA 9 1 "[[I" C X d15_6 (ty := .int) rfl (mW 114 rfl) (mW 115 rfl) (by decide) (by decide) rfl (fun T hh o71 k_o71 hb_o71 X E A_o71 E_o71 O_o71 g_o71 => ?_)
  have ne_o70_o71 : o70 ≠ o71 := Nat.ne_of_lt (Nat.lt_of_lt_of_le E_o70.lt (Nat.le_of_eq hb_o71))
  have sz_o71 : h0.size ≤ o71 := Nat.le_trans Kp.1 (Nat.le_of_eq hb_o71)
  have E_o70 := E_o70.ext E
  have F_o70_blocks := F_o70_blocks.ext E
  have F_o70_size := F_o70_size.ext E
  have Kp := Kp.ext E
  have A_o71 : Arv Z _ o71 k_o71 (.array .int) (1 : Int32) [.null] .null := A_o71.pad (pad_rep [] _ 1)
  refine s_putfield 12 C X (host := "") d15_9 (Or.inl (mW 116 rfl)) Via.refl F_o70_blocks E_o70 (Or.inl (mW 117 rfl)) (mW 108 rfl) (ty := (.array (.array .int))) (by decide) rfl rfl g_o70 (fun T hh X W => ?_)
  have E_o70 := E_o70.wr W
  have F_o70_blocks := F_o70_blocks.same W
  have F_o70_size := oth F_o70_size W (Or.inl (hw _ (mW 196 rfl))) (Or.inl (hw _ (mW 117 rfl))) (by decide)
  have Kp := Kp.wr W (Or.inl (by simp))
  have E_o71 := E_o71.wr W
  have A_o71 := A_o71.other W (Ne.symm ne_o70_o71)
  refine s_return C X d15_12 rfl ?_
  exact ⟨o71, k_o71, rfl, E_o70, F_o70_blocks, F_o70_size, Kp, E_o71, A_o71, ne_o70_o71, sz_o71, g_o71, O_o71⟩
set_option maxRecDepth 65536 in
set_option maxHeartbeats 40000000 in
theorem rm_a75 (l : Launch) (Z : State) (a0 : Array Value) (hw : ∀ d ∈ tables_1, d.before a0 Z = true) (o73 : Addr) (h0 : Heap) (n0 : Nat) (Z0 : n0 ≤ h0.size) (E_o73 : Exa Z h0 o73 "com/example/eventloom/eventloom/net/IntList") (F_o73_values : Fld Z h0 o73 "com/example/eventloom/eventloom/net/IntList" "values" "[I" .null) (F_o73_size : Fld Z h0 o73 "com/example/eventloom/eventloom/net/IntList" "size" "I" (.int (0 : Int32))) (g_o73 : n0 ≤ o73) :
    Met l Z (⟨"com/example/eventloom/eventloom/net/IntList", "<init>", "()V"⟩ : MethodName) prog_85_method_1_code 1 none { frames := 1, cells := 1, slots := 16, locals := 12 } [] #[(.ref o73)] h0 n0 (fun v h => ∃ (o74 : Addr) (k_o74 : ClassId), v = none ∧ Exa Z h o73 "com/example/eventloom/eventloom/net/IntList" ∧ Fld Z h o73 "com/example/eventloom/eventloom/net/IntList" "values" "[I" (.ref o74) ∧ Fld Z h o73 "com/example/eventloom/eventloom/net/IntList" "size" "I" (.int (0 : Int32)) ∧ Keep h0 h [o73] ∧ Arv Z h o74 k_o74 .int (16 : Int32) [(.int (0 : Int32)), (.int (0 : Int32)), (.int (0 : Int32)), (.int (0 : Int32)), (.int (0 : Int32)), (.int (0 : Int32)), (.int (0 : Int32)), (.int (0 : Int32)), (.int (0 : Int32)), (.int (0 : Int32)), (.int (0 : Int32)), (.int (0 : Int32)), (.int (0 : Int32)), (.int (0 : Int32)), (.int (0 : Int32)), (.int (0 : Int32))] (.int (0 : Int32)) ∧ o73 ≠ o74 ∧ h0.size ≤ o74 ∧ n0 ≤ o74) := by
  refine Met.mk (tabs := tables_1) (a0 := a0) (ls0 := #[.val (.ref o73)]) (plainFor_of_name pn_com_example_eventloom_eventloom_net_IntList) hw Z0 (fun m => by first | (simp [entryFrame, mkF, argsToLocals, Value.category]; done) | rfl) ?_
  intro p e s m below meth c T C X
  have Kp : Keep h0 h0 [o73] := Keep.refl _ _
  refine s_aloadN 1 C X d3_0 rfl rfl ?_
  refine s_objInit 4 C X d3_1 (mW 21 rfl) (mW 10 rfl) (mW 11 rfl) rfl (W := 0) rfl (by decide) (fun T X => ?_)
  refine s_aloadN 5 C X d3_4 rfl rfl ?_
  refine s_bipush 7 C X d3_5 kc_bipush_16 ?_
  refine s_newarray 9 16 C X d3_7 (mW 22 rfl) (by decide) (by decide) (fun T hh o74 k_o74 hb_o74 X E A_o74 g_o74 => ?_)
  have ne_o73_o74 : o73 ≠ o74 := Nat.ne_of_lt (Nat.lt_of_lt_of_le E_o73.lt (Nat.le_of_eq hb_o74))
  have sz_o74 : h0.size ≤ o74 := Nat.le_trans Kp.1 (Nat.le_of_eq hb_o74)
  have E_o73 := E_o73.ext E
  have F_o73_values := F_o73_values.ext E
  have F_o73_size := F_o73_size.ext E
  have Kp := Kp.ext E
  have A_o74 : Arv Z _ o74 k_o74 .int (16 : Int32) [(.int (0 : Int32)), (.int (0 : Int32)), (.int (0 : Int32)), (.int (0 : Int32)), (.int (0 : Int32)), (.int (0 : Int32)), (.int (0 : Int32)), (.int (0 : Int32)), (.int (0 : Int32)), (.int (0 : Int32)), (.int (0 : Int32)), (.int (0 : Int32)), (.int (0 : Int32)), (.int (0 : Int32)), (.int (0 : Int32)), (.int (0 : Int32))] (.int (0 : Int32)) := A_o74.pad (pad_rep [] _ 16)
  refine s_putfield 12 C X (host := "") d3_9 (Or.inl (mW 23 rfl)) Via.refl F_o73_values E_o73 (Or.inl (mW 24 rfl)) (mW 16 rfl) (ty := (.array .int)) (by decide) rfl rfl g_o73 (fun T hh X W => ?_)
  have E_o73 := E_o73.wr W
  have F_o73_values := F_o73_values.same W
  have F_o73_size := oth F_o73_size W (Or.inl (hw _ (mW 78 rfl))) (Or.inl (hw _ (mW 24 rfl))) (by decide)
  have Kp := Kp.wr W (Or.inl (by simp))
  have A_o74 := A_o74.other W (Ne.symm ne_o73_o74)
  refine s_return C X d3_12 rfl ?_
  exact ⟨o74, k_o74, rfl, E_o73, F_o73_values, F_o73_size, Kp, A_o74, ne_o73_o74, sz_o74, g_o74⟩
set_option maxRecDepth 65536 in
set_option maxHeartbeats 40000000 in
theorem rm_a82 (l : Launch) (Z : State) (a0 : Array Value) (hw : ∀ d ∈ tables_1, d.before a0 Z = true) (x0 : Int32) (o3 : Addr) (o60 : Addr) (o65 : Addr) (h0 : Heap) (n0 : Nat) (Z0 : n0 ≤ h0.size) (E_o65 : Exa Z h0 o65 "com/example/eventloom/eventloom/verification/CoverSearch") (F_o65_tokens : Fld Z h0 o65 "com/example/eventloom/eventloom/verification/CoverSearch" "tokens" "[J" .null) (F_o65_nearestFewer : Fld Z h0 o65 "com/example/eventloom/eventloom/verification/CoverSearch" "nearestFewer" "Lcom/example/eventloom/eventloom/net/IntList;" .null) (F_o65_nearestUnmarked : Fld Z h0 o65 "com/example/eventloom/eventloom/verification/CoverSearch" "nearestUnmarked" "Lcom/example/eventloom/eventloom/verification/IntBlockList;" .null) (F_o65_firstNearestUnmarked : Fld Z h0 o65 "com/example/eventloom/eventloom/verification/CoverSearch" "firstNearestUnmarked" "Lcom/example/eventloom/eventloom/net/IntList;" .null) (F_o65_markings : Fld Z h0 o65 "com/example/eventloom/eventloom/verification/CoverSearch" "markings" "Lcom/example/eventloom/eventloom/net/MarkingStore;" .null) (F_o65_parents : Fld Z h0 o65 "com/example/eventloom/eventloom/verification/CoverSearch" "parents" "Lcom/example/eventloom/eventloom/net/IntList;" .null) (F_o65_stepsPerMarking : Fld Z h0 o65 "com/example/eventloom/eventloom/verification/CoverSearch" "stepsPerMarking" "I" (.int (0 : Int32))) (F_o65_searchedMarking : Fld Z h0 o65 "com/example/eventloom/eventloom/verification/CoverSearch" "searchedMarking" "[J" .null) (F_o65_searchedPlaces : Fld Z h0 o65 "com/example/eventloom/eventloom/verification/CoverSearch" "searchedPlaces" "[I" .null) (F_o65_searchedTokens : Fld Z h0 o65 "com/example/eventloom/eventloom/verification/CoverSearch" "searchedTokens" "[J" .null) (F_o65_parentPlaces : Fld Z h0 o65 "com/example/eventloom/eventloom/verification/CoverSearch" "parentPlaces" "[I" .null) (F_o65_parentTokens : Fld Z h0 o65 "com/example/eventloom/eventloom/verification/CoverSearch" "parentTokens" "[J" .null) (F_o65_unmarkedRanks : Fld Z h0 o65 "com/example/eventloom/eventloom/verification/CoverSearch" "unmarkedRanks" "[I" .null) (F_o65_searched : Fld Z h0 o65 "com/example/eventloom/eventloom/verification/CoverSearch" "searched" "I" (.int (0 : Int32))) (F_o65_steps : Fld Z h0 o65 "com/example/eventloom/eventloom/verification/CoverSearch" "steps" "J" (.long (0 : Int64))) (g_o65 : n0 ≤ o65) :
    Met l Z (⟨"com/example/eventloom/eventloom/verification/CoverSearch", "<init>", "(Lcom/example/eventloom/eventloom/net/MarkingStore;Lcom/example/eventloom/eventloom/net/IntList;II)V"⟩ : MethodName) prog_117_method_1_code 5 none { frames := 2, cells := 13, slots := 61, locals := 26 } [] #[(.ref o65), (.ref o3), (.ref o60), (.int (1 : Int32)), (.int x0)] h0 n0 (fun v h => ∃ (o66 : Addr) (o67 : Addr) (k_o66 : ClassId) (o68 : Addr) (k_o68 : ClassId) (o70 : Addr) (o71 : Addr) (k_o71 : ClassId) (o73 : Addr) (o74 : Addr) (k_o74 : ClassId) (o76 : Addr) (o77 : Addr) (o78 : Addr) (o79 : Addr) (o80 : Addr) (o81 : Addr) (k_o76 : ClassId) (k_o77 : ClassId) (k_o78 : ClassId) (k_o79 : ClassId) (k_o80 : ClassId) (k_o81 : ClassId), v = none ∧ Exa Z h o65 "com/example/eventloom/eventloom/verification/CoverSearch" ∧ Fld Z h o65 "com/example/eventloom/eventloom/verification/CoverSearch" "tokens" "[J" (.ref o66) ∧ Fld Z h o65 "com/example/eventloom/eventloom/verification/CoverSearch" "nearestFewer" "Lcom/example/eventloom/eventloom/net/IntList;" (.ref o67) ∧ Fld Z h o65 "com/example/eventloom/eventloom/verification/CoverSearch" "nearestUnmarked" "Lcom/example/eventloom/eventloom/verification/IntBlockList;" (.ref o70) ∧ Fld Z h o65 "com/example/eventloom/eventloom/verification/CoverSearch" "firstNearestUnmarked" "Lcom/example/eventloom/eventloom/net/IntList;" (.ref o73) ∧ Fld Z h o65 "com/example/eventloom/eventloom/verification/CoverSearch" "markings" "Lcom/example/eventloom/eventloom/net/MarkingStore;" (.ref o3) ∧ Fld Z h o65 "com/example/eventloom/eventloom/verification/CoverSearch" "parents" "Lcom/example/eventloom/eventloom/net/IntList;" (.ref o60) ∧ Fld Z h o65 "com/example/eventloom/eventloom/verification/CoverSearch" "stepsPerMarking" "I" (.int x0) ∧ Fld Z h o65 "com/example/eventloom/eventloom/verification/CoverSearch" "searchedMarking" "[J" (.ref o76) ∧ Fld Z h o65 "com/example/eventloom/eventloom/verification/CoverSearch" "searchedPlaces" "[I" (.ref o77) ∧ Fld Z h o65 "com/example/eventloom/eventloom/verification/CoverSearch" "searchedTokens" "[J" (.ref o78) ∧ Fld Z h o65 "com/example/eventloom/eventloom/verification/CoverSearch" "parentPlaces" "[I" (.ref o79) ∧ Fld Z h o65 "com/example/eventloom/eventloom/verification/CoverSearch" "parentTokens" "[J" (.ref o80) ∧ Fld Z h o65 "com/example/eventloom/eventloom/verification/CoverSearch" "unmarkedRanks" "[I" (.ref o81) ∧ Fld Z h o65 "com/example/eventloom/eventloom/verification/CoverSearch" "searched" "I" (.int (0 : Int32)) ∧ Fld Z h o65 "com/example/eventloom/eventloom/verification/CoverSearch" "steps" "J" (.long (0 : Int64)) ∧ Keep h0 h [o65] ∧ Arv Z h o66 k_o66 .long (16 : Int32) [(.long (0 : Int64)), (.long (0 : Int64)), (.long (0 : Int64)), (.long (0 : Int64)), (.long (0 : Int64)), (.long (0 : Int64)), (.long (0 : Int64)), (.long (0 : Int64)), (.long (0 : Int64)), (.long (0 : Int64)), (.long (0 : Int64)), (.long (0 : Int64)), (.long (0 : Int64)), (.long (0 : Int64)), (.long (0 : Int64)), (.long (0 : Int64))] (.long (0 : Int64)) ∧ Exa Z h o67 "com/example/eventloom/eventloom/net/IntList" ∧ Fld Z h o67 "com/example/eventloom/eventloom/net/IntList" "values" "[I" (.ref o68) ∧ Fld Z h o67 "com/example/eventloom/eventloom/net/IntList" "size" "I" (.int (0 : Int32)) ∧ Arv Z h o68 k_o68 .int (16 : Int32) [(.int (0 : Int32)), (.int (0 : Int32)), (.int (0 : Int32)), (.int (0 : Int32)), (.int (0 : Int32)), (.int (0 : Int32)), (.int (0 : Int32)), (.int (0 : Int32)), (.int (0 : Int32)), (.int (0 : Int32)), (.int (0 : Int32)), (.int (0 : Int32)), (.int (0 : Int32)), (.int (0 : Int32)), (.int (0 : Int32)), (.int (0 : Int32))] (.int (0 : Int32)) ∧ Exa Z h o70 "com/example/eventloom/eventloom/verification/IntBlockList" ∧ Fld Z h o70 "com/example/eventloom/eventloom/verification/IntBlockList" "blocks" "[[I" (.ref o71) ∧ Fld Z h o70 "com/example/eventloom/eventloom/verification/IntBlockList" "size" "I" (.int (0 : Int32)) ∧ Exa Z h o71 "[[I" ∧ Arv Z h o71 k_o71 (.array .int) (1 : Int32) [.null] .null ∧ Exa Z h o73 "com/example/eventloom/eventloom/net/IntList" ∧ Fld Z h o73 "com/example/eventloom/eventloom/net/IntList" "values" "[I" (.ref o74) ∧ Fld Z h o73 "com/example/eventloom/eventloom/net/IntList" "size" "I" (.int (0 : Int32)) ∧ Arv Z h o74 k_o74 .int (16 : Int32) [(.int (0 : Int32)), (.int (0 : Int32)), (.int (0 : Int32)), (.int (0 : Int32)), (.int (0 : Int32)), (.int (0 : Int32)), (.int (0 : Int32)), (.int (0 : Int32)), (.int (0 : Int32)), (.int (0 : Int32)), (.int (0 : Int32)), (.int (0 : Int32)), (.int (0 : Int32)), (.int (0 : Int32)), (.int (0 : Int32)), (.int (0 : Int32))] (.int (0 : Int32)) ∧ Arv Z h o76 k_o76 .long (1 : Int32) [(.long (0 : Int64))] (.long (0 : Int64)) ∧ Arv Z h o77 k_o77 .int (1 : Int32) [(.int (0 : Int32))] (.int (0 : Int32)) ∧ Arv Z h o78 k_o78 .long (1 : Int32) [(.long (0 : Int64))] (.long (0 : Int64)) ∧ Arv Z h o79 k_o79 .int (1 : Int32) [(.int (0 : Int32))] (.int (0 : Int32)) ∧ Arv Z h o80 k_o80 .long (1 : Int32) [(.long (0 : Int64))] (.long (0 : Int64)) ∧ Arv Z h o81 k_o81 .int (1 : Int32) [(.int (0 : Int32))] (.int (0 : Int32)) ∧ o65 ≠ o66 ∧ h0.size ≤ o66 ∧ n0 ≤ o66 ∧ o65 ≠ o67 ∧ h0.size ≤ o67 ∧ o66 ≠ o67 ∧ n0 ≤ o67 ∧ o65 ≠ o68 ∧ o66 ≠ o68 ∧ h0.size ≤ o68 ∧ n0 ≤ o68 ∧ o67 ≠ o68 ∧ o65 ≠ o70 ∧ h0.size ≤ o70 ∧ o66 ≠ o70 ∧ o67 ≠ o70 ∧ o68 ≠ o70 ∧ n0 ≤ o70 ∧ o65 ≠ o71 ∧ o66 ≠ o71 ∧ o67 ≠ o71 ∧ o68 ≠ o71 ∧ h0.size ≤ o71 ∧ n0 ≤ o71 ∧ o70 ≠ o71 ∧ OvrA Z k_o71 .int "[I" ∧ o65 ≠ o73 ∧ h0.size ≤ o73 ∧ o66 ≠ o73 ∧ o67 ≠ o73 ∧ o68 ≠ o73 ∧ o70 ≠ o73 ∧ o71 ≠ o73 ∧ n0 ≤ o73 ∧ o65 ≠ o74 ∧ o66 ≠ o74 ∧ o67 ≠ o74 ∧ o68 ≠ o74 ∧ o70 ≠ o74 ∧ o71 ≠ o74 ∧ h0.size ≤ o74 ∧ n0 ≤ o74 ∧ o73 ≠ o74 ∧ o65 ≠ o76 ∧ h0.size ≤ o76 ∧ o66 ≠ o76 ∧ o67 ≠ o76 ∧ o68 ≠ o76 ∧ o70 ≠ o76 ∧ o71 ≠ o76 ∧ o73 ≠ o76 ∧ o74 ≠ o76 ∧ n0 ≤ o76 ∧ o65 ≠ o77 ∧ h0.size ≤ o77 ∧ o66 ≠ o77 ∧ o67 ≠ o77 ∧ o68 ≠ o77 ∧ o70 ≠ o77 ∧ o71 ≠ o77 ∧ o73 ≠ o77 ∧ o74 ≠ o77 ∧ o76 ≠ o77 ∧ n0 ≤ o77 ∧ o65 ≠ o78 ∧ h0.size ≤ o78 ∧ o66 ≠ o78 ∧ o67 ≠ o78 ∧ o68 ≠ o78 ∧ o70 ≠ o78 ∧ o71 ≠ o78 ∧ o73 ≠ o78 ∧ o74 ≠ o78 ∧ o76 ≠ o78 ∧ o77 ≠ o78 ∧ n0 ≤ o78 ∧ o65 ≠ o79 ∧ h0.size ≤ o79 ∧ o66 ≠ o79 ∧ o67 ≠ o79 ∧ o68 ≠ o79 ∧ o70 ≠ o79 ∧ o71 ≠ o79 ∧ o73 ≠ o79 ∧ o74 ≠ o79 ∧ o76 ≠ o79 ∧ o77 ≠ o79 ∧ o78 ≠ o79 ∧ n0 ≤ o79 ∧ o65 ≠ o80 ∧ h0.size ≤ o80 ∧ o66 ≠ o80 ∧ o67 ≠ o80 ∧ o68 ≠ o80 ∧ o70 ≠ o80 ∧ o71 ≠ o80 ∧ o73 ≠ o80 ∧ o74 ≠ o80 ∧ o76 ≠ o80 ∧ o77 ≠ o80 ∧ o78 ≠ o80 ∧ o79 ≠ o80 ∧ n0 ≤ o80 ∧ o65 ≠ o81 ∧ h0.size ≤ o81 ∧ o66 ≠ o81 ∧ o67 ≠ o81 ∧ o68 ≠ o81 ∧ o70 ≠ o81 ∧ o71 ≠ o81 ∧ o73 ≠ o81 ∧ o74 ≠ o81 ∧ o76 ≠ o81 ∧ o77 ≠ o81 ∧ o78 ≠ o81 ∧ o79 ≠ o81 ∧ o80 ≠ o81 ∧ n0 ≤ o81) := by
  refine Met.mk (tabs := tables_1) (a0 := a0) (ls0 := #[.val (.ref o65), .val (.ref o3), .val (.ref o60), .val (.int (1 : Int32)), .val (.int x0)]) (plainFor_of_name pn_com_example_eventloom_eventloom_verification_CoverSearch) hw Z0 (fun m => by first | (simp [entryFrame, mkF, argsToLocals, Value.category]; done) | rfl) ?_
  intro p e s m below meth c T C X
  have Kp : Keep h0 h0 [o65] := Keep.refl _ _
  refine s_aloadN 1 C X d14_0 rfl rfl ?_
  refine s_objInit 4 C X d14_1 (mW 100 rfl) (mW 10 rfl) (mW 11 rfl) rfl (W := 0) rfl (by decide) (fun T X => ?_)
  refine s_aloadN 5 C X d14_4 rfl rfl ?_
  refine s_bipush 7 C X d14_5 kc_bipush_16 ?_
  refine s_newarray 9 16 C X d14_7 (mW 0 rfl) (by decide) (by decide) (fun T hh o66 k_o66 hb_o66 X E A_o66 g_o66 => ?_)
  have ne_o65_o66 : o65 ≠ o66 := Nat.ne_of_lt (Nat.lt_of_lt_of_le E_o65.lt (Nat.le_of_eq hb_o66))
  have sz_o66 : h0.size ≤ o66 := Nat.le_trans Kp.1 (Nat.le_of_eq hb_o66)
  have E_o65 := E_o65.ext E
  have F_o65_tokens := F_o65_tokens.ext E
  have F_o65_nearestFewer := F_o65_nearestFewer.ext E
  have F_o65_nearestUnmarked := F_o65_nearestUnmarked.ext E
  have F_o65_firstNearestUnmarked := F_o65_firstNearestUnmarked.ext E
  have F_o65_markings := F_o65_markings.ext E
  have F_o65_parents := F_o65_parents.ext E
  have F_o65_stepsPerMarking := F_o65_stepsPerMarking.ext E
  have F_o65_searchedMarking := F_o65_searchedMarking.ext E
  have F_o65_searchedPlaces := F_o65_searchedPlaces.ext E
  have F_o65_searchedTokens := F_o65_searchedTokens.ext E
  have F_o65_parentPlaces := F_o65_parentPlaces.ext E
  have F_o65_parentTokens := F_o65_parentTokens.ext E
  have F_o65_unmarkedRanks := F_o65_unmarkedRanks.ext E
  have F_o65_searched := F_o65_searched.ext E
  have F_o65_steps := F_o65_steps.ext E
  have Kp := Kp.ext E
  have A_o66 : Arv Z _ o66 k_o66 .long (16 : Int32) [(.long (0 : Int64)), (.long (0 : Int64)), (.long (0 : Int64)), (.long (0 : Int64)), (.long (0 : Int64)), (.long (0 : Int64)), (.long (0 : Int64)), (.long (0 : Int64)), (.long (0 : Int64)), (.long (0 : Int64)), (.long (0 : Int64)), (.long (0 : Int64)), (.long (0 : Int64)), (.long (0 : Int64)), (.long (0 : Int64)), (.long (0 : Int64))] (.long (0 : Int64)) := A_o66.pad (pad_rep [] _ 16)
  refine s_putfield 12 C X (host := "") d14_9 (Or.inl (mW 101 rfl)) Via.refl F_o65_tokens E_o65 (Or.inl (mW 102 rfl)) (mW 95 rfl) (ty := (.array .long)) (by decide) rfl rfl g_o65 (fun T hh X W => ?_)
  have E_o65 := E_o65.wr W
  have F_o65_tokens := F_o65_tokens.same W
  have F_o65_nearestFewer := oth F_o65_nearestFewer W (Or.inr (hw _ (mW 106 rfl))) (Or.inl (hw _ (mW 102 rfl))) (by decide)
  have F_o65_nearestUnmarked := oth F_o65_nearestUnmarked W (Or.inr (hw _ (mW 119 rfl))) (Or.inl (hw _ (mW 102 rfl))) (by decide)
  have F_o65_firstNearestUnmarked := oth F_o65_firstNearestUnmarked W (Or.inr (hw _ (mW 121 rfl))) (Or.inl (hw _ (mW 102 rfl))) (by decide)
  have F_o65_markings := oth F_o65_markings W (Or.inr (hw _ (mW 123 rfl))) (Or.inl (hw _ (mW 102 rfl))) (by decide)
  have F_o65_parents := oth F_o65_parents W (Or.inr (hw _ (mW 125 rfl))) (Or.inl (hw _ (mW 102 rfl))) (by decide)
  have F_o65_stepsPerMarking := oth F_o65_stepsPerMarking W (Or.inr (hw _ (mW 127 rfl))) (Or.inl (hw _ (mW 102 rfl))) (by decide)
  have F_o65_searchedMarking := oth F_o65_searchedMarking W (Or.inr (hw _ (mW 129 rfl))) (Or.inl (hw _ (mW 102 rfl))) (by decide)
  have F_o65_searchedPlaces := oth F_o65_searchedPlaces W (Or.inr (hw _ (mW 131 rfl))) (Or.inl (hw _ (mW 102 rfl))) (by decide)
  have F_o65_searchedTokens := oth F_o65_searchedTokens W (Or.inr (hw _ (mW 133 rfl))) (Or.inl (hw _ (mW 102 rfl))) (by decide)
  have F_o65_parentPlaces := oth F_o65_parentPlaces W (Or.inr (hw _ (mW 135 rfl))) (Or.inl (hw _ (mW 102 rfl))) (by decide)
  have F_o65_parentTokens := oth F_o65_parentTokens W (Or.inr (hw _ (mW 137 rfl))) (Or.inl (hw _ (mW 102 rfl))) (by decide)
  have F_o65_unmarkedRanks := oth F_o65_unmarkedRanks W (Or.inr (hw _ (mW 139 rfl))) (Or.inl (hw _ (mW 102 rfl))) (by decide)
  have F_o65_searched := oth F_o65_searched W (Or.inl (hw _ (mW 146 rfl))) (Or.inl (hw _ (mW 102 rfl))) (by decide)
  have F_o65_steps := oth F_o65_steps W (Or.inl (hw _ (mW 149 rfl))) (Or.inl (hw _ (mW 102 rfl))) (by decide)
  have Kp := Kp.wr W (Or.inl (by simp))
  have A_o66 := A_o66.other W (Ne.symm ne_o65_o66)
  refine s_aloadN 13 C X d14_12 rfl rfl ?_
  refine s_new 16 C X d14_13 (mW 103 rfl) (mW 16 rfl) (mW 17 rfl) (fun T hh o67 hb_o67 X E E_o67 D g_o67 => ?_)
  have ne_o65_o67 : o65 ≠ o67 := Nat.ne_of_lt (Nat.lt_of_lt_of_le E_o65.lt (Nat.le_of_eq hb_o67))
  have sz_o67 : h0.size ≤ o67 := Nat.le_trans Kp.1 (Nat.le_of_eq hb_o67)
  have ne_o66_o67 : o66 ≠ o67 := Nat.ne_of_lt (Nat.lt_of_lt_of_le A_o66.lt (Nat.le_of_eq hb_o67))
  have E_o65 := E_o65.ext E
  have F_o65_tokens := F_o65_tokens.ext E
  have F_o65_nearestFewer := F_o65_nearestFewer.ext E
  have F_o65_nearestUnmarked := F_o65_nearestUnmarked.ext E
  have F_o65_firstNearestUnmarked := F_o65_firstNearestUnmarked.ext E
  have F_o65_markings := F_o65_markings.ext E
  have F_o65_parents := F_o65_parents.ext E
  have F_o65_stepsPerMarking := F_o65_stepsPerMarking.ext E
  have F_o65_searchedMarking := F_o65_searchedMarking.ext E
  have F_o65_searchedPlaces := F_o65_searchedPlaces.ext E
  have F_o65_searchedTokens := F_o65_searchedTokens.ext E
  have F_o65_parentPlaces := F_o65_parentPlaces.ext E
  have F_o65_parentTokens := F_o65_parentTokens.ext E
  have F_o65_unmarkedRanks := F_o65_unmarkedRanks.ext E
  have F_o65_searched := F_o65_searched.ext E
  have F_o65_steps := F_o65_steps.ext E
  have Kp := Kp.ext E
  have A_o66 := A_o66.ext E
  have F_o67_values : Fld Z _ o67 "com/example/eventloom/eventloom/net/IntList" "values" "[I" .null := D (Or.inl (hw _ (mW 24 rfl))) (ty := (.array .int)) (by decide)
  have F_o67_size : Fld Z _ o67 "com/example/eventloom/eventloom/net/IntList" "size" "I" (.int (0 : Int32)) := D (Or.inl (hw _ (mW 78 rfl))) (ty := .int) (by decide)
  refine s_dup 17 C X d14_16 rfl ?_
  refine s_callC 20 [] [(.ref o67), (.ref o65)] 2 C X d14_17 rfl (mW 104 rfl) (mW 19 rfl) (mW 17 rfl) (mW 20 rfl) (rm_a69 l Z a0 hw o67 _ n0 X.sz E_o67 F_o67_values F_o67_size g_o67) (lenOf pd___V rfl) rfl rfl rfl (fun T v hh X q => ?_)
  obtain ⟨o68, k_o68, rfl, E_o67, F_o67_values, F_o67_size, Kc, A_o68, ne_o67_o68, sz_o68', g_o68⟩ := q
  have ne_o65_o68 : o65 ≠ o68 := Nat.ne_of_lt (Nat.lt_of_lt_of_le E_o65.lt sz_o68')
  have ne_o66_o68 : o66 ≠ o68 := Nat.ne_of_lt (Nat.lt_of_lt_of_le A_o66.lt sz_o68')
  have sz_o68 : h0.size ≤ o68 := Nat.le_trans Kp.1 sz_o68'
  have E_o65 := E_o65.keep Kc
  have F_o65_tokens := F_o65_tokens.keep Kc (ninS ne_o65_o67 nin0)
  have F_o65_nearestFewer := F_o65_nearestFewer.keep Kc (ninS ne_o65_o67 nin0)
  have F_o65_nearestUnmarked := F_o65_nearestUnmarked.keep Kc (ninS ne_o65_o67 nin0)
  have F_o65_firstNearestUnmarked := F_o65_firstNearestUnmarked.keep Kc (ninS ne_o65_o67 nin0)
  have F_o65_markings := F_o65_markings.keep Kc (ninS ne_o65_o67 nin0)
  have F_o65_parents := F_o65_parents.keep Kc (ninS ne_o65_o67 nin0)
  have F_o65_stepsPerMarking := F_o65_stepsPerMarking.keep Kc (ninS ne_o65_o67 nin0)
  have F_o65_searchedMarking := F_o65_searchedMarking.keep Kc (ninS ne_o65_o67 nin0)
  have F_o65_searchedPlaces := F_o65_searchedPlaces.keep Kc (ninS ne_o65_o67 nin0)
  have F_o65_searchedTokens := F_o65_searchedTokens.keep Kc (ninS ne_o65_o67 nin0)
  have F_o65_parentPlaces := F_o65_parentPlaces.keep Kc (ninS ne_o65_o67 nin0)
  have F_o65_parentTokens := F_o65_parentTokens.keep Kc (ninS ne_o65_o67 nin0)
  have F_o65_unmarkedRanks := F_o65_unmarkedRanks.keep Kc (ninS ne_o65_o67 nin0)
  have F_o65_searched := F_o65_searched.keep Kc (ninS ne_o65_o67 nin0)
  have F_o65_steps := F_o65_steps.keep Kc (ninS ne_o65_o67 nin0)
  have Kp := Kp.trans Kc (allS (Or.inr sz_o67) all0)
  have A_o66 := A_o66.keep Kc (ninS ne_o66_o67 nin0)
  refine Run.cast (st' := [(.ref o67), (.ref o65)]) rfl ?_
  refine s_putfield 23 C X (host := "") d14_20 (Or.inl (mW 105 rfl)) Via.refl F_o65_nearestFewer E_o65 (Or.inr ⟨(mW 106 rfl), rfl, rfl⟩) (mW 95 rfl) (ty := (.object "com/example/eventloom/eventloom/net/IntList")) (by decide) rfl rfl g_o65 (fun T hh X W => ?_)
  have E_o65 := E_o65.wr W
  have F_o65_tokens := oth F_o65_tokens W (Or.inl (hw _ (mW 102 rfl))) (Or.inr (hw _ (mW 106 rfl))) (by decide)
  have F_o65_nearestFewer := F_o65_nearestFewer.same W
  have F_o65_nearestUnmarked := oth F_o65_nearestUnmarked W (Or.inr (hw _ (mW 119 rfl))) (Or.inr (hw _ (mW 106 rfl))) (by decide)
  have F_o65_firstNearestUnmarked := oth F_o65_firstNearestUnmarked W (Or.inr (hw _ (mW 121 rfl))) (Or.inr (hw _ (mW 106 rfl))) (by decide)
  have F_o65_markings := oth F_o65_markings W (Or.inr (hw _ (mW 123 rfl))) (Or.inr (hw _ (mW 106 rfl))) (by decide)
  have F_o65_parents := oth F_o65_parents W (Or.inr (hw _ (mW 125 rfl))) (Or.inr (hw _ (mW 106 rfl))) (by decide)
  have F_o65_stepsPerMarking := oth F_o65_stepsPerMarking W (Or.inr (hw _ (mW 127 rfl))) (Or.inr (hw _ (mW 106 rfl))) (by decide)
  have F_o65_searchedMarking := oth F_o65_searchedMarking W (Or.inr (hw _ (mW 129 rfl))) (Or.inr (hw _ (mW 106 rfl))) (by decide)
  have F_o65_searchedPlaces := oth F_o65_searchedPlaces W (Or.inr (hw _ (mW 131 rfl))) (Or.inr (hw _ (mW 106 rfl))) (by decide)
  have F_o65_searchedTokens := oth F_o65_searchedTokens W (Or.inr (hw _ (mW 133 rfl))) (Or.inr (hw _ (mW 106 rfl))) (by decide)
  have F_o65_parentPlaces := oth F_o65_parentPlaces W (Or.inr (hw _ (mW 135 rfl))) (Or.inr (hw _ (mW 106 rfl))) (by decide)
  have F_o65_parentTokens := oth F_o65_parentTokens W (Or.inr (hw _ (mW 137 rfl))) (Or.inr (hw _ (mW 106 rfl))) (by decide)
  have F_o65_unmarkedRanks := oth F_o65_unmarkedRanks W (Or.inr (hw _ (mW 139 rfl))) (Or.inr (hw _ (mW 106 rfl))) (by decide)
  have F_o65_searched := oth F_o65_searched W (Or.inl (hw _ (mW 146 rfl))) (Or.inr (hw _ (mW 106 rfl))) (by decide)
  have F_o65_steps := oth F_o65_steps W (Or.inl (hw _ (mW 149 rfl))) (Or.inr (hw _ (mW 106 rfl))) (by decide)
  have Kp := Kp.wr W (Or.inl (by simp))
  have A_o66 := A_o66.other W (Ne.symm ne_o65_o66)
  have E_o67 := E_o67.wr W
  have F_o67_values := F_o67_values.other W (Or.inl (Ne.symm ne_o65_o67))
  have F_o67_size := F_o67_size.other W (Or.inl (Ne.symm ne_o65_o67))
  have A_o68 := A_o68.other W (Ne.symm ne_o65_o68)
  refine s_aloadN 24 C X d14_23 rfl rfl ?_
  refine s_new 27 C X d14_24 (mW 107 rfl) (mW 108 rfl) (mW 109 rfl) (fun T hh o70 hb_o70 X E E_o70 D g_o70 => ?_)
  have ne_o65_o70 : o65 ≠ o70 := Nat.ne_of_lt (Nat.lt_of_lt_of_le E_o65.lt (Nat.le_of_eq hb_o70))
  have sz_o70 : h0.size ≤ o70 := Nat.le_trans Kp.1 (Nat.le_of_eq hb_o70)
  have ne_o66_o70 : o66 ≠ o70 := Nat.ne_of_lt (Nat.lt_of_lt_of_le A_o66.lt (Nat.le_of_eq hb_o70))
  have ne_o67_o70 : o67 ≠ o70 := Nat.ne_of_lt (Nat.lt_of_lt_of_le E_o67.lt (Nat.le_of_eq hb_o70))
  have ne_o68_o70 : o68 ≠ o70 := Nat.ne_of_lt (Nat.lt_of_lt_of_le A_o68.lt (Nat.le_of_eq hb_o70))
  have E_o65 := E_o65.ext E
  have F_o65_tokens := F_o65_tokens.ext E
  have F_o65_nearestFewer := F_o65_nearestFewer.ext E
  have F_o65_nearestUnmarked := F_o65_nearestUnmarked.ext E
  have F_o65_firstNearestUnmarked := F_o65_firstNearestUnmarked.ext E
  have F_o65_markings := F_o65_markings.ext E
  have F_o65_parents := F_o65_parents.ext E
  have F_o65_stepsPerMarking := F_o65_stepsPerMarking.ext E
  have F_o65_searchedMarking := F_o65_searchedMarking.ext E
  have F_o65_searchedPlaces := F_o65_searchedPlaces.ext E
  have F_o65_searchedTokens := F_o65_searchedTokens.ext E
  have F_o65_parentPlaces := F_o65_parentPlaces.ext E
  have F_o65_parentTokens := F_o65_parentTokens.ext E
  have F_o65_unmarkedRanks := F_o65_unmarkedRanks.ext E
  have F_o65_searched := F_o65_searched.ext E
  have F_o65_steps := F_o65_steps.ext E
  have Kp := Kp.ext E
  have A_o66 := A_o66.ext E
  have E_o67 := E_o67.ext E
  have F_o67_values := F_o67_values.ext E
  have F_o67_size := F_o67_size.ext E
  have A_o68 := A_o68.ext E
  have F_o70_blocks : Fld Z _ o70 "com/example/eventloom/eventloom/verification/IntBlockList" "blocks" "[[I" .null := D (Or.inl (hw _ (mW 117 rfl))) (ty := (.array (.array .int))) (by decide)
  have F_o70_size : Fld Z _ o70 "com/example/eventloom/eventloom/verification/IntBlockList" "size" "I" (.int (0 : Int32)) := D (Or.inl (hw _ (mW 196 rfl))) (ty := .int) (by decide)
  refine s_dup 28 C X d14_27 rfl ?_
  refine s_callC 31 [] [(.ref o70), (.ref o65)] 2 C X d14_28 rfl (mW 110 rfl) (mW 111 rfl) (mW 109 rfl) (mW 112 rfl) (rm_a72 l Z a0 hw o70 _ n0 X.sz E_o70 F_o70_blocks F_o70_size g_o70) (lenOf pd___V rfl) rfl rfl rfl (fun T v hh X q => ?_)
  obtain ⟨o71, k_o71, rfl, E_o70, F_o70_blocks, F_o70_size, Kc, E_o71, A_o71, ne_o70_o71, sz_o71', g_o71, O_o71⟩ := q
  have ne_o65_o71 : o65 ≠ o71 := Nat.ne_of_lt (Nat.lt_of_lt_of_le E_o65.lt sz_o71')
  have ne_o66_o71 : o66 ≠ o71 := Nat.ne_of_lt (Nat.lt_of_lt_of_le A_o66.lt sz_o71')
  have ne_o67_o71 : o67 ≠ o71 := Nat.ne_of_lt (Nat.lt_of_lt_of_le E_o67.lt sz_o71')
  have ne_o68_o71 : o68 ≠ o71 := Nat.ne_of_lt (Nat.lt_of_lt_of_le A_o68.lt sz_o71')
  have sz_o71 : h0.size ≤ o71 := Nat.le_trans Kp.1 sz_o71'
  have E_o65 := E_o65.keep Kc
  have F_o65_tokens := F_o65_tokens.keep Kc (ninS ne_o65_o70 nin0)
  have F_o65_nearestFewer := F_o65_nearestFewer.keep Kc (ninS ne_o65_o70 nin0)
  have F_o65_nearestUnmarked := F_o65_nearestUnmarked.keep Kc (ninS ne_o65_o70 nin0)
  have F_o65_firstNearestUnmarked := F_o65_firstNearestUnmarked.keep Kc (ninS ne_o65_o70 nin0)
  have F_o65_markings := F_o65_markings.keep Kc (ninS ne_o65_o70 nin0)
  have F_o65_parents := F_o65_parents.keep Kc (ninS ne_o65_o70 nin0)
  have F_o65_stepsPerMarking := F_o65_stepsPerMarking.keep Kc (ninS ne_o65_o70 nin0)
  have F_o65_searchedMarking := F_o65_searchedMarking.keep Kc (ninS ne_o65_o70 nin0)
  have F_o65_searchedPlaces := F_o65_searchedPlaces.keep Kc (ninS ne_o65_o70 nin0)
  have F_o65_searchedTokens := F_o65_searchedTokens.keep Kc (ninS ne_o65_o70 nin0)
  have F_o65_parentPlaces := F_o65_parentPlaces.keep Kc (ninS ne_o65_o70 nin0)
  have F_o65_parentTokens := F_o65_parentTokens.keep Kc (ninS ne_o65_o70 nin0)
  have F_o65_unmarkedRanks := F_o65_unmarkedRanks.keep Kc (ninS ne_o65_o70 nin0)
  have F_o65_searched := F_o65_searched.keep Kc (ninS ne_o65_o70 nin0)
  have F_o65_steps := F_o65_steps.keep Kc (ninS ne_o65_o70 nin0)
  have Kp := Kp.trans Kc (allS (Or.inr sz_o70) all0)
  have A_o66 := A_o66.keep Kc (ninS ne_o66_o70 nin0)
  have E_o67 := E_o67.keep Kc
  have F_o67_values := F_o67_values.keep Kc (ninS ne_o67_o70 nin0)
  have F_o67_size := F_o67_size.keep Kc (ninS ne_o67_o70 nin0)
  have A_o68 := A_o68.keep Kc (ninS ne_o68_o70 nin0)
  refine Run.cast (st' := [(.ref o70), (.ref o65)]) rfl ?_
  refine s_putfield 34 C X (host := "") d14_31 (Or.inl (mW 118 rfl)) Via.refl F_o65_nearestUnmarked E_o65 (Or.inr ⟨(mW 119 rfl), rfl, rfl⟩) (mW 95 rfl) (ty := (.object "com/example/eventloom/eventloom/verification/IntBlockList")) (by decide) rfl rfl g_o65 (fun T hh X W => ?_)
  have E_o65 := E_o65.wr W
  have F_o65_tokens := oth F_o65_tokens W (Or.inl (hw _ (mW 102 rfl))) (Or.inr (hw _ (mW 119 rfl))) (by decide)
  have F_o65_nearestFewer := oth F_o65_nearestFewer W (Or.inr (hw _ (mW 106 rfl))) (Or.inr (hw _ (mW 119 rfl))) (by decide)
  have F_o65_nearestUnmarked := F_o65_nearestUnmarked.same W
  have F_o65_firstNearestUnmarked := oth F_o65_firstNearestUnmarked W (Or.inr (hw _ (mW 121 rfl))) (Or.inr (hw _ (mW 119 rfl))) (by decide)
  have F_o65_markings := oth F_o65_markings W (Or.inr (hw _ (mW 123 rfl))) (Or.inr (hw _ (mW 119 rfl))) (by decide)
  have F_o65_parents := oth F_o65_parents W (Or.inr (hw _ (mW 125 rfl))) (Or.inr (hw _ (mW 119 rfl))) (by decide)
  have F_o65_stepsPerMarking := oth F_o65_stepsPerMarking W (Or.inr (hw _ (mW 127 rfl))) (Or.inr (hw _ (mW 119 rfl))) (by decide)
  have F_o65_searchedMarking := oth F_o65_searchedMarking W (Or.inr (hw _ (mW 129 rfl))) (Or.inr (hw _ (mW 119 rfl))) (by decide)
  have F_o65_searchedPlaces := oth F_o65_searchedPlaces W (Or.inr (hw _ (mW 131 rfl))) (Or.inr (hw _ (mW 119 rfl))) (by decide)
  have F_o65_searchedTokens := oth F_o65_searchedTokens W (Or.inr (hw _ (mW 133 rfl))) (Or.inr (hw _ (mW 119 rfl))) (by decide)
  have F_o65_parentPlaces := oth F_o65_parentPlaces W (Or.inr (hw _ (mW 135 rfl))) (Or.inr (hw _ (mW 119 rfl))) (by decide)
  have F_o65_parentTokens := oth F_o65_parentTokens W (Or.inr (hw _ (mW 137 rfl))) (Or.inr (hw _ (mW 119 rfl))) (by decide)
  have F_o65_unmarkedRanks := oth F_o65_unmarkedRanks W (Or.inr (hw _ (mW 139 rfl))) (Or.inr (hw _ (mW 119 rfl))) (by decide)
  have F_o65_searched := oth F_o65_searched W (Or.inl (hw _ (mW 146 rfl))) (Or.inr (hw _ (mW 119 rfl))) (by decide)
  have F_o65_steps := oth F_o65_steps W (Or.inl (hw _ (mW 149 rfl))) (Or.inr (hw _ (mW 119 rfl))) (by decide)
  have Kp := Kp.wr W (Or.inl (by simp))
  have A_o66 := A_o66.other W (Ne.symm ne_o65_o66)
  have E_o67 := E_o67.wr W
  have F_o67_values := F_o67_values.other W (Or.inl (Ne.symm ne_o65_o67))
  have F_o67_size := F_o67_size.other W (Or.inl (Ne.symm ne_o65_o67))
  have A_o68 := A_o68.other W (Ne.symm ne_o65_o68)
  have E_o70 := E_o70.wr W
  have F_o70_blocks := F_o70_blocks.other W (Or.inl (Ne.symm ne_o65_o70))
  have F_o70_size := F_o70_size.other W (Or.inl (Ne.symm ne_o65_o70))
  have E_o71 := E_o71.wr W
  have A_o71 := A_o71.other W (Ne.symm ne_o65_o71)
  refine s_aloadN 35 C X d14_34 rfl rfl ?_
  refine s_new 38 C X d14_35 (mW 103 rfl) (mW 16 rfl) (mW 17 rfl) (fun T hh o73 hb_o73 X E E_o73 D g_o73 => ?_)
  have ne_o65_o73 : o65 ≠ o73 := Nat.ne_of_lt (Nat.lt_of_lt_of_le E_o65.lt (Nat.le_of_eq hb_o73))
  have sz_o73 : h0.size ≤ o73 := Nat.le_trans Kp.1 (Nat.le_of_eq hb_o73)
  have ne_o66_o73 : o66 ≠ o73 := Nat.ne_of_lt (Nat.lt_of_lt_of_le A_o66.lt (Nat.le_of_eq hb_o73))
  have ne_o67_o73 : o67 ≠ o73 := Nat.ne_of_lt (Nat.lt_of_lt_of_le E_o67.lt (Nat.le_of_eq hb_o73))
  have ne_o68_o73 : o68 ≠ o73 := Nat.ne_of_lt (Nat.lt_of_lt_of_le A_o68.lt (Nat.le_of_eq hb_o73))
  have ne_o70_o73 : o70 ≠ o73 := Nat.ne_of_lt (Nat.lt_of_lt_of_le E_o70.lt (Nat.le_of_eq hb_o73))
  have ne_o71_o73 : o71 ≠ o73 := Nat.ne_of_lt (Nat.lt_of_lt_of_le E_o71.lt (Nat.le_of_eq hb_o73))
  have E_o65 := E_o65.ext E
  have F_o65_tokens := F_o65_tokens.ext E
  have F_o65_nearestFewer := F_o65_nearestFewer.ext E
  have F_o65_nearestUnmarked := F_o65_nearestUnmarked.ext E
  have F_o65_firstNearestUnmarked := F_o65_firstNearestUnmarked.ext E
  have F_o65_markings := F_o65_markings.ext E
  have F_o65_parents := F_o65_parents.ext E
  have F_o65_stepsPerMarking := F_o65_stepsPerMarking.ext E
  have F_o65_searchedMarking := F_o65_searchedMarking.ext E
  have F_o65_searchedPlaces := F_o65_searchedPlaces.ext E
  have F_o65_searchedTokens := F_o65_searchedTokens.ext E
  have F_o65_parentPlaces := F_o65_parentPlaces.ext E
  have F_o65_parentTokens := F_o65_parentTokens.ext E
  have F_o65_unmarkedRanks := F_o65_unmarkedRanks.ext E
  have F_o65_searched := F_o65_searched.ext E
  have F_o65_steps := F_o65_steps.ext E
  have Kp := Kp.ext E
  have A_o66 := A_o66.ext E
  have E_o67 := E_o67.ext E
  have F_o67_values := F_o67_values.ext E
  have F_o67_size := F_o67_size.ext E
  have A_o68 := A_o68.ext E
  have E_o70 := E_o70.ext E
  have F_o70_blocks := F_o70_blocks.ext E
  have F_o70_size := F_o70_size.ext E
  have E_o71 := E_o71.ext E
  have A_o71 := A_o71.ext E
  have F_o73_values : Fld Z _ o73 "com/example/eventloom/eventloom/net/IntList" "values" "[I" .null := D (Or.inl (hw _ (mW 24 rfl))) (ty := (.array .int)) (by decide)
  have F_o73_size : Fld Z _ o73 "com/example/eventloom/eventloom/net/IntList" "size" "I" (.int (0 : Int32)) := D (Or.inl (hw _ (mW 78 rfl))) (ty := .int) (by decide)
  refine s_dup 39 C X d14_38 rfl ?_
  refine s_callC 42 [] [(.ref o73), (.ref o65)] 2 C X d14_39 rfl (mW 104 rfl) (mW 19 rfl) (mW 17 rfl) (mW 20 rfl) (rm_a75 l Z a0 hw o73 _ n0 X.sz E_o73 F_o73_values F_o73_size g_o73) (lenOf pd___V rfl) rfl rfl rfl (fun T v hh X q => ?_)
  obtain ⟨o74, k_o74, rfl, E_o73, F_o73_values, F_o73_size, Kc, A_o74, ne_o73_o74, sz_o74', g_o74⟩ := q
  have ne_o65_o74 : o65 ≠ o74 := Nat.ne_of_lt (Nat.lt_of_lt_of_le E_o65.lt sz_o74')
  have ne_o66_o74 : o66 ≠ o74 := Nat.ne_of_lt (Nat.lt_of_lt_of_le A_o66.lt sz_o74')
  have ne_o67_o74 : o67 ≠ o74 := Nat.ne_of_lt (Nat.lt_of_lt_of_le E_o67.lt sz_o74')
  have ne_o68_o74 : o68 ≠ o74 := Nat.ne_of_lt (Nat.lt_of_lt_of_le A_o68.lt sz_o74')
  have ne_o70_o74 : o70 ≠ o74 := Nat.ne_of_lt (Nat.lt_of_lt_of_le E_o70.lt sz_o74')
  have ne_o71_o74 : o71 ≠ o74 := Nat.ne_of_lt (Nat.lt_of_lt_of_le E_o71.lt sz_o74')
  have sz_o74 : h0.size ≤ o74 := Nat.le_trans Kp.1 sz_o74'
  have E_o65 := E_o65.keep Kc
  have F_o65_tokens := F_o65_tokens.keep Kc (ninS ne_o65_o73 nin0)
  have F_o65_nearestFewer := F_o65_nearestFewer.keep Kc (ninS ne_o65_o73 nin0)
  have F_o65_nearestUnmarked := F_o65_nearestUnmarked.keep Kc (ninS ne_o65_o73 nin0)
  have F_o65_firstNearestUnmarked := F_o65_firstNearestUnmarked.keep Kc (ninS ne_o65_o73 nin0)
  have F_o65_markings := F_o65_markings.keep Kc (ninS ne_o65_o73 nin0)
  have F_o65_parents := F_o65_parents.keep Kc (ninS ne_o65_o73 nin0)
  have F_o65_stepsPerMarking := F_o65_stepsPerMarking.keep Kc (ninS ne_o65_o73 nin0)
  have F_o65_searchedMarking := F_o65_searchedMarking.keep Kc (ninS ne_o65_o73 nin0)
  have F_o65_searchedPlaces := F_o65_searchedPlaces.keep Kc (ninS ne_o65_o73 nin0)
  have F_o65_searchedTokens := F_o65_searchedTokens.keep Kc (ninS ne_o65_o73 nin0)
  have F_o65_parentPlaces := F_o65_parentPlaces.keep Kc (ninS ne_o65_o73 nin0)
  have F_o65_parentTokens := F_o65_parentTokens.keep Kc (ninS ne_o65_o73 nin0)
  have F_o65_unmarkedRanks := F_o65_unmarkedRanks.keep Kc (ninS ne_o65_o73 nin0)
  have F_o65_searched := F_o65_searched.keep Kc (ninS ne_o65_o73 nin0)
  have F_o65_steps := F_o65_steps.keep Kc (ninS ne_o65_o73 nin0)
  have Kp := Kp.trans Kc (allS (Or.inr sz_o73) all0)
  have A_o66 := A_o66.keep Kc (ninS ne_o66_o73 nin0)
  have E_o67 := E_o67.keep Kc
  have F_o67_values := F_o67_values.keep Kc (ninS ne_o67_o73 nin0)
  have F_o67_size := F_o67_size.keep Kc (ninS ne_o67_o73 nin0)
  have A_o68 := A_o68.keep Kc (ninS ne_o68_o73 nin0)
  have E_o70 := E_o70.keep Kc
  have F_o70_blocks := F_o70_blocks.keep Kc (ninS ne_o70_o73 nin0)
  have F_o70_size := F_o70_size.keep Kc (ninS ne_o70_o73 nin0)
  have E_o71 := E_o71.keep Kc
  have A_o71 := A_o71.keep Kc (ninS ne_o71_o73 nin0)
  refine Run.cast (st' := [(.ref o73), (.ref o65)]) rfl ?_
  refine s_putfield 45 C X (host := "") d14_42 (Or.inl (mW 120 rfl)) Via.refl F_o65_firstNearestUnmarked E_o65 (Or.inr ⟨(mW 121 rfl), rfl, rfl⟩) (mW 95 rfl) (ty := (.object "com/example/eventloom/eventloom/net/IntList")) (by decide) rfl rfl g_o65 (fun T hh X W => ?_)
  have E_o65 := E_o65.wr W
  have F_o65_tokens := oth F_o65_tokens W (Or.inl (hw _ (mW 102 rfl))) (Or.inr (hw _ (mW 121 rfl))) (by decide)
  have F_o65_nearestFewer := oth F_o65_nearestFewer W (Or.inr (hw _ (mW 106 rfl))) (Or.inr (hw _ (mW 121 rfl))) (by decide)
  have F_o65_nearestUnmarked := oth F_o65_nearestUnmarked W (Or.inr (hw _ (mW 119 rfl))) (Or.inr (hw _ (mW 121 rfl))) (by decide)
  have F_o65_firstNearestUnmarked := F_o65_firstNearestUnmarked.same W
  have F_o65_markings := oth F_o65_markings W (Or.inr (hw _ (mW 123 rfl))) (Or.inr (hw _ (mW 121 rfl))) (by decide)
  have F_o65_parents := oth F_o65_parents W (Or.inr (hw _ (mW 125 rfl))) (Or.inr (hw _ (mW 121 rfl))) (by decide)
  have F_o65_stepsPerMarking := oth F_o65_stepsPerMarking W (Or.inr (hw _ (mW 127 rfl))) (Or.inr (hw _ (mW 121 rfl))) (by decide)
  have F_o65_searchedMarking := oth F_o65_searchedMarking W (Or.inr (hw _ (mW 129 rfl))) (Or.inr (hw _ (mW 121 rfl))) (by decide)
  have F_o65_searchedPlaces := oth F_o65_searchedPlaces W (Or.inr (hw _ (mW 131 rfl))) (Or.inr (hw _ (mW 121 rfl))) (by decide)
  have F_o65_searchedTokens := oth F_o65_searchedTokens W (Or.inr (hw _ (mW 133 rfl))) (Or.inr (hw _ (mW 121 rfl))) (by decide)
  have F_o65_parentPlaces := oth F_o65_parentPlaces W (Or.inr (hw _ (mW 135 rfl))) (Or.inr (hw _ (mW 121 rfl))) (by decide)
  have F_o65_parentTokens := oth F_o65_parentTokens W (Or.inr (hw _ (mW 137 rfl))) (Or.inr (hw _ (mW 121 rfl))) (by decide)
  have F_o65_unmarkedRanks := oth F_o65_unmarkedRanks W (Or.inr (hw _ (mW 139 rfl))) (Or.inr (hw _ (mW 121 rfl))) (by decide)
  have F_o65_searched := oth F_o65_searched W (Or.inl (hw _ (mW 146 rfl))) (Or.inr (hw _ (mW 121 rfl))) (by decide)
  have F_o65_steps := oth F_o65_steps W (Or.inl (hw _ (mW 149 rfl))) (Or.inr (hw _ (mW 121 rfl))) (by decide)
  have Kp := Kp.wr W (Or.inl (by simp))
  have A_o66 := A_o66.other W (Ne.symm ne_o65_o66)
  have E_o67 := E_o67.wr W
  have F_o67_values := F_o67_values.other W (Or.inl (Ne.symm ne_o65_o67))
  have F_o67_size := F_o67_size.other W (Or.inl (Ne.symm ne_o65_o67))
  have A_o68 := A_o68.other W (Ne.symm ne_o65_o68)
  have E_o70 := E_o70.wr W
  have F_o70_blocks := F_o70_blocks.other W (Or.inl (Ne.symm ne_o65_o70))
  have F_o70_size := F_o70_size.other W (Or.inl (Ne.symm ne_o65_o70))
  have E_o71 := E_o71.wr W
  have A_o71 := A_o71.other W (Ne.symm ne_o65_o71)
  have E_o73 := E_o73.wr W
  have F_o73_values := F_o73_values.other W (Or.inl (Ne.symm ne_o65_o73))
  have F_o73_size := F_o73_size.other W (Or.inl (Ne.symm ne_o65_o73))
  have A_o74 := A_o74.other W (Ne.symm ne_o65_o74)
  refine s_aloadN 46 C X d14_45 rfl rfl ?_
  refine s_aloadN 47 C X d14_46 rfl rfl ?_
  refine s_putfield 50 C X (host := "") d14_47 (Or.inl (mW 122 rfl)) Via.refl F_o65_markings E_o65 (Or.inr ⟨(mW 123 rfl), rfl, rfl⟩) (mW 95 rfl) (ty := (.object "com/example/eventloom/eventloom/net/MarkingStore")) (by decide) rfl rfl g_o65 (fun T hh X W => ?_)
  have E_o65 := E_o65.wr W
  have F_o65_tokens := oth F_o65_tokens W (Or.inl (hw _ (mW 102 rfl))) (Or.inr (hw _ (mW 123 rfl))) (by decide)
  have F_o65_nearestFewer := oth F_o65_nearestFewer W (Or.inr (hw _ (mW 106 rfl))) (Or.inr (hw _ (mW 123 rfl))) (by decide)
  have F_o65_nearestUnmarked := oth F_o65_nearestUnmarked W (Or.inr (hw _ (mW 119 rfl))) (Or.inr (hw _ (mW 123 rfl))) (by decide)
  have F_o65_firstNearestUnmarked := oth F_o65_firstNearestUnmarked W (Or.inr (hw _ (mW 121 rfl))) (Or.inr (hw _ (mW 123 rfl))) (by decide)
  have F_o65_markings := F_o65_markings.same W
  have F_o65_parents := oth F_o65_parents W (Or.inr (hw _ (mW 125 rfl))) (Or.inr (hw _ (mW 123 rfl))) (by decide)
  have F_o65_stepsPerMarking := oth F_o65_stepsPerMarking W (Or.inr (hw _ (mW 127 rfl))) (Or.inr (hw _ (mW 123 rfl))) (by decide)
  have F_o65_searchedMarking := oth F_o65_searchedMarking W (Or.inr (hw _ (mW 129 rfl))) (Or.inr (hw _ (mW 123 rfl))) (by decide)
  have F_o65_searchedPlaces := oth F_o65_searchedPlaces W (Or.inr (hw _ (mW 131 rfl))) (Or.inr (hw _ (mW 123 rfl))) (by decide)
  have F_o65_searchedTokens := oth F_o65_searchedTokens W (Or.inr (hw _ (mW 133 rfl))) (Or.inr (hw _ (mW 123 rfl))) (by decide)
  have F_o65_parentPlaces := oth F_o65_parentPlaces W (Or.inr (hw _ (mW 135 rfl))) (Or.inr (hw _ (mW 123 rfl))) (by decide)
  have F_o65_parentTokens := oth F_o65_parentTokens W (Or.inr (hw _ (mW 137 rfl))) (Or.inr (hw _ (mW 123 rfl))) (by decide)
  have F_o65_unmarkedRanks := oth F_o65_unmarkedRanks W (Or.inr (hw _ (mW 139 rfl))) (Or.inr (hw _ (mW 123 rfl))) (by decide)
  have F_o65_searched := oth F_o65_searched W (Or.inl (hw _ (mW 146 rfl))) (Or.inr (hw _ (mW 123 rfl))) (by decide)
  have F_o65_steps := oth F_o65_steps W (Or.inl (hw _ (mW 149 rfl))) (Or.inr (hw _ (mW 123 rfl))) (by decide)
  have Kp := Kp.wr W (Or.inl (by simp))
  have A_o66 := A_o66.other W (Ne.symm ne_o65_o66)
  have E_o67 := E_o67.wr W
  have F_o67_values := F_o67_values.other W (Or.inl (Ne.symm ne_o65_o67))
  have F_o67_size := F_o67_size.other W (Or.inl (Ne.symm ne_o65_o67))
  have A_o68 := A_o68.other W (Ne.symm ne_o65_o68)
  have E_o70 := E_o70.wr W
  have F_o70_blocks := F_o70_blocks.other W (Or.inl (Ne.symm ne_o65_o70))
  have F_o70_size := F_o70_size.other W (Or.inl (Ne.symm ne_o65_o70))
  have E_o71 := E_o71.wr W
  have A_o71 := A_o71.other W (Ne.symm ne_o65_o71)
  have E_o73 := E_o73.wr W
  have F_o73_values := F_o73_values.other W (Or.inl (Ne.symm ne_o65_o73))
  have F_o73_size := F_o73_size.other W (Or.inl (Ne.symm ne_o65_o73))
  have A_o74 := A_o74.other W (Ne.symm ne_o65_o74)
  refine s_aloadN 51 C X d14_50 rfl rfl ?_
  refine s_aloadN 52 C X d14_51 rfl rfl ?_
  refine s_putfield 55 C X (host := "") d14_52 (Or.inl (mW 124 rfl)) Via.refl F_o65_parents E_o65 (Or.inr ⟨(mW 125 rfl), rfl, rfl⟩) (mW 95 rfl) (ty := (.object "com/example/eventloom/eventloom/net/IntList")) (by decide) rfl rfl g_o65 (fun T hh X W => ?_)
  have E_o65 := E_o65.wr W
  have F_o65_tokens := oth F_o65_tokens W (Or.inl (hw _ (mW 102 rfl))) (Or.inr (hw _ (mW 125 rfl))) (by decide)
  have F_o65_nearestFewer := oth F_o65_nearestFewer W (Or.inr (hw _ (mW 106 rfl))) (Or.inr (hw _ (mW 125 rfl))) (by decide)
  have F_o65_nearestUnmarked := oth F_o65_nearestUnmarked W (Or.inr (hw _ (mW 119 rfl))) (Or.inr (hw _ (mW 125 rfl))) (by decide)
  have F_o65_firstNearestUnmarked := oth F_o65_firstNearestUnmarked W (Or.inr (hw _ (mW 121 rfl))) (Or.inr (hw _ (mW 125 rfl))) (by decide)
  have F_o65_markings := oth F_o65_markings W (Or.inr (hw _ (mW 123 rfl))) (Or.inr (hw _ (mW 125 rfl))) (by decide)
  have F_o65_parents := F_o65_parents.same W
  have F_o65_stepsPerMarking := oth F_o65_stepsPerMarking W (Or.inr (hw _ (mW 127 rfl))) (Or.inr (hw _ (mW 125 rfl))) (by decide)
  have F_o65_searchedMarking := oth F_o65_searchedMarking W (Or.inr (hw _ (mW 129 rfl))) (Or.inr (hw _ (mW 125 rfl))) (by decide)
  have F_o65_searchedPlaces := oth F_o65_searchedPlaces W (Or.inr (hw _ (mW 131 rfl))) (Or.inr (hw _ (mW 125 rfl))) (by decide)
  have F_o65_searchedTokens := oth F_o65_searchedTokens W (Or.inr (hw _ (mW 133 rfl))) (Or.inr (hw _ (mW 125 rfl))) (by decide)
  have F_o65_parentPlaces := oth F_o65_parentPlaces W (Or.inr (hw _ (mW 135 rfl))) (Or.inr (hw _ (mW 125 rfl))) (by decide)
  have F_o65_parentTokens := oth F_o65_parentTokens W (Or.inr (hw _ (mW 137 rfl))) (Or.inr (hw _ (mW 125 rfl))) (by decide)
  have F_o65_unmarkedRanks := oth F_o65_unmarkedRanks W (Or.inr (hw _ (mW 139 rfl))) (Or.inr (hw _ (mW 125 rfl))) (by decide)
  have F_o65_searched := oth F_o65_searched W (Or.inl (hw _ (mW 146 rfl))) (Or.inr (hw _ (mW 125 rfl))) (by decide)
  have F_o65_steps := oth F_o65_steps W (Or.inl (hw _ (mW 149 rfl))) (Or.inr (hw _ (mW 125 rfl))) (by decide)
  have Kp := Kp.wr W (Or.inl (by simp))
  have A_o66 := A_o66.other W (Ne.symm ne_o65_o66)
  have E_o67 := E_o67.wr W
  have F_o67_values := F_o67_values.other W (Or.inl (Ne.symm ne_o65_o67))
  have F_o67_size := F_o67_size.other W (Or.inl (Ne.symm ne_o65_o67))
  have A_o68 := A_o68.other W (Ne.symm ne_o65_o68)
  have E_o70 := E_o70.wr W
  have F_o70_blocks := F_o70_blocks.other W (Or.inl (Ne.symm ne_o65_o70))
  have F_o70_size := F_o70_size.other W (Or.inl (Ne.symm ne_o65_o70))
  have E_o71 := E_o71.wr W
  have A_o71 := A_o71.other W (Ne.symm ne_o65_o71)
  have E_o73 := E_o73.wr W
  have F_o73_values := F_o73_values.other W (Or.inl (Ne.symm ne_o65_o73))
  have F_o73_size := F_o73_size.other W (Or.inl (Ne.symm ne_o65_o73))
  have A_o74 := A_o74.other W (Ne.symm ne_o65_o74)
  refine s_aloadN 56 C X d14_55 rfl rfl ?_
  refine s_iload 58 C X d14_56 rfl ?_
  refine s_putfield 61 C X (host := "") d14_58 (Or.inl (mW 126 rfl)) Via.refl F_o65_stepsPerMarking E_o65 (Or.inr ⟨(mW 127 rfl), rfl, rfl⟩) (mW 95 rfl) (ty := .int) (by decide) rfl rfl g_o65 (fun T hh X W => ?_)
  have E_o65 := E_o65.wr W
  have F_o65_tokens := oth F_o65_tokens W (Or.inl (hw _ (mW 102 rfl))) (Or.inr (hw _ (mW 127 rfl))) (by decide)
  have F_o65_nearestFewer := oth F_o65_nearestFewer W (Or.inr (hw _ (mW 106 rfl))) (Or.inr (hw _ (mW 127 rfl))) (by decide)
  have F_o65_nearestUnmarked := oth F_o65_nearestUnmarked W (Or.inr (hw _ (mW 119 rfl))) (Or.inr (hw _ (mW 127 rfl))) (by decide)
  have F_o65_firstNearestUnmarked := oth F_o65_firstNearestUnmarked W (Or.inr (hw _ (mW 121 rfl))) (Or.inr (hw _ (mW 127 rfl))) (by decide)
  have F_o65_markings := oth F_o65_markings W (Or.inr (hw _ (mW 123 rfl))) (Or.inr (hw _ (mW 127 rfl))) (by decide)
  have F_o65_parents := oth F_o65_parents W (Or.inr (hw _ (mW 125 rfl))) (Or.inr (hw _ (mW 127 rfl))) (by decide)
  have F_o65_stepsPerMarking := F_o65_stepsPerMarking.same W
  have F_o65_searchedMarking := oth F_o65_searchedMarking W (Or.inr (hw _ (mW 129 rfl))) (Or.inr (hw _ (mW 127 rfl))) (by decide)
  have F_o65_searchedPlaces := oth F_o65_searchedPlaces W (Or.inr (hw _ (mW 131 rfl))) (Or.inr (hw _ (mW 127 rfl))) (by decide)
  have F_o65_searchedTokens := oth F_o65_searchedTokens W (Or.inr (hw _ (mW 133 rfl))) (Or.inr (hw _ (mW 127 rfl))) (by decide)
  have F_o65_parentPlaces := oth F_o65_parentPlaces W (Or.inr (hw _ (mW 135 rfl))) (Or.inr (hw _ (mW 127 rfl))) (by decide)
  have F_o65_parentTokens := oth F_o65_parentTokens W (Or.inr (hw _ (mW 137 rfl))) (Or.inr (hw _ (mW 127 rfl))) (by decide)
  have F_o65_unmarkedRanks := oth F_o65_unmarkedRanks W (Or.inr (hw _ (mW 139 rfl))) (Or.inr (hw _ (mW 127 rfl))) (by decide)
  have F_o65_searched := oth F_o65_searched W (Or.inl (hw _ (mW 146 rfl))) (Or.inr (hw _ (mW 127 rfl))) (by decide)
  have F_o65_steps := oth F_o65_steps W (Or.inl (hw _ (mW 149 rfl))) (Or.inr (hw _ (mW 127 rfl))) (by decide)
  have Kp := Kp.wr W (Or.inl (by simp))
  have A_o66 := A_o66.other W (Ne.symm ne_o65_o66)
  have E_o67 := E_o67.wr W
  have F_o67_values := F_o67_values.other W (Or.inl (Ne.symm ne_o65_o67))
  have F_o67_size := F_o67_size.other W (Or.inl (Ne.symm ne_o65_o67))
  have A_o68 := A_o68.other W (Ne.symm ne_o65_o68)
  have E_o70 := E_o70.wr W
  have F_o70_blocks := F_o70_blocks.other W (Or.inl (Ne.symm ne_o65_o70))
  have F_o70_size := F_o70_size.other W (Or.inl (Ne.symm ne_o65_o70))
  have E_o71 := E_o71.wr W
  have A_o71 := A_o71.other W (Ne.symm ne_o65_o71)
  have E_o73 := E_o73.wr W
  have F_o73_values := F_o73_values.other W (Or.inl (Ne.symm ne_o65_o73))
  have F_o73_size := F_o73_size.other W (Or.inl (Ne.symm ne_o65_o73))
  have A_o74 := A_o74.other W (Ne.symm ne_o65_o74)
  refine s_aloadN 62 C X d14_61 rfl rfl ?_
  refine s_iloadN 63 C X d14_62 rfl ?_
  refine s_newarray 65 1 C X d14_63 (mW 0 rfl) (by decide) (by decide) (fun T hh o76 k_o76 hb_o76 X E A_o76 g_o76 => ?_)
  have ne_o65_o76 : o65 ≠ o76 := Nat.ne_of_lt (Nat.lt_of_lt_of_le E_o65.lt (Nat.le_of_eq hb_o76))
  have sz_o76 : h0.size ≤ o76 := Nat.le_trans Kp.1 (Nat.le_of_eq hb_o76)
  have ne_o66_o76 : o66 ≠ o76 := Nat.ne_of_lt (Nat.lt_of_lt_of_le A_o66.lt (Nat.le_of_eq hb_o76))
  have ne_o67_o76 : o67 ≠ o76 := Nat.ne_of_lt (Nat.lt_of_lt_of_le E_o67.lt (Nat.le_of_eq hb_o76))
  have ne_o68_o76 : o68 ≠ o76 := Nat.ne_of_lt (Nat.lt_of_lt_of_le A_o68.lt (Nat.le_of_eq hb_o76))
  have ne_o70_o76 : o70 ≠ o76 := Nat.ne_of_lt (Nat.lt_of_lt_of_le E_o70.lt (Nat.le_of_eq hb_o76))
  have ne_o71_o76 : o71 ≠ o76 := Nat.ne_of_lt (Nat.lt_of_lt_of_le E_o71.lt (Nat.le_of_eq hb_o76))
  have ne_o73_o76 : o73 ≠ o76 := Nat.ne_of_lt (Nat.lt_of_lt_of_le E_o73.lt (Nat.le_of_eq hb_o76))
  have ne_o74_o76 : o74 ≠ o76 := Nat.ne_of_lt (Nat.lt_of_lt_of_le A_o74.lt (Nat.le_of_eq hb_o76))
  have E_o65 := E_o65.ext E
  have F_o65_tokens := F_o65_tokens.ext E
  have F_o65_nearestFewer := F_o65_nearestFewer.ext E
  have F_o65_nearestUnmarked := F_o65_nearestUnmarked.ext E
  have F_o65_firstNearestUnmarked := F_o65_firstNearestUnmarked.ext E
  have F_o65_markings := F_o65_markings.ext E
  have F_o65_parents := F_o65_parents.ext E
  have F_o65_stepsPerMarking := F_o65_stepsPerMarking.ext E
  have F_o65_searchedMarking := F_o65_searchedMarking.ext E
  have F_o65_searchedPlaces := F_o65_searchedPlaces.ext E
  have F_o65_searchedTokens := F_o65_searchedTokens.ext E
  have F_o65_parentPlaces := F_o65_parentPlaces.ext E
  have F_o65_parentTokens := F_o65_parentTokens.ext E
  have F_o65_unmarkedRanks := F_o65_unmarkedRanks.ext E
  have F_o65_searched := F_o65_searched.ext E
  have F_o65_steps := F_o65_steps.ext E
  have Kp := Kp.ext E
  have A_o66 := A_o66.ext E
  have E_o67 := E_o67.ext E
  have F_o67_values := F_o67_values.ext E
  have F_o67_size := F_o67_size.ext E
  have A_o68 := A_o68.ext E
  have E_o70 := E_o70.ext E
  have F_o70_blocks := F_o70_blocks.ext E
  have F_o70_size := F_o70_size.ext E
  have E_o71 := E_o71.ext E
  have A_o71 := A_o71.ext E
  have E_o73 := E_o73.ext E
  have F_o73_values := F_o73_values.ext E
  have F_o73_size := F_o73_size.ext E
  have A_o74 := A_o74.ext E
  have A_o76 : Arv Z _ o76 k_o76 .long (1 : Int32) [(.long (0 : Int64))] (.long (0 : Int64)) := A_o76.pad (pad_rep [] _ 1)
  refine s_putfield 68 C X (host := "") d14_65 (Or.inl (mW 128 rfl)) Via.refl F_o65_searchedMarking E_o65 (Or.inr ⟨(mW 129 rfl), rfl, rfl⟩) (mW 95 rfl) (ty := (.array .long)) (by decide) rfl rfl g_o65 (fun T hh X W => ?_)
  have E_o65 := E_o65.wr W
  have F_o65_tokens := oth F_o65_tokens W (Or.inl (hw _ (mW 102 rfl))) (Or.inr (hw _ (mW 129 rfl))) (by decide)
  have F_o65_nearestFewer := oth F_o65_nearestFewer W (Or.inr (hw _ (mW 106 rfl))) (Or.inr (hw _ (mW 129 rfl))) (by decide)
  have F_o65_nearestUnmarked := oth F_o65_nearestUnmarked W (Or.inr (hw _ (mW 119 rfl))) (Or.inr (hw _ (mW 129 rfl))) (by decide)
  have F_o65_firstNearestUnmarked := oth F_o65_firstNearestUnmarked W (Or.inr (hw _ (mW 121 rfl))) (Or.inr (hw _ (mW 129 rfl))) (by decide)
  have F_o65_markings := oth F_o65_markings W (Or.inr (hw _ (mW 123 rfl))) (Or.inr (hw _ (mW 129 rfl))) (by decide)
  have F_o65_parents := oth F_o65_parents W (Or.inr (hw _ (mW 125 rfl))) (Or.inr (hw _ (mW 129 rfl))) (by decide)
  have F_o65_stepsPerMarking := oth F_o65_stepsPerMarking W (Or.inr (hw _ (mW 127 rfl))) (Or.inr (hw _ (mW 129 rfl))) (by decide)
  have F_o65_searchedMarking := F_o65_searchedMarking.same W
  have F_o65_searchedPlaces := oth F_o65_searchedPlaces W (Or.inr (hw _ (mW 131 rfl))) (Or.inr (hw _ (mW 129 rfl))) (by decide)
  have F_o65_searchedTokens := oth F_o65_searchedTokens W (Or.inr (hw _ (mW 133 rfl))) (Or.inr (hw _ (mW 129 rfl))) (by decide)
  have F_o65_parentPlaces := oth F_o65_parentPlaces W (Or.inr (hw _ (mW 135 rfl))) (Or.inr (hw _ (mW 129 rfl))) (by decide)
  have F_o65_parentTokens := oth F_o65_parentTokens W (Or.inr (hw _ (mW 137 rfl))) (Or.inr (hw _ (mW 129 rfl))) (by decide)
  have F_o65_unmarkedRanks := oth F_o65_unmarkedRanks W (Or.inr (hw _ (mW 139 rfl))) (Or.inr (hw _ (mW 129 rfl))) (by decide)
  have F_o65_searched := oth F_o65_searched W (Or.inl (hw _ (mW 146 rfl))) (Or.inr (hw _ (mW 129 rfl))) (by decide)
  have F_o65_steps := oth F_o65_steps W (Or.inl (hw _ (mW 149 rfl))) (Or.inr (hw _ (mW 129 rfl))) (by decide)
  have Kp := Kp.wr W (Or.inl (by simp))
  have A_o66 := A_o66.other W (Ne.symm ne_o65_o66)
  have E_o67 := E_o67.wr W
  have F_o67_values := F_o67_values.other W (Or.inl (Ne.symm ne_o65_o67))
  have F_o67_size := F_o67_size.other W (Or.inl (Ne.symm ne_o65_o67))
  have A_o68 := A_o68.other W (Ne.symm ne_o65_o68)
  have E_o70 := E_o70.wr W
  have F_o70_blocks := F_o70_blocks.other W (Or.inl (Ne.symm ne_o65_o70))
  have F_o70_size := F_o70_size.other W (Or.inl (Ne.symm ne_o65_o70))
  have E_o71 := E_o71.wr W
  have A_o71 := A_o71.other W (Ne.symm ne_o65_o71)
  have E_o73 := E_o73.wr W
  have F_o73_values := F_o73_values.other W (Or.inl (Ne.symm ne_o65_o73))
  have F_o73_size := F_o73_size.other W (Or.inl (Ne.symm ne_o65_o73))
  have A_o74 := A_o74.other W (Ne.symm ne_o65_o74)
  have A_o76 := A_o76.other W (Ne.symm ne_o65_o76)
  refine s_aloadN 69 C X d14_68 rfl rfl ?_
  refine s_iloadN 70 C X d14_69 rfl ?_
  refine s_newarray 72 1 C X d14_70 (mW 22 rfl) (by decide) (by decide) (fun T hh o77 k_o77 hb_o77 X E A_o77 g_o77 => ?_)
  have ne_o65_o77 : o65 ≠ o77 := Nat.ne_of_lt (Nat.lt_of_lt_of_le E_o65.lt (Nat.le_of_eq hb_o77))
  have sz_o77 : h0.size ≤ o77 := Nat.le_trans Kp.1 (Nat.le_of_eq hb_o77)
  have ne_o66_o77 : o66 ≠ o77 := Nat.ne_of_lt (Nat.lt_of_lt_of_le A_o66.lt (Nat.le_of_eq hb_o77))
  have ne_o67_o77 : o67 ≠ o77 := Nat.ne_of_lt (Nat.lt_of_lt_of_le E_o67.lt (Nat.le_of_eq hb_o77))
  have ne_o68_o77 : o68 ≠ o77 := Nat.ne_of_lt (Nat.lt_of_lt_of_le A_o68.lt (Nat.le_of_eq hb_o77))
  have ne_o70_o77 : o70 ≠ o77 := Nat.ne_of_lt (Nat.lt_of_lt_of_le E_o70.lt (Nat.le_of_eq hb_o77))
  have ne_o71_o77 : o71 ≠ o77 := Nat.ne_of_lt (Nat.lt_of_lt_of_le E_o71.lt (Nat.le_of_eq hb_o77))
  have ne_o73_o77 : o73 ≠ o77 := Nat.ne_of_lt (Nat.lt_of_lt_of_le E_o73.lt (Nat.le_of_eq hb_o77))
  have ne_o74_o77 : o74 ≠ o77 := Nat.ne_of_lt (Nat.lt_of_lt_of_le A_o74.lt (Nat.le_of_eq hb_o77))
  have ne_o76_o77 : o76 ≠ o77 := Nat.ne_of_lt (Nat.lt_of_lt_of_le A_o76.lt (Nat.le_of_eq hb_o77))
  have E_o65 := E_o65.ext E
  have F_o65_tokens := F_o65_tokens.ext E
  have F_o65_nearestFewer := F_o65_nearestFewer.ext E
  have F_o65_nearestUnmarked := F_o65_nearestUnmarked.ext E
  have F_o65_firstNearestUnmarked := F_o65_firstNearestUnmarked.ext E
  have F_o65_markings := F_o65_markings.ext E
  have F_o65_parents := F_o65_parents.ext E
  have F_o65_stepsPerMarking := F_o65_stepsPerMarking.ext E
  have F_o65_searchedMarking := F_o65_searchedMarking.ext E
  have F_o65_searchedPlaces := F_o65_searchedPlaces.ext E
  have F_o65_searchedTokens := F_o65_searchedTokens.ext E
  have F_o65_parentPlaces := F_o65_parentPlaces.ext E
  have F_o65_parentTokens := F_o65_parentTokens.ext E
  have F_o65_unmarkedRanks := F_o65_unmarkedRanks.ext E
  have F_o65_searched := F_o65_searched.ext E
  have F_o65_steps := F_o65_steps.ext E
  have Kp := Kp.ext E
  have A_o66 := A_o66.ext E
  have E_o67 := E_o67.ext E
  have F_o67_values := F_o67_values.ext E
  have F_o67_size := F_o67_size.ext E
  have A_o68 := A_o68.ext E
  have E_o70 := E_o70.ext E
  have F_o70_blocks := F_o70_blocks.ext E
  have F_o70_size := F_o70_size.ext E
  have E_o71 := E_o71.ext E
  have A_o71 := A_o71.ext E
  have E_o73 := E_o73.ext E
  have F_o73_values := F_o73_values.ext E
  have F_o73_size := F_o73_size.ext E
  have A_o74 := A_o74.ext E
  have A_o76 := A_o76.ext E
  have A_o77 : Arv Z _ o77 k_o77 .int (1 : Int32) [(.int (0 : Int32))] (.int (0 : Int32)) := A_o77.pad (pad_rep [] _ 1)
  refine s_putfield 75 C X (host := "") d14_72 (Or.inl (mW 130 rfl)) Via.refl F_o65_searchedPlaces E_o65 (Or.inr ⟨(mW 131 rfl), rfl, rfl⟩) (mW 95 rfl) (ty := (.array .int)) (by decide) rfl rfl g_o65 (fun T hh X W => ?_)
  have E_o65 := E_o65.wr W
  have F_o65_tokens := oth F_o65_tokens W (Or.inl (hw _ (mW 102 rfl))) (Or.inr (hw _ (mW 131 rfl))) (by decide)
  have F_o65_nearestFewer := oth F_o65_nearestFewer W (Or.inr (hw _ (mW 106 rfl))) (Or.inr (hw _ (mW 131 rfl))) (by decide)
  have F_o65_nearestUnmarked := oth F_o65_nearestUnmarked W (Or.inr (hw _ (mW 119 rfl))) (Or.inr (hw _ (mW 131 rfl))) (by decide)
  have F_o65_firstNearestUnmarked := oth F_o65_firstNearestUnmarked W (Or.inr (hw _ (mW 121 rfl))) (Or.inr (hw _ (mW 131 rfl))) (by decide)
  have F_o65_markings := oth F_o65_markings W (Or.inr (hw _ (mW 123 rfl))) (Or.inr (hw _ (mW 131 rfl))) (by decide)
  have F_o65_parents := oth F_o65_parents W (Or.inr (hw _ (mW 125 rfl))) (Or.inr (hw _ (mW 131 rfl))) (by decide)
  have F_o65_stepsPerMarking := oth F_o65_stepsPerMarking W (Or.inr (hw _ (mW 127 rfl))) (Or.inr (hw _ (mW 131 rfl))) (by decide)
  have F_o65_searchedMarking := oth F_o65_searchedMarking W (Or.inr (hw _ (mW 129 rfl))) (Or.inr (hw _ (mW 131 rfl))) (by decide)
  have F_o65_searchedPlaces := F_o65_searchedPlaces.same W
  have F_o65_searchedTokens := oth F_o65_searchedTokens W (Or.inr (hw _ (mW 133 rfl))) (Or.inr (hw _ (mW 131 rfl))) (by decide)
  have F_o65_parentPlaces := oth F_o65_parentPlaces W (Or.inr (hw _ (mW 135 rfl))) (Or.inr (hw _ (mW 131 rfl))) (by decide)
  have F_o65_parentTokens := oth F_o65_parentTokens W (Or.inr (hw _ (mW 137 rfl))) (Or.inr (hw _ (mW 131 rfl))) (by decide)
  have F_o65_unmarkedRanks := oth F_o65_unmarkedRanks W (Or.inr (hw _ (mW 139 rfl))) (Or.inr (hw _ (mW 131 rfl))) (by decide)
  have F_o65_searched := oth F_o65_searched W (Or.inl (hw _ (mW 146 rfl))) (Or.inr (hw _ (mW 131 rfl))) (by decide)
  have F_o65_steps := oth F_o65_steps W (Or.inl (hw _ (mW 149 rfl))) (Or.inr (hw _ (mW 131 rfl))) (by decide)
  have Kp := Kp.wr W (Or.inl (by simp))
  have A_o66 := A_o66.other W (Ne.symm ne_o65_o66)
  have E_o67 := E_o67.wr W
  have F_o67_values := F_o67_values.other W (Or.inl (Ne.symm ne_o65_o67))
  have F_o67_size := F_o67_size.other W (Or.inl (Ne.symm ne_o65_o67))
  have A_o68 := A_o68.other W (Ne.symm ne_o65_o68)
  have E_o70 := E_o70.wr W
  have F_o70_blocks := F_o70_blocks.other W (Or.inl (Ne.symm ne_o65_o70))
  have F_o70_size := F_o70_size.other W (Or.inl (Ne.symm ne_o65_o70))
  have E_o71 := E_o71.wr W
  have A_o71 := A_o71.other W (Ne.symm ne_o65_o71)
  have E_o73 := E_o73.wr W
  have F_o73_values := F_o73_values.other W (Or.inl (Ne.symm ne_o65_o73))
  have F_o73_size := F_o73_size.other W (Or.inl (Ne.symm ne_o65_o73))
  have A_o74 := A_o74.other W (Ne.symm ne_o65_o74)
  have A_o76 := A_o76.other W (Ne.symm ne_o65_o76)
  have A_o77 := A_o77.other W (Ne.symm ne_o65_o77)
  refine s_aloadN 76 C X d14_75 rfl rfl ?_
  refine s_iloadN 77 C X d14_76 rfl ?_
  refine s_newarray 79 1 C X d14_77 (mW 0 rfl) (by decide) (by decide) (fun T hh o78 k_o78 hb_o78 X E A_o78 g_o78 => ?_)
  have ne_o65_o78 : o65 ≠ o78 := Nat.ne_of_lt (Nat.lt_of_lt_of_le E_o65.lt (Nat.le_of_eq hb_o78))
  have sz_o78 : h0.size ≤ o78 := Nat.le_trans Kp.1 (Nat.le_of_eq hb_o78)
  have ne_o66_o78 : o66 ≠ o78 := Nat.ne_of_lt (Nat.lt_of_lt_of_le A_o66.lt (Nat.le_of_eq hb_o78))
  have ne_o67_o78 : o67 ≠ o78 := Nat.ne_of_lt (Nat.lt_of_lt_of_le E_o67.lt (Nat.le_of_eq hb_o78))
  have ne_o68_o78 : o68 ≠ o78 := Nat.ne_of_lt (Nat.lt_of_lt_of_le A_o68.lt (Nat.le_of_eq hb_o78))
  have ne_o70_o78 : o70 ≠ o78 := Nat.ne_of_lt (Nat.lt_of_lt_of_le E_o70.lt (Nat.le_of_eq hb_o78))
  have ne_o71_o78 : o71 ≠ o78 := Nat.ne_of_lt (Nat.lt_of_lt_of_le E_o71.lt (Nat.le_of_eq hb_o78))
  have ne_o73_o78 : o73 ≠ o78 := Nat.ne_of_lt (Nat.lt_of_lt_of_le E_o73.lt (Nat.le_of_eq hb_o78))
  have ne_o74_o78 : o74 ≠ o78 := Nat.ne_of_lt (Nat.lt_of_lt_of_le A_o74.lt (Nat.le_of_eq hb_o78))
  have ne_o76_o78 : o76 ≠ o78 := Nat.ne_of_lt (Nat.lt_of_lt_of_le A_o76.lt (Nat.le_of_eq hb_o78))
  have ne_o77_o78 : o77 ≠ o78 := Nat.ne_of_lt (Nat.lt_of_lt_of_le A_o77.lt (Nat.le_of_eq hb_o78))
  have E_o65 := E_o65.ext E
  have F_o65_tokens := F_o65_tokens.ext E
  have F_o65_nearestFewer := F_o65_nearestFewer.ext E
  have F_o65_nearestUnmarked := F_o65_nearestUnmarked.ext E
  have F_o65_firstNearestUnmarked := F_o65_firstNearestUnmarked.ext E
  have F_o65_markings := F_o65_markings.ext E
  have F_o65_parents := F_o65_parents.ext E
  have F_o65_stepsPerMarking := F_o65_stepsPerMarking.ext E
  have F_o65_searchedMarking := F_o65_searchedMarking.ext E
  have F_o65_searchedPlaces := F_o65_searchedPlaces.ext E
  have F_o65_searchedTokens := F_o65_searchedTokens.ext E
  have F_o65_parentPlaces := F_o65_parentPlaces.ext E
  have F_o65_parentTokens := F_o65_parentTokens.ext E
  have F_o65_unmarkedRanks := F_o65_unmarkedRanks.ext E
  have F_o65_searched := F_o65_searched.ext E
  have F_o65_steps := F_o65_steps.ext E
  have Kp := Kp.ext E
  have A_o66 := A_o66.ext E
  have E_o67 := E_o67.ext E
  have F_o67_values := F_o67_values.ext E
  have F_o67_size := F_o67_size.ext E
  have A_o68 := A_o68.ext E
  have E_o70 := E_o70.ext E
  have F_o70_blocks := F_o70_blocks.ext E
  have F_o70_size := F_o70_size.ext E
  have E_o71 := E_o71.ext E
  have A_o71 := A_o71.ext E
  have E_o73 := E_o73.ext E
  have F_o73_values := F_o73_values.ext E
  have F_o73_size := F_o73_size.ext E
  have A_o74 := A_o74.ext E
  have A_o76 := A_o76.ext E
  have A_o77 := A_o77.ext E
  have A_o78 : Arv Z _ o78 k_o78 .long (1 : Int32) [(.long (0 : Int64))] (.long (0 : Int64)) := A_o78.pad (pad_rep [] _ 1)
  refine s_putfield 82 C X (host := "") d14_79 (Or.inl (mW 132 rfl)) Via.refl F_o65_searchedTokens E_o65 (Or.inr ⟨(mW 133 rfl), rfl, rfl⟩) (mW 95 rfl) (ty := (.array .long)) (by decide) rfl rfl g_o65 (fun T hh X W => ?_)
  have E_o65 := E_o65.wr W
  have F_o65_tokens := oth F_o65_tokens W (Or.inl (hw _ (mW 102 rfl))) (Or.inr (hw _ (mW 133 rfl))) (by decide)
  have F_o65_nearestFewer := oth F_o65_nearestFewer W (Or.inr (hw _ (mW 106 rfl))) (Or.inr (hw _ (mW 133 rfl))) (by decide)
  have F_o65_nearestUnmarked := oth F_o65_nearestUnmarked W (Or.inr (hw _ (mW 119 rfl))) (Or.inr (hw _ (mW 133 rfl))) (by decide)
  have F_o65_firstNearestUnmarked := oth F_o65_firstNearestUnmarked W (Or.inr (hw _ (mW 121 rfl))) (Or.inr (hw _ (mW 133 rfl))) (by decide)
  have F_o65_markings := oth F_o65_markings W (Or.inr (hw _ (mW 123 rfl))) (Or.inr (hw _ (mW 133 rfl))) (by decide)
  have F_o65_parents := oth F_o65_parents W (Or.inr (hw _ (mW 125 rfl))) (Or.inr (hw _ (mW 133 rfl))) (by decide)
  have F_o65_stepsPerMarking := oth F_o65_stepsPerMarking W (Or.inr (hw _ (mW 127 rfl))) (Or.inr (hw _ (mW 133 rfl))) (by decide)
  have F_o65_searchedMarking := oth F_o65_searchedMarking W (Or.inr (hw _ (mW 129 rfl))) (Or.inr (hw _ (mW 133 rfl))) (by decide)
  have F_o65_searchedPlaces := oth F_o65_searchedPlaces W (Or.inr (hw _ (mW 131 rfl))) (Or.inr (hw _ (mW 133 rfl))) (by decide)
  have F_o65_searchedTokens := F_o65_searchedTokens.same W
  have F_o65_parentPlaces := oth F_o65_parentPlaces W (Or.inr (hw _ (mW 135 rfl))) (Or.inr (hw _ (mW 133 rfl))) (by decide)
  have F_o65_parentTokens := oth F_o65_parentTokens W (Or.inr (hw _ (mW 137 rfl))) (Or.inr (hw _ (mW 133 rfl))) (by decide)
  have F_o65_unmarkedRanks := oth F_o65_unmarkedRanks W (Or.inr (hw _ (mW 139 rfl))) (Or.inr (hw _ (mW 133 rfl))) (by decide)
  have F_o65_searched := oth F_o65_searched W (Or.inl (hw _ (mW 146 rfl))) (Or.inr (hw _ (mW 133 rfl))) (by decide)
  have F_o65_steps := oth F_o65_steps W (Or.inl (hw _ (mW 149 rfl))) (Or.inr (hw _ (mW 133 rfl))) (by decide)
  have Kp := Kp.wr W (Or.inl (by simp))
  have A_o66 := A_o66.other W (Ne.symm ne_o65_o66)
  have E_o67 := E_o67.wr W
  have F_o67_values := F_o67_values.other W (Or.inl (Ne.symm ne_o65_o67))
  have F_o67_size := F_o67_size.other W (Or.inl (Ne.symm ne_o65_o67))
  have A_o68 := A_o68.other W (Ne.symm ne_o65_o68)
  have E_o70 := E_o70.wr W
  have F_o70_blocks := F_o70_blocks.other W (Or.inl (Ne.symm ne_o65_o70))
  have F_o70_size := F_o70_size.other W (Or.inl (Ne.symm ne_o65_o70))
  have E_o71 := E_o71.wr W
  have A_o71 := A_o71.other W (Ne.symm ne_o65_o71)
  have E_o73 := E_o73.wr W
  have F_o73_values := F_o73_values.other W (Or.inl (Ne.symm ne_o65_o73))
  have F_o73_size := F_o73_size.other W (Or.inl (Ne.symm ne_o65_o73))
  have A_o74 := A_o74.other W (Ne.symm ne_o65_o74)
  have A_o76 := A_o76.other W (Ne.symm ne_o65_o76)
  have A_o77 := A_o77.other W (Ne.symm ne_o65_o77)
  have A_o78 := A_o78.other W (Ne.symm ne_o65_o78)
  refine s_aloadN 83 C X d14_82 rfl rfl ?_
  refine s_iloadN 84 C X d14_83 rfl ?_
  refine s_newarray 86 1 C X d14_84 (mW 22 rfl) (by decide) (by decide) (fun T hh o79 k_o79 hb_o79 X E A_o79 g_o79 => ?_)
  have ne_o65_o79 : o65 ≠ o79 := Nat.ne_of_lt (Nat.lt_of_lt_of_le E_o65.lt (Nat.le_of_eq hb_o79))
  have sz_o79 : h0.size ≤ o79 := Nat.le_trans Kp.1 (Nat.le_of_eq hb_o79)
  have ne_o66_o79 : o66 ≠ o79 := Nat.ne_of_lt (Nat.lt_of_lt_of_le A_o66.lt (Nat.le_of_eq hb_o79))
  have ne_o67_o79 : o67 ≠ o79 := Nat.ne_of_lt (Nat.lt_of_lt_of_le E_o67.lt (Nat.le_of_eq hb_o79))
  have ne_o68_o79 : o68 ≠ o79 := Nat.ne_of_lt (Nat.lt_of_lt_of_le A_o68.lt (Nat.le_of_eq hb_o79))
  have ne_o70_o79 : o70 ≠ o79 := Nat.ne_of_lt (Nat.lt_of_lt_of_le E_o70.lt (Nat.le_of_eq hb_o79))
  have ne_o71_o79 : o71 ≠ o79 := Nat.ne_of_lt (Nat.lt_of_lt_of_le E_o71.lt (Nat.le_of_eq hb_o79))
  have ne_o73_o79 : o73 ≠ o79 := Nat.ne_of_lt (Nat.lt_of_lt_of_le E_o73.lt (Nat.le_of_eq hb_o79))
  have ne_o74_o79 : o74 ≠ o79 := Nat.ne_of_lt (Nat.lt_of_lt_of_le A_o74.lt (Nat.le_of_eq hb_o79))
  have ne_o76_o79 : o76 ≠ o79 := Nat.ne_of_lt (Nat.lt_of_lt_of_le A_o76.lt (Nat.le_of_eq hb_o79))
  have ne_o77_o79 : o77 ≠ o79 := Nat.ne_of_lt (Nat.lt_of_lt_of_le A_o77.lt (Nat.le_of_eq hb_o79))
  have ne_o78_o79 : o78 ≠ o79 := Nat.ne_of_lt (Nat.lt_of_lt_of_le A_o78.lt (Nat.le_of_eq hb_o79))
  have E_o65 := E_o65.ext E
  have F_o65_tokens := F_o65_tokens.ext E
  have F_o65_nearestFewer := F_o65_nearestFewer.ext E
  have F_o65_nearestUnmarked := F_o65_nearestUnmarked.ext E
  have F_o65_firstNearestUnmarked := F_o65_firstNearestUnmarked.ext E
  have F_o65_markings := F_o65_markings.ext E
  have F_o65_parents := F_o65_parents.ext E
  have F_o65_stepsPerMarking := F_o65_stepsPerMarking.ext E
  have F_o65_searchedMarking := F_o65_searchedMarking.ext E
  have F_o65_searchedPlaces := F_o65_searchedPlaces.ext E
  have F_o65_searchedTokens := F_o65_searchedTokens.ext E
  have F_o65_parentPlaces := F_o65_parentPlaces.ext E
  have F_o65_parentTokens := F_o65_parentTokens.ext E
  have F_o65_unmarkedRanks := F_o65_unmarkedRanks.ext E
  have F_o65_searched := F_o65_searched.ext E
  have F_o65_steps := F_o65_steps.ext E
  have Kp := Kp.ext E
  have A_o66 := A_o66.ext E
  have E_o67 := E_o67.ext E
  have F_o67_values := F_o67_values.ext E
  have F_o67_size := F_o67_size.ext E
  have A_o68 := A_o68.ext E
  have E_o70 := E_o70.ext E
  have F_o70_blocks := F_o70_blocks.ext E
  have F_o70_size := F_o70_size.ext E
  have E_o71 := E_o71.ext E
  have A_o71 := A_o71.ext E
  have E_o73 := E_o73.ext E
  have F_o73_values := F_o73_values.ext E
  have F_o73_size := F_o73_size.ext E
  have A_o74 := A_o74.ext E
  have A_o76 := A_o76.ext E
  have A_o77 := A_o77.ext E
  have A_o78 := A_o78.ext E
  have A_o79 : Arv Z _ o79 k_o79 .int (1 : Int32) [(.int (0 : Int32))] (.int (0 : Int32)) := A_o79.pad (pad_rep [] _ 1)
  refine s_putfield 89 C X (host := "") d14_86 (Or.inl (mW 134 rfl)) Via.refl F_o65_parentPlaces E_o65 (Or.inr ⟨(mW 135 rfl), rfl, rfl⟩) (mW 95 rfl) (ty := (.array .int)) (by decide) rfl rfl g_o65 (fun T hh X W => ?_)
  have E_o65 := E_o65.wr W
  have F_o65_tokens := oth F_o65_tokens W (Or.inl (hw _ (mW 102 rfl))) (Or.inr (hw _ (mW 135 rfl))) (by decide)
  have F_o65_nearestFewer := oth F_o65_nearestFewer W (Or.inr (hw _ (mW 106 rfl))) (Or.inr (hw _ (mW 135 rfl))) (by decide)
  have F_o65_nearestUnmarked := oth F_o65_nearestUnmarked W (Or.inr (hw _ (mW 119 rfl))) (Or.inr (hw _ (mW 135 rfl))) (by decide)
  have F_o65_firstNearestUnmarked := oth F_o65_firstNearestUnmarked W (Or.inr (hw _ (mW 121 rfl))) (Or.inr (hw _ (mW 135 rfl))) (by decide)
  have F_o65_markings := oth F_o65_markings W (Or.inr (hw _ (mW 123 rfl))) (Or.inr (hw _ (mW 135 rfl))) (by decide)
  have F_o65_parents := oth F_o65_parents W (Or.inr (hw _ (mW 125 rfl))) (Or.inr (hw _ (mW 135 rfl))) (by decide)
  have F_o65_stepsPerMarking := oth F_o65_stepsPerMarking W (Or.inr (hw _ (mW 127 rfl))) (Or.inr (hw _ (mW 135 rfl))) (by decide)
  have F_o65_searchedMarking := oth F_o65_searchedMarking W (Or.inr (hw _ (mW 129 rfl))) (Or.inr (hw _ (mW 135 rfl))) (by decide)
  have F_o65_searchedPlaces := oth F_o65_searchedPlaces W (Or.inr (hw _ (mW 131 rfl))) (Or.inr (hw _ (mW 135 rfl))) (by decide)
  have F_o65_searchedTokens := oth F_o65_searchedTokens W (Or.inr (hw _ (mW 133 rfl))) (Or.inr (hw _ (mW 135 rfl))) (by decide)
  have F_o65_parentPlaces := F_o65_parentPlaces.same W
  have F_o65_parentTokens := oth F_o65_parentTokens W (Or.inr (hw _ (mW 137 rfl))) (Or.inr (hw _ (mW 135 rfl))) (by decide)
  have F_o65_unmarkedRanks := oth F_o65_unmarkedRanks W (Or.inr (hw _ (mW 139 rfl))) (Or.inr (hw _ (mW 135 rfl))) (by decide)
  have F_o65_searched := oth F_o65_searched W (Or.inl (hw _ (mW 146 rfl))) (Or.inr (hw _ (mW 135 rfl))) (by decide)
  have F_o65_steps := oth F_o65_steps W (Or.inl (hw _ (mW 149 rfl))) (Or.inr (hw _ (mW 135 rfl))) (by decide)
  have Kp := Kp.wr W (Or.inl (by simp))
  have A_o66 := A_o66.other W (Ne.symm ne_o65_o66)
  have E_o67 := E_o67.wr W
  have F_o67_values := F_o67_values.other W (Or.inl (Ne.symm ne_o65_o67))
  have F_o67_size := F_o67_size.other W (Or.inl (Ne.symm ne_o65_o67))
  have A_o68 := A_o68.other W (Ne.symm ne_o65_o68)
  have E_o70 := E_o70.wr W
  have F_o70_blocks := F_o70_blocks.other W (Or.inl (Ne.symm ne_o65_o70))
  have F_o70_size := F_o70_size.other W (Or.inl (Ne.symm ne_o65_o70))
  have E_o71 := E_o71.wr W
  have A_o71 := A_o71.other W (Ne.symm ne_o65_o71)
  have E_o73 := E_o73.wr W
  have F_o73_values := F_o73_values.other W (Or.inl (Ne.symm ne_o65_o73))
  have F_o73_size := F_o73_size.other W (Or.inl (Ne.symm ne_o65_o73))
  have A_o74 := A_o74.other W (Ne.symm ne_o65_o74)
  have A_o76 := A_o76.other W (Ne.symm ne_o65_o76)
  have A_o77 := A_o77.other W (Ne.symm ne_o65_o77)
  have A_o78 := A_o78.other W (Ne.symm ne_o65_o78)
  have A_o79 := A_o79.other W (Ne.symm ne_o65_o79)
  refine s_aloadN 90 C X d14_89 rfl rfl ?_
  refine s_iloadN 91 C X d14_90 rfl ?_
  refine s_newarray 93 1 C X d14_91 (mW 0 rfl) (by decide) (by decide) (fun T hh o80 k_o80 hb_o80 X E A_o80 g_o80 => ?_)
  have ne_o65_o80 : o65 ≠ o80 := Nat.ne_of_lt (Nat.lt_of_lt_of_le E_o65.lt (Nat.le_of_eq hb_o80))
  have sz_o80 : h0.size ≤ o80 := Nat.le_trans Kp.1 (Nat.le_of_eq hb_o80)
  have ne_o66_o80 : o66 ≠ o80 := Nat.ne_of_lt (Nat.lt_of_lt_of_le A_o66.lt (Nat.le_of_eq hb_o80))
  have ne_o67_o80 : o67 ≠ o80 := Nat.ne_of_lt (Nat.lt_of_lt_of_le E_o67.lt (Nat.le_of_eq hb_o80))
  have ne_o68_o80 : o68 ≠ o80 := Nat.ne_of_lt (Nat.lt_of_lt_of_le A_o68.lt (Nat.le_of_eq hb_o80))
  have ne_o70_o80 : o70 ≠ o80 := Nat.ne_of_lt (Nat.lt_of_lt_of_le E_o70.lt (Nat.le_of_eq hb_o80))
  have ne_o71_o80 : o71 ≠ o80 := Nat.ne_of_lt (Nat.lt_of_lt_of_le E_o71.lt (Nat.le_of_eq hb_o80))
  have ne_o73_o80 : o73 ≠ o80 := Nat.ne_of_lt (Nat.lt_of_lt_of_le E_o73.lt (Nat.le_of_eq hb_o80))
  have ne_o74_o80 : o74 ≠ o80 := Nat.ne_of_lt (Nat.lt_of_lt_of_le A_o74.lt (Nat.le_of_eq hb_o80))
  have ne_o76_o80 : o76 ≠ o80 := Nat.ne_of_lt (Nat.lt_of_lt_of_le A_o76.lt (Nat.le_of_eq hb_o80))
  have ne_o77_o80 : o77 ≠ o80 := Nat.ne_of_lt (Nat.lt_of_lt_of_le A_o77.lt (Nat.le_of_eq hb_o80))
  have ne_o78_o80 : o78 ≠ o80 := Nat.ne_of_lt (Nat.lt_of_lt_of_le A_o78.lt (Nat.le_of_eq hb_o80))
  have ne_o79_o80 : o79 ≠ o80 := Nat.ne_of_lt (Nat.lt_of_lt_of_le A_o79.lt (Nat.le_of_eq hb_o80))
  have E_o65 := E_o65.ext E
  have F_o65_tokens := F_o65_tokens.ext E
  have F_o65_nearestFewer := F_o65_nearestFewer.ext E
  have F_o65_nearestUnmarked := F_o65_nearestUnmarked.ext E
  have F_o65_firstNearestUnmarked := F_o65_firstNearestUnmarked.ext E
  have F_o65_markings := F_o65_markings.ext E
  have F_o65_parents := F_o65_parents.ext E
  have F_o65_stepsPerMarking := F_o65_stepsPerMarking.ext E
  have F_o65_searchedMarking := F_o65_searchedMarking.ext E
  have F_o65_searchedPlaces := F_o65_searchedPlaces.ext E
  have F_o65_searchedTokens := F_o65_searchedTokens.ext E
  have F_o65_parentPlaces := F_o65_parentPlaces.ext E
  have F_o65_parentTokens := F_o65_parentTokens.ext E
  have F_o65_unmarkedRanks := F_o65_unmarkedRanks.ext E
  have F_o65_searched := F_o65_searched.ext E
  have F_o65_steps := F_o65_steps.ext E
  have Kp := Kp.ext E
  have A_o66 := A_o66.ext E
  have E_o67 := E_o67.ext E
  have F_o67_values := F_o67_values.ext E
  have F_o67_size := F_o67_size.ext E
  have A_o68 := A_o68.ext E
  have E_o70 := E_o70.ext E
  have F_o70_blocks := F_o70_blocks.ext E
  have F_o70_size := F_o70_size.ext E
  have E_o71 := E_o71.ext E
  have A_o71 := A_o71.ext E
  have E_o73 := E_o73.ext E
  have F_o73_values := F_o73_values.ext E
  have F_o73_size := F_o73_size.ext E
  have A_o74 := A_o74.ext E
  have A_o76 := A_o76.ext E
  have A_o77 := A_o77.ext E
  have A_o78 := A_o78.ext E
  have A_o79 := A_o79.ext E
  have A_o80 : Arv Z _ o80 k_o80 .long (1 : Int32) [(.long (0 : Int64))] (.long (0 : Int64)) := A_o80.pad (pad_rep [] _ 1)
  refine s_putfield 96 C X (host := "") d14_93 (Or.inl (mW 136 rfl)) Via.refl F_o65_parentTokens E_o65 (Or.inr ⟨(mW 137 rfl), rfl, rfl⟩) (mW 95 rfl) (ty := (.array .long)) (by decide) rfl rfl g_o65 (fun T hh X W => ?_)
  have E_o65 := E_o65.wr W
  have F_o65_tokens := oth F_o65_tokens W (Or.inl (hw _ (mW 102 rfl))) (Or.inr (hw _ (mW 137 rfl))) (by decide)
  have F_o65_nearestFewer := oth F_o65_nearestFewer W (Or.inr (hw _ (mW 106 rfl))) (Or.inr (hw _ (mW 137 rfl))) (by decide)
  have F_o65_nearestUnmarked := oth F_o65_nearestUnmarked W (Or.inr (hw _ (mW 119 rfl))) (Or.inr (hw _ (mW 137 rfl))) (by decide)
  have F_o65_firstNearestUnmarked := oth F_o65_firstNearestUnmarked W (Or.inr (hw _ (mW 121 rfl))) (Or.inr (hw _ (mW 137 rfl))) (by decide)
  have F_o65_markings := oth F_o65_markings W (Or.inr (hw _ (mW 123 rfl))) (Or.inr (hw _ (mW 137 rfl))) (by decide)
  have F_o65_parents := oth F_o65_parents W (Or.inr (hw _ (mW 125 rfl))) (Or.inr (hw _ (mW 137 rfl))) (by decide)
  have F_o65_stepsPerMarking := oth F_o65_stepsPerMarking W (Or.inr (hw _ (mW 127 rfl))) (Or.inr (hw _ (mW 137 rfl))) (by decide)
  have F_o65_searchedMarking := oth F_o65_searchedMarking W (Or.inr (hw _ (mW 129 rfl))) (Or.inr (hw _ (mW 137 rfl))) (by decide)
  have F_o65_searchedPlaces := oth F_o65_searchedPlaces W (Or.inr (hw _ (mW 131 rfl))) (Or.inr (hw _ (mW 137 rfl))) (by decide)
  have F_o65_searchedTokens := oth F_o65_searchedTokens W (Or.inr (hw _ (mW 133 rfl))) (Or.inr (hw _ (mW 137 rfl))) (by decide)
  have F_o65_parentPlaces := oth F_o65_parentPlaces W (Or.inr (hw _ (mW 135 rfl))) (Or.inr (hw _ (mW 137 rfl))) (by decide)
  have F_o65_parentTokens := F_o65_parentTokens.same W
  have F_o65_unmarkedRanks := oth F_o65_unmarkedRanks W (Or.inr (hw _ (mW 139 rfl))) (Or.inr (hw _ (mW 137 rfl))) (by decide)
  have F_o65_searched := oth F_o65_searched W (Or.inl (hw _ (mW 146 rfl))) (Or.inr (hw _ (mW 137 rfl))) (by decide)
  have F_o65_steps := oth F_o65_steps W (Or.inl (hw _ (mW 149 rfl))) (Or.inr (hw _ (mW 137 rfl))) (by decide)
  have Kp := Kp.wr W (Or.inl (by simp))
  have A_o66 := A_o66.other W (Ne.symm ne_o65_o66)
  have E_o67 := E_o67.wr W
  have F_o67_values := F_o67_values.other W (Or.inl (Ne.symm ne_o65_o67))
  have F_o67_size := F_o67_size.other W (Or.inl (Ne.symm ne_o65_o67))
  have A_o68 := A_o68.other W (Ne.symm ne_o65_o68)
  have E_o70 := E_o70.wr W
  have F_o70_blocks := F_o70_blocks.other W (Or.inl (Ne.symm ne_o65_o70))
  have F_o70_size := F_o70_size.other W (Or.inl (Ne.symm ne_o65_o70))
  have E_o71 := E_o71.wr W
  have A_o71 := A_o71.other W (Ne.symm ne_o65_o71)
  have E_o73 := E_o73.wr W
  have F_o73_values := F_o73_values.other W (Or.inl (Ne.symm ne_o65_o73))
  have F_o73_size := F_o73_size.other W (Or.inl (Ne.symm ne_o65_o73))
  have A_o74 := A_o74.other W (Ne.symm ne_o65_o74)
  have A_o76 := A_o76.other W (Ne.symm ne_o65_o76)
  have A_o77 := A_o77.other W (Ne.symm ne_o65_o77)
  have A_o78 := A_o78.other W (Ne.symm ne_o65_o78)
  have A_o79 := A_o79.other W (Ne.symm ne_o65_o79)
  have A_o80 := A_o80.other W (Ne.symm ne_o65_o80)
  refine s_aloadN 97 C X d14_96 rfl rfl ?_
  refine s_iloadN 98 C X d14_97 rfl ?_
  refine s_newarray 100 1 C X d14_98 (mW 22 rfl) (by decide) (by decide) (fun T hh o81 k_o81 hb_o81 X E A_o81 g_o81 => ?_)
  have ne_o65_o81 : o65 ≠ o81 := Nat.ne_of_lt (Nat.lt_of_lt_of_le E_o65.lt (Nat.le_of_eq hb_o81))
  have sz_o81 : h0.size ≤ o81 := Nat.le_trans Kp.1 (Nat.le_of_eq hb_o81)
  have ne_o66_o81 : o66 ≠ o81 := Nat.ne_of_lt (Nat.lt_of_lt_of_le A_o66.lt (Nat.le_of_eq hb_o81))
  have ne_o67_o81 : o67 ≠ o81 := Nat.ne_of_lt (Nat.lt_of_lt_of_le E_o67.lt (Nat.le_of_eq hb_o81))
  have ne_o68_o81 : o68 ≠ o81 := Nat.ne_of_lt (Nat.lt_of_lt_of_le A_o68.lt (Nat.le_of_eq hb_o81))
  have ne_o70_o81 : o70 ≠ o81 := Nat.ne_of_lt (Nat.lt_of_lt_of_le E_o70.lt (Nat.le_of_eq hb_o81))
  have ne_o71_o81 : o71 ≠ o81 := Nat.ne_of_lt (Nat.lt_of_lt_of_le E_o71.lt (Nat.le_of_eq hb_o81))
  have ne_o73_o81 : o73 ≠ o81 := Nat.ne_of_lt (Nat.lt_of_lt_of_le E_o73.lt (Nat.le_of_eq hb_o81))
  have ne_o74_o81 : o74 ≠ o81 := Nat.ne_of_lt (Nat.lt_of_lt_of_le A_o74.lt (Nat.le_of_eq hb_o81))
  have ne_o76_o81 : o76 ≠ o81 := Nat.ne_of_lt (Nat.lt_of_lt_of_le A_o76.lt (Nat.le_of_eq hb_o81))
  have ne_o77_o81 : o77 ≠ o81 := Nat.ne_of_lt (Nat.lt_of_lt_of_le A_o77.lt (Nat.le_of_eq hb_o81))
  have ne_o78_o81 : o78 ≠ o81 := Nat.ne_of_lt (Nat.lt_of_lt_of_le A_o78.lt (Nat.le_of_eq hb_o81))
  have ne_o79_o81 : o79 ≠ o81 := Nat.ne_of_lt (Nat.lt_of_lt_of_le A_o79.lt (Nat.le_of_eq hb_o81))
  have ne_o80_o81 : o80 ≠ o81 := Nat.ne_of_lt (Nat.lt_of_lt_of_le A_o80.lt (Nat.le_of_eq hb_o81))
  have E_o65 := E_o65.ext E
  have F_o65_tokens := F_o65_tokens.ext E
  have F_o65_nearestFewer := F_o65_nearestFewer.ext E
  have F_o65_nearestUnmarked := F_o65_nearestUnmarked.ext E
  have F_o65_firstNearestUnmarked := F_o65_firstNearestUnmarked.ext E
  have F_o65_markings := F_o65_markings.ext E
  have F_o65_parents := F_o65_parents.ext E
  have F_o65_stepsPerMarking := F_o65_stepsPerMarking.ext E
  have F_o65_searchedMarking := F_o65_searchedMarking.ext E
  have F_o65_searchedPlaces := F_o65_searchedPlaces.ext E
  have F_o65_searchedTokens := F_o65_searchedTokens.ext E
  have F_o65_parentPlaces := F_o65_parentPlaces.ext E
  have F_o65_parentTokens := F_o65_parentTokens.ext E
  have F_o65_unmarkedRanks := F_o65_unmarkedRanks.ext E
  have F_o65_searched := F_o65_searched.ext E
  have F_o65_steps := F_o65_steps.ext E
  have Kp := Kp.ext E
  have A_o66 := A_o66.ext E
  have E_o67 := E_o67.ext E
  have F_o67_values := F_o67_values.ext E
  have F_o67_size := F_o67_size.ext E
  have A_o68 := A_o68.ext E
  have E_o70 := E_o70.ext E
  have F_o70_blocks := F_o70_blocks.ext E
  have F_o70_size := F_o70_size.ext E
  have E_o71 := E_o71.ext E
  have A_o71 := A_o71.ext E
  have E_o73 := E_o73.ext E
  have F_o73_values := F_o73_values.ext E
  have F_o73_size := F_o73_size.ext E
  have A_o74 := A_o74.ext E
  have A_o76 := A_o76.ext E
  have A_o77 := A_o77.ext E
  have A_o78 := A_o78.ext E
  have A_o79 := A_o79.ext E
  have A_o80 := A_o80.ext E
  have A_o81 : Arv Z _ o81 k_o81 .int (1 : Int32) [(.int (0 : Int32))] (.int (0 : Int32)) := A_o81.pad (pad_rep [] _ 1)
  refine s_putfield 103 C X (host := "") d14_100 (Or.inl (mW 138 rfl)) Via.refl F_o65_unmarkedRanks E_o65 (Or.inr ⟨(mW 139 rfl), rfl, rfl⟩) (mW 95 rfl) (ty := (.array .int)) (by decide) rfl rfl g_o65 (fun T hh X W => ?_)
  have E_o65 := E_o65.wr W
  have F_o65_tokens := oth F_o65_tokens W (Or.inl (hw _ (mW 102 rfl))) (Or.inr (hw _ (mW 139 rfl))) (by decide)
  have F_o65_nearestFewer := oth F_o65_nearestFewer W (Or.inr (hw _ (mW 106 rfl))) (Or.inr (hw _ (mW 139 rfl))) (by decide)
  have F_o65_nearestUnmarked := oth F_o65_nearestUnmarked W (Or.inr (hw _ (mW 119 rfl))) (Or.inr (hw _ (mW 139 rfl))) (by decide)
  have F_o65_firstNearestUnmarked := oth F_o65_firstNearestUnmarked W (Or.inr (hw _ (mW 121 rfl))) (Or.inr (hw _ (mW 139 rfl))) (by decide)
  have F_o65_markings := oth F_o65_markings W (Or.inr (hw _ (mW 123 rfl))) (Or.inr (hw _ (mW 139 rfl))) (by decide)
  have F_o65_parents := oth F_o65_parents W (Or.inr (hw _ (mW 125 rfl))) (Or.inr (hw _ (mW 139 rfl))) (by decide)
  have F_o65_stepsPerMarking := oth F_o65_stepsPerMarking W (Or.inr (hw _ (mW 127 rfl))) (Or.inr (hw _ (mW 139 rfl))) (by decide)
  have F_o65_searchedMarking := oth F_o65_searchedMarking W (Or.inr (hw _ (mW 129 rfl))) (Or.inr (hw _ (mW 139 rfl))) (by decide)
  have F_o65_searchedPlaces := oth F_o65_searchedPlaces W (Or.inr (hw _ (mW 131 rfl))) (Or.inr (hw _ (mW 139 rfl))) (by decide)
  have F_o65_searchedTokens := oth F_o65_searchedTokens W (Or.inr (hw _ (mW 133 rfl))) (Or.inr (hw _ (mW 139 rfl))) (by decide)
  have F_o65_parentPlaces := oth F_o65_parentPlaces W (Or.inr (hw _ (mW 135 rfl))) (Or.inr (hw _ (mW 139 rfl))) (by decide)
  have F_o65_parentTokens := oth F_o65_parentTokens W (Or.inr (hw _ (mW 137 rfl))) (Or.inr (hw _ (mW 139 rfl))) (by decide)
  have F_o65_unmarkedRanks := F_o65_unmarkedRanks.same W
  have F_o65_searched := oth F_o65_searched W (Or.inl (hw _ (mW 146 rfl))) (Or.inr (hw _ (mW 139 rfl))) (by decide)
  have F_o65_steps := oth F_o65_steps W (Or.inl (hw _ (mW 149 rfl))) (Or.inr (hw _ (mW 139 rfl))) (by decide)
  have Kp := Kp.wr W (Or.inl (by simp))
  have A_o66 := A_o66.other W (Ne.symm ne_o65_o66)
  have E_o67 := E_o67.wr W
  have F_o67_values := F_o67_values.other W (Or.inl (Ne.symm ne_o65_o67))
  have F_o67_size := F_o67_size.other W (Or.inl (Ne.symm ne_o65_o67))
  have A_o68 := A_o68.other W (Ne.symm ne_o65_o68)
  have E_o70 := E_o70.wr W
  have F_o70_blocks := F_o70_blocks.other W (Or.inl (Ne.symm ne_o65_o70))
  have F_o70_size := F_o70_size.other W (Or.inl (Ne.symm ne_o65_o70))
  have E_o71 := E_o71.wr W
  have A_o71 := A_o71.other W (Ne.symm ne_o65_o71)
  have E_o73 := E_o73.wr W
  have F_o73_values := F_o73_values.other W (Or.inl (Ne.symm ne_o65_o73))
  have F_o73_size := F_o73_size.other W (Or.inl (Ne.symm ne_o65_o73))
  have A_o74 := A_o74.other W (Ne.symm ne_o65_o74)
  have A_o76 := A_o76.other W (Ne.symm ne_o65_o76)
  have A_o77 := A_o77.other W (Ne.symm ne_o65_o77)
  have A_o78 := A_o78.other W (Ne.symm ne_o65_o78)
  have A_o79 := A_o79.other W (Ne.symm ne_o65_o79)
  have A_o80 := A_o80.other W (Ne.symm ne_o65_o80)
  have A_o81 := A_o81.other W (Ne.symm ne_o65_o81)
  refine s_return C X d14_103 rfl ?_
  exact ⟨o66, o67, k_o66, o68, k_o68, o70, o71, k_o71, o73, o74, k_o74, o76, o77, o78, o79, o80, o81, k_o76, k_o77, k_o78, k_o79, k_o80, k_o81, rfl, E_o65, F_o65_tokens, F_o65_nearestFewer, F_o65_nearestUnmarked, F_o65_firstNearestUnmarked, F_o65_markings, F_o65_parents, F_o65_stepsPerMarking, F_o65_searchedMarking, F_o65_searchedPlaces, F_o65_searchedTokens, F_o65_parentPlaces, F_o65_parentTokens, F_o65_unmarkedRanks, F_o65_searched, F_o65_steps, Kp, A_o66, E_o67, F_o67_values, F_o67_size, A_o68, E_o70, F_o70_blocks, F_o70_size, E_o71, A_o71, E_o73, F_o73_values, F_o73_size, A_o74, A_o76, A_o77, A_o78, A_o79, A_o80, A_o81, ne_o65_o66, sz_o66, g_o66, ne_o65_o67, sz_o67, ne_o66_o67, g_o67, ne_o65_o68, ne_o66_o68, sz_o68, g_o68, ne_o67_o68, ne_o65_o70, sz_o70, ne_o66_o70, ne_o67_o70, ne_o68_o70, g_o70, ne_o65_o71, ne_o66_o71, ne_o67_o71, ne_o68_o71, sz_o71, g_o71, ne_o70_o71, O_o71, ne_o65_o73, sz_o73, ne_o66_o73, ne_o67_o73, ne_o68_o73, ne_o70_o73, ne_o71_o73, g_o73, ne_o65_o74, ne_o66_o74, ne_o67_o74, ne_o68_o74, ne_o70_o74, ne_o71_o74, sz_o74, g_o74, ne_o73_o74, ne_o65_o76, sz_o76, ne_o66_o76, ne_o67_o76, ne_o68_o76, ne_o70_o76, ne_o71_o76, ne_o73_o76, ne_o74_o76, g_o76, ne_o65_o77, sz_o77, ne_o66_o77, ne_o67_o77, ne_o68_o77, ne_o70_o77, ne_o71_o77, ne_o73_o77, ne_o74_o77, ne_o76_o77, g_o77, ne_o65_o78, sz_o78, ne_o66_o78, ne_o67_o78, ne_o68_o78, ne_o70_o78, ne_o71_o78, ne_o73_o78, ne_o74_o78, ne_o76_o78, ne_o77_o78, g_o78, ne_o65_o79, sz_o79, ne_o66_o79, ne_o67_o79, ne_o68_o79, ne_o70_o79, ne_o71_o79, ne_o73_o79, ne_o74_o79, ne_o76_o79, ne_o77_o79, ne_o78_o79, g_o79, ne_o65_o80, sz_o80, ne_o66_o80, ne_o67_o80, ne_o68_o80, ne_o70_o80, ne_o71_o80, ne_o73_o80, ne_o74_o80, ne_o76_o80, ne_o77_o80, ne_o78_o80, ne_o79_o80, g_o80, ne_o65_o81, sz_o81, ne_o66_o81, ne_o67_o81, ne_o68_o81, ne_o70_o81, ne_o71_o81, ne_o73_o81, ne_o74_o81, ne_o76_o81, ne_o77_o81, ne_o78_o81, ne_o79_o81, ne_o80_o81, g_o81⟩
set_option maxRecDepth 65536 in
set_option maxHeartbeats 40000000 in
theorem rm_a147 (l : Launch) (Z : State) (a0 : Array Value) (hw : ∀ d ∈ tables_1, d.before a0 Z = true) (o5 : Addr) (o6 : Addr) (k_o6 : ClassId) (h0 : Heap) (n0 : Nat) (Z0 : n0 ≤ h0.size) (F_o5_values : Fld Z h0 o5 "com/example/eventloom/eventloom/net/IntList" "values" "[I" (.ref o6)) (A_o6 : Arv Z h0 o6 k_o6 .int (16 : Int32) [(.int (0 : Int32)), (.int (0 : Int32)), (.int (0 : Int32)), (.int (0 : Int32)), (.int (0 : Int32)), (.int (0 : Int32)), (.int (0 : Int32)), (.int (0 : Int32)), (.int (0 : Int32)), (.int (0 : Int32)), (.int (0 : Int32)), (.int (0 : Int32)), (.int (0 : Int32)), (.int (0 : Int32)), (.int (0 : Int32)), (.int (0 : Int32))] (.int (0 : Int32))) :
    Met l Z (⟨"com/example/eventloom/eventloom/net/IntList", "get", "(I)I"⟩ : MethodName) prog_85_method_3_code 2 (some .int) { frames := 0, cells := 0, slots := 0, locals := 0 } [] #[(.ref o5), (.int (0 : Int32))] h0 n0 (fun v h => v = some (.int (0 : Int32)) ∧ Keep h0 h []) := by
  refine Met.mk (tabs := tables_1) (a0 := a0) (ls0 := #[.val (.ref o5), .val (.int (0 : Int32))]) (plainFor_of_name pn_com_example_eventloom_eventloom_net_IntList) hw Z0 (fun m => by first | (simp [entryFrame, mkF, argsToLocals, Value.category]; done) | rfl) ?_
  intro p e s m below meth c T C X
  have Kp : Keep h0 h0 [] := Keep.refl _ _
  refine s_aloadN 1 C X d20_0 rfl rfl ?_
  refine s_getfield 4 C X (host := "") d20_1 (Or.inl (mW 23 rfl)) Via.refl F_o5_values (fun T X => ?_)
  refine s_iloadN 5 C X d20_4 rfl ?_
  refine s_iaload 6 C X d20_5 A_o6 ⟨by decide, by decide⟩ (v := (.int (0 : Int32))) rfl ?_
  refine s_ireturn C X d20_6 rfl ?_
  exact ⟨rfl, Kp⟩
set_option maxRecDepth 65536 in
set_option maxHeartbeats 40000000 in
theorem rm_a151 (l : Launch) (Z : State) (a0 : Array Value) (hw : ∀ d ∈ tables_1, d.before a0 Z = true) (o3 : Addr) (o5 : Addr) (h0 : Heap) (n0 : Nat) (Z0 : n0 ≤ h0.size) (E_o3 : Exa Z h0 o3 "com/example/eventloom/eventloom/net/MarkingStore") (F_o3_starts : Fld Z h0 o3 "com/example/eventloom/eventloom/net/MarkingStore" "starts" "Lcom/example/eventloom/eventloom/net/IntList;" (.ref o5)) (F_o3_length : Fld Z h0 o3 "com/example/eventloom/eventloom/net/MarkingStore" "length" "I" (.int (2 : Int32))) (E_o5 : Exa Z h0 o5 "com/example/eventloom/eventloom/net/IntList") (F_o5_size : Fld Z h0 o5 "com/example/eventloom/eventloom/net/IntList" "size" "I" (.int (1 : Int32))) :
    Met l Z (⟨"com/example/eventloom/eventloom/net/MarkingStore", "end", "(I)I"⟩ : MethodName) prog_86_method_9_code 2 (some .int) { frames := 2, cells := 0, slots := 0, locals := 25 } [] #[(.ref o3), (.int (0 : Int32))] h0 n0 (fun v h => v = some (.int (2 : Int32)) ∧ Keep h0 h []) := by
  refine Met.mk (tabs := tables_1) (a0 := a0) (ls0 := #[.val (.ref o3), .val (.int (0 : Int32))]) (plainFor_of_name pn_com_example_eventloom_eventloom_net_MarkingStore) hw Z0 (fun m => by first | (simp [entryFrame, mkF, argsToLocals, Value.category]; done) | rfl) ?_
  intro p e s m below meth c T C X
  have Kp : Keep h0 h0 [] := Keep.refl _ _
  refine s_iloadN 1 C X d21_0 rfl ?_
  refine s_iconst 2 C X d21_1 kc_iconst_1 ?_
  refine s_iadd 3 C X d21_2 ?_
  refine Run.cast (st' := [(.int (1 : Int32))]) (by rw [kf_7]) ?_
  refine s_aloadN 4 C X d21_3 rfl rfl ?_
  refine s_callV 7 [] [(.int (1 : Int32))] 1 C X d21_4 (mW 67 rfl) (mW 68 rfl) (notFace_of_selects (args := #[]) (mvT C.2.1 (C.w (mW 70 rfl)))) (mW 70 rfl) (mW 69 rfl) (mW 5 rfl) (mW 71 rfl) E_o3 (rm_a57 l Z a0 hw o3 o5 _ n0 X.sz F_o3_starts E_o5 F_o5_size) (lenOf pd___I rfl) rfl rfl rfl (fun T v hh X q => ?_)
  obtain ⟨rfl, Kc⟩ := q
  have E_o3 := E_o3.keep Kc
  have F_o3_starts := F_o3_starts.keep Kc nin0
  have F_o3_length := F_o3_length.keep Kc nin0
  have E_o5 := E_o5.keep Kc
  have F_o5_size := F_o5_size.keep Kc nin0
  have Kp := Kp.trans Kc all0
  refine Run.cast (st' := [(.int (1 : Int32)), (.int (1 : Int32))]) rfl ?_
  refine s_icmp_ge 23 10 C X d21_7 (fun _ => ?_) (fun c => absurd c (by decide))
  refine s_aloadN 24 C X d21_23 rfl rfl ?_
  refine s_getfield 27 C X (host := "") d21_24 (Or.inl (mW 79 rfl)) Via.refl F_o3_length (fun T X => ?_)
  refine s_ireturn C X d21_27 rfl ?_
  exact ⟨rfl, Kp⟩
set_option maxRecDepth 65536 in
set_option maxHeartbeats 40000000 in
theorem rm_a154 (l : Launch) (Z : State) (a0 : Array Value) (hw : ∀ d ∈ tables_1, d.before a0 Z = true) (o3 : Addr) (o4 : Addr) (o5 : Addr) (k_o4 : ClassId) (o8 : Addr) (o11 : Addr) (o31 : Addr) (h0 : Heap) (n0 : Nat) (Z0 : n0 ≤ h0.size) (E_o3 : Exa Z h0 o3 "com/example/eventloom/eventloom/net/MarkingStore") (F_o3_bytes : Fld Z h0 o3 "com/example/eventloom/eventloom/net/MarkingStore" "bytes" "[B" (.ref o4)) (F_o3_starts : Fld Z h0 o3 "com/example/eventloom/eventloom/net/MarkingStore" "starts" "Lcom/example/eventloom/eventloom/net/IntList;" (.ref o5)) (F_o3_hashes : Fld Z h0 o3 "com/example/eventloom/eventloom/net/MarkingStore" "hashes" "Lcom/example/eventloom/eventloom/net/IntList;" (.ref o8)) (F_o3_table : Fld Z h0 o3 "com/example/eventloom/eventloom/net/MarkingStore" "table" "[I" (.ref o11)) (F_o3_encoded : Fld Z h0 o3 "com/example/eventloom/eventloom/net/MarkingStore" "encoded" "[B" (.ref o31)) (F_o3_encodedLength : Fld Z h0 o3 "com/example/eventloom/eventloom/net/MarkingStore" "encodedLength" "I" (.int (2 : Int32))) (F_o3_encodedHash : Fld Z h0 o3 "com/example/eventloom/eventloom/net/MarkingStore" "encodedHash" "I" (.int (962 : Int32))) (F_o3_length : Fld Z h0 o3 "com/example/eventloom/eventloom/net/MarkingStore" "length" "I" (.int (2 : Int32))) (F_o3_position : Fld Z h0 o3 "com/example/eventloom/eventloom/net/MarkingStore" "position" "I" (.int (0 : Int32))) (A_o4 : Arv Z h0 o4 k_o4 .byte (4096 : Int32) [(.int (0 : Int32)), (.int (1 : Int32)), (.int (0 : Int32)), (.int (0 : Int32)), (.int (0 : Int32)), (.int (0 : Int32))] (.int (0 : Int32))) (g_o3 : n0 ≤ o3) (ne_o3_o4 : o3 ≠ o4) :
    Met l Z (⟨"com/example/eventloom/eventloom/net/MarkingStore", "read", "()J"⟩ : MethodName) prog_86_method_10_code 5 (some .long) { frames := 0, cells := 0, slots := 0, locals := 0 } [] #[(.ref o3)] h0 n0 (fun v h => v = some (.long (0 : Int64)) ∧ Exa Z h o3 "com/example/eventloom/eventloom/net/MarkingStore" ∧ Fld Z h o3 "com/example/eventloom/eventloom/net/MarkingStore" "bytes" "[B" (.ref o4) ∧ Fld Z h o3 "com/example/eventloom/eventloom/net/MarkingStore" "starts" "Lcom/example/eventloom/eventloom/net/IntList;" (.ref o5) ∧ Fld Z h o3 "com/example/eventloom/eventloom/net/MarkingStore" "hashes" "Lcom/example/eventloom/eventloom/net/IntList;" (.ref o8) ∧ Fld Z h o3 "com/example/eventloom/eventloom/net/MarkingStore" "table" "[I" (.ref o11) ∧ Fld Z h o3 "com/example/eventloom/eventloom/net/MarkingStore" "encoded" "[B" (.ref o31) ∧ Fld Z h o3 "com/example/eventloom/eventloom/net/MarkingStore" "encodedLength" "I" (.int (2 : Int32)) ∧ Fld Z h o3 "com/example/eventloom/eventloom/net/MarkingStore" "encodedHash" "I" (.int (962 : Int32)) ∧ Fld Z h o3 "com/example/eventloom/eventloom/net/MarkingStore" "length" "I" (.int (2 : Int32)) ∧ Fld Z h o3 "com/example/eventloom/eventloom/net/MarkingStore" "position" "I" (.int (1 : Int32)) ∧ Keep h0 h [o3]) := by
  refine Met.mk (tabs := tables_1) (a0 := a0) (ls0 := #[.val (.ref o3), .unset, .unset, .unset, .unset]) (plainFor_of_name pn_com_example_eventloom_eventloom_net_MarkingStore) hw Z0 (fun m => by first | (simp [entryFrame, mkF, argsToLocals, Value.category]; done) | rfl) ?_
  intro p e s m below meth c T C X
  have Kp : Keep h0 h0 [o3] := Keep.refl _ _
  refine s_lconst 1 C X (z := (0 : Int64)) d22_0 rfl ?_
  refine s_lstoreN 2 C X (l' := #[.val (.ref o3), .val (.long (0 : Int64)), .second, .unset, .unset]) d22_1 rfl ?_
  refine s_iconst 3 C X d22_2 kc_iconst_0 ?_
  refine s_istoreN 4 C X (l' := #[.val (.ref o3), .val (.long (0 : Int64)), .second, .val (.int (0 : Int32)), .unset]) d22_3 rfl ?_
  refine s_aloadN 5 C X d22_4 rfl rfl ?_
  refine s_getfield 8 C X (host := "") d22_5 (Or.inl (mW 13 rfl)) Via.refl F_o3_bytes (fun T X => ?_)
  refine s_aloadN 9 C X d22_8 rfl rfl ?_
  refine s_dup 10 C X d22_9 rfl ?_
  refine s_getfield 13 C X (host := "") d22_10 (Or.inl (mW 170 rfl)) Via.refl F_o3_position (fun T X => ?_)
  refine s_dupX1 14 C X d22_13 rfl rfl ?_
  refine s_iconst 15 C X d22_14 kc_iconst_1 ?_
  refine s_iadd 16 C X d22_15 ?_
  refine Run.cast (st' := [(.int (1 : Int32)), (.ref o3), (.int (0 : Int32)), (.ref o4)]) (by rw [kf_7]) ?_
  refine s_putfield 19 C X (host := "") d22_16 (Or.inl (mW 170 rfl)) Via.refl F_o3_position E_o3 (Or.inl (mW 171 rfl)) (mW 4 rfl) (ty := .int) (by decide) rfl rfl g_o3 (fun T hh X W => ?_)
  have E_o3 := E_o3.wr W
  have F_o3_bytes := oth F_o3_bytes W (Or.inl (hw _ (mW 14 rfl))) (Or.inl (hw _ (mW 171 rfl))) (by decide)
  have F_o3_starts := oth F_o3_starts W (Or.inr (hw _ (mW 26 rfl))) (Or.inl (hw _ (mW 171 rfl))) (by decide)
  have F_o3_hashes := oth F_o3_hashes W (Or.inr (hw _ (mW 28 rfl))) (Or.inl (hw _ (mW 171 rfl))) (by decide)
  have F_o3_table := oth F_o3_table W (Or.inl (hw _ (mW 37 rfl))) (Or.inl (hw _ (mW 171 rfl))) (by decide)
  have F_o3_encoded := oth F_o3_encoded W (Or.inl (hw _ (mW 39 rfl))) (Or.inl (hw _ (mW 171 rfl))) (by decide)
  have F_o3_encodedLength := oth F_o3_encodedLength W (Or.inl (hw _ (mW 50 rfl))) (Or.inl (hw _ (mW 171 rfl))) (by decide)
  have F_o3_encodedHash := oth F_o3_encodedHash W (Or.inl (hw _ (mW 57 rfl))) (Or.inl (hw _ (mW 171 rfl))) (by decide)
  have F_o3_length := oth F_o3_length W (Or.inl (hw _ (mW 80 rfl))) (Or.inl (hw _ (mW 171 rfl))) (by decide)
  have F_o3_position := F_o3_position.same W
  have A_o4 := A_o4.other W (Ne.symm ne_o3_o4)
  have Kp := Kp.wr W (Or.inl (by simp))
  refine s_baload 20 C X d22_19 A_o4 ⟨by decide, by decide⟩ (v := (.int (0 : Int32))) rfl ?_
  refine s_istore 22 C X (l' := #[.val (.ref o3), .val (.long (0 : Int64)), .second, .val (.int (0 : Int32)), .val (.int (0 : Int32))]) d22_20 rfl ?_
  refine s_lloadN 23 C X d22_22 rfl ?_
  refine s_iload 25 C X d22_23 rfl ?_
  refine s_bipush 27 C X d22_25 kc_bipush_127 ?_
  refine s_iand 28 C X d22_27 ?_
  refine Run.cast (st' := [(.int (0 : Int32)), (.long (0 : Int64))]) (by rw [kf_33]) ?_
  refine s_i2l 29 C X d22_28 ?_
  refine Run.cast (st' := [(.long (0 : Int64)), (.long (0 : Int64))]) (by rw [kf_4]) ?_
  refine s_iloadN 30 C X d22_29 rfl ?_
  refine s_lshl 31 C X d22_30 ?_
  refine Run.cast (st' := [(.long (0 : Int64)), (.long (0 : Int64))]) (by rw [kf_34]) ?_
  refine s_lor 32 C X d22_31 ?_
  refine Run.cast (st' := [(.long (0 : Int64))]) (by rw [kf_35]) ?_
  refine s_lstoreN 33 C X (l' := #[.val (.ref o3), .val (.long (0 : Int64)), .second, .val (.int (0 : Int32)), .val (.int (0 : Int32))]) d22_32 rfl ?_
  refine s_iload 35 C X d22_33 rfl ?_
  refine s_if_lt 40 38 C X d22_35 (fun c => absurd c (by decide)) (fun _ => ?_)
  refine s_lloadN 39 C X d22_38 rfl ?_
  refine s_lreturn C X d22_39 rfl ?_
  exact ⟨rfl, E_o3, F_o3_bytes, F_o3_starts, F_o3_hashes, F_o3_table, F_o3_encoded, F_o3_encodedLength, F_o3_encodedHash, F_o3_length, F_o3_position, Kp⟩
set_option maxRecDepth 65536 in
set_option maxHeartbeats 40000000 in
theorem rm_a156 (l : Launch) (Z : State) (a0 : Array Value) (hw : ∀ d ∈ tables_1, d.before a0 Z = true) (o3 : Addr) (o4 : Addr) (o5 : Addr) (k_o4 : ClassId) (o8 : Addr) (o11 : Addr) (o31 : Addr) (h0 : Heap) (n0 : Nat) (Z0 : n0 ≤ h0.size) (A_o4 : Arv Z h0 o4 k_o4 .byte (4096 : Int32) [(.int (0 : Int32)), (.int (1 : Int32)), (.int (0 : Int32)), (.int (0 : Int32)), (.int (0 : Int32)), (.int (0 : Int32))] (.int (0 : Int32))) (E_o3 : Exa Z h0 o3 "com/example/eventloom/eventloom/net/MarkingStore") (F_o3_bytes : Fld Z h0 o3 "com/example/eventloom/eventloom/net/MarkingStore" "bytes" "[B" (.ref o4)) (F_o3_starts : Fld Z h0 o3 "com/example/eventloom/eventloom/net/MarkingStore" "starts" "Lcom/example/eventloom/eventloom/net/IntList;" (.ref o5)) (F_o3_hashes : Fld Z h0 o3 "com/example/eventloom/eventloom/net/MarkingStore" "hashes" "Lcom/example/eventloom/eventloom/net/IntList;" (.ref o8)) (F_o3_table : Fld Z h0 o3 "com/example/eventloom/eventloom/net/MarkingStore" "table" "[I" (.ref o11)) (F_o3_encoded : Fld Z h0 o3 "com/example/eventloom/eventloom/net/MarkingStore" "encoded" "[B" (.ref o31)) (F_o3_encodedLength : Fld Z h0 o3 "com/example/eventloom/eventloom/net/MarkingStore" "encodedLength" "I" (.int (2 : Int32))) (F_o3_encodedHash : Fld Z h0 o3 "com/example/eventloom/eventloom/net/MarkingStore" "encodedHash" "I" (.int (962 : Int32))) (F_o3_length : Fld Z h0 o3 "com/example/eventloom/eventloom/net/MarkingStore" "length" "I" (.int (2 : Int32))) (F_o3_position : Fld Z h0 o3 "com/example/eventloom/eventloom/net/MarkingStore" "position" "I" (.int (1 : Int32))) (g_o3 : n0 ≤ o3) (ne_o3_o4 : o3 ≠ o4) :
    Met l Z (⟨"com/example/eventloom/eventloom/net/MarkingStore", "read", "()J"⟩ : MethodName) prog_86_method_10_code 5 (some .long) { frames := 0, cells := 0, slots := 0, locals := 0 } [] #[(.ref o3)] h0 n0 (fun v h => v = some (.long (1 : Int64)) ∧ Exa Z h o3 "com/example/eventloom/eventloom/net/MarkingStore" ∧ Fld Z h o3 "com/example/eventloom/eventloom/net/MarkingStore" "bytes" "[B" (.ref o4) ∧ Fld Z h o3 "com/example/eventloom/eventloom/net/MarkingStore" "starts" "Lcom/example/eventloom/eventloom/net/IntList;" (.ref o5) ∧ Fld Z h o3 "com/example/eventloom/eventloom/net/MarkingStore" "hashes" "Lcom/example/eventloom/eventloom/net/IntList;" (.ref o8) ∧ Fld Z h o3 "com/example/eventloom/eventloom/net/MarkingStore" "table" "[I" (.ref o11) ∧ Fld Z h o3 "com/example/eventloom/eventloom/net/MarkingStore" "encoded" "[B" (.ref o31) ∧ Fld Z h o3 "com/example/eventloom/eventloom/net/MarkingStore" "encodedLength" "I" (.int (2 : Int32)) ∧ Fld Z h o3 "com/example/eventloom/eventloom/net/MarkingStore" "encodedHash" "I" (.int (962 : Int32)) ∧ Fld Z h o3 "com/example/eventloom/eventloom/net/MarkingStore" "length" "I" (.int (2 : Int32)) ∧ Fld Z h o3 "com/example/eventloom/eventloom/net/MarkingStore" "position" "I" (.int (2 : Int32)) ∧ Keep h0 h [o3]) := by
  refine Met.mk (tabs := tables_1) (a0 := a0) (ls0 := #[.val (.ref o3), .unset, .unset, .unset, .unset]) (plainFor_of_name pn_com_example_eventloom_eventloom_net_MarkingStore) hw Z0 (fun m => by first | (simp [entryFrame, mkF, argsToLocals, Value.category]; done) | rfl) ?_
  intro p e s m below meth c T C X
  have Kp : Keep h0 h0 [o3] := Keep.refl _ _
  refine s_lconst 1 C X (z := (0 : Int64)) d22_0 rfl ?_
  refine s_lstoreN 2 C X (l' := #[.val (.ref o3), .val (.long (0 : Int64)), .second, .unset, .unset]) d22_1 rfl ?_
  refine s_iconst 3 C X d22_2 kc_iconst_0 ?_
  refine s_istoreN 4 C X (l' := #[.val (.ref o3), .val (.long (0 : Int64)), .second, .val (.int (0 : Int32)), .unset]) d22_3 rfl ?_
  refine s_aloadN 5 C X d22_4 rfl rfl ?_
  refine s_getfield 8 C X (host := "") d22_5 (Or.inl (mW 13 rfl)) Via.refl F_o3_bytes (fun T X => ?_)
  refine s_aloadN 9 C X d22_8 rfl rfl ?_
  refine s_dup 10 C X d22_9 rfl ?_
  refine s_getfield 13 C X (host := "") d22_10 (Or.inl (mW 170 rfl)) Via.refl F_o3_position (fun T X => ?_)
  refine s_dupX1 14 C X d22_13 rfl rfl ?_
  refine s_iconst 15 C X d22_14 kc_iconst_1 ?_
  refine s_iadd 16 C X d22_15 ?_
  refine Run.cast (st' := [(.int (2 : Int32)), (.ref o3), (.int (1 : Int32)), (.ref o4)]) (by rw [kf_11]) ?_
  refine s_putfield 19 C X (host := "") d22_16 (Or.inl (mW 170 rfl)) Via.refl F_o3_position E_o3 (Or.inl (mW 171 rfl)) (mW 4 rfl) (ty := .int) (by decide) rfl rfl g_o3 (fun T hh X W => ?_)
  have A_o4 := A_o4.other W (Ne.symm ne_o3_o4)
  have E_o3 := E_o3.wr W
  have F_o3_bytes := oth F_o3_bytes W (Or.inl (hw _ (mW 14 rfl))) (Or.inl (hw _ (mW 171 rfl))) (by decide)
  have F_o3_starts := oth F_o3_starts W (Or.inr (hw _ (mW 26 rfl))) (Or.inl (hw _ (mW 171 rfl))) (by decide)
  have F_o3_hashes := oth F_o3_hashes W (Or.inr (hw _ (mW 28 rfl))) (Or.inl (hw _ (mW 171 rfl))) (by decide)
  have F_o3_table := oth F_o3_table W (Or.inl (hw _ (mW 37 rfl))) (Or.inl (hw _ (mW 171 rfl))) (by decide)
  have F_o3_encoded := oth F_o3_encoded W (Or.inl (hw _ (mW 39 rfl))) (Or.inl (hw _ (mW 171 rfl))) (by decide)
  have F_o3_encodedLength := oth F_o3_encodedLength W (Or.inl (hw _ (mW 50 rfl))) (Or.inl (hw _ (mW 171 rfl))) (by decide)
  have F_o3_encodedHash := oth F_o3_encodedHash W (Or.inl (hw _ (mW 57 rfl))) (Or.inl (hw _ (mW 171 rfl))) (by decide)
  have F_o3_length := oth F_o3_length W (Or.inl (hw _ (mW 80 rfl))) (Or.inl (hw _ (mW 171 rfl))) (by decide)
  have F_o3_position := F_o3_position.same W
  have Kp := Kp.wr W (Or.inl (by simp))
  refine s_baload 20 C X d22_19 A_o4 ⟨by decide, by decide⟩ (v := (.int (1 : Int32))) rfl ?_
  refine s_istore 22 C X (l' := #[.val (.ref o3), .val (.long (0 : Int64)), .second, .val (.int (0 : Int32)), .val (.int (1 : Int32))]) d22_20 rfl ?_
  refine s_lloadN 23 C X d22_22 rfl ?_
  refine s_iload 25 C X d22_23 rfl ?_
  refine s_bipush 27 C X d22_25 kc_bipush_127 ?_
  refine s_iand 28 C X d22_27 ?_
  refine Run.cast (st' := [(.int (1 : Int32)), (.long (0 : Int64))]) (by rw [kf_37]) ?_
  refine s_i2l 29 C X d22_28 ?_
  refine Run.cast (st' := [(.long (1 : Int64)), (.long (0 : Int64))]) (by rw [kf_29]) ?_
  refine s_iloadN 30 C X d22_29 rfl ?_
  refine s_lshl 31 C X d22_30 ?_
  refine Run.cast (st' := [(.long (1 : Int64)), (.long (0 : Int64))]) (by rw [kf_38]) ?_
  refine s_lor 32 C X d22_31 ?_
  refine Run.cast (st' := [(.long (1 : Int64))]) (by rw [kf_39]) ?_
  refine s_lstoreN 33 C X (l' := #[.val (.ref o3), .val (.long (1 : Int64)), .second, .val (.int (0 : Int32)), .val (.int (1 : Int32))]) d22_32 rfl ?_
  refine s_iload 35 C X d22_33 rfl ?_
  refine s_if_lt 40 38 C X d22_35 (fun c => absurd c (by decide)) (fun _ => ?_)
  refine s_lloadN 39 C X d22_38 rfl ?_
  refine s_lreturn C X d22_39 rfl ?_
  exact ⟨rfl, E_o3, F_o3_bytes, F_o3_starts, F_o3_hashes, F_o3_table, F_o3_encoded, F_o3_encodedLength, F_o3_encodedHash, F_o3_length, F_o3_position, Kp⟩
set_option maxRecDepth 65536 in
set_option maxHeartbeats 40000000 in
theorem rm_a158 (l : Launch) (Z : State) (a0 : Array Value) (hw : ∀ d ∈ tables_1, d.before a0 Z = true) (o3 : Addr) (o4 : Addr) (o5 : Addr) (k_o4 : ClassId) (o6 : Addr) (k_o6 : ClassId) (o8 : Addr) (o11 : Addr) (o31 : Addr) (o77 : Addr) (o78 : Addr) (k_o77 : ClassId) (k_o78 : ClassId) (h0 : Heap) (n0 : Nat) (Z0 : n0 ≤ h0.size) (E_o3 : Exa Z h0 o3 "com/example/eventloom/eventloom/net/MarkingStore") (F_o3_bytes : Fld Z h0 o3 "com/example/eventloom/eventloom/net/MarkingStore" "bytes" "[B" (.ref o4)) (F_o3_starts : Fld Z h0 o3 "com/example/eventloom/eventloom/net/MarkingStore" "starts" "Lcom/example/eventloom/eventloom/net/IntList;" (.ref o5)) (F_o3_hashes : Fld Z h0 o3 "com/example/eventloom/eventloom/net/MarkingStore" "hashes" "Lcom/example/eventloom/eventloom/net/IntList;" (.ref o8)) (F_o3_table : Fld Z h0 o3 "com/example/eventloom/eventloom/net/MarkingStore" "table" "[I" (.ref o11)) (F_o3_encoded : Fld Z h0 o3 "com/example/eventloom/eventloom/net/MarkingStore" "encoded" "[B" (.ref o31)) (F_o3_encodedLength : Fld Z h0 o3 "com/example/eventloom/eventloom/net/MarkingStore" "encodedLength" "I" (.int (2 : Int32))) (F_o3_encodedHash : Fld Z h0 o3 "com/example/eventloom/eventloom/net/MarkingStore" "encodedHash" "I" (.int (962 : Int32))) (F_o3_length : Fld Z h0 o3 "com/example/eventloom/eventloom/net/MarkingStore" "length" "I" (.int (2 : Int32))) (F_o3_position : Fld Z h0 o3 "com/example/eventloom/eventloom/net/MarkingStore" "position" "I" (.int (0 : Int32))) (A_o4 : Arv Z h0 o4 k_o4 .byte (4096 : Int32) [(.int (0 : Int32)), (.int (1 : Int32)), (.int (0 : Int32)), (.int (0 : Int32)), (.int (0 : Int32)), (.int (0 : Int32))] (.int (0 : Int32))) (E_o5 : Exa Z h0 o5 "com/example/eventloom/eventloom/net/IntList") (F_o5_values : Fld Z h0 o5 "com/example/eventloom/eventloom/net/IntList" "values" "[I" (.ref o6)) (F_o5_size : Fld Z h0 o5 "com/example/eventloom/eventloom/net/IntList" "size" "I" (.int (1 : Int32))) (A_o6 : Arv Z h0 o6 k_o6 .int (16 : Int32) [(.int (0 : Int32)), (.int (0 : Int32)), (.int (0 : Int32)), (.int (0 : Int32)), (.int (0 : Int32)), (.int (0 : Int32)), (.int (0 : Int32)), (.int (0 : Int32)), (.int (0 : Int32)), (.int (0 : Int32)), (.int (0 : Int32)), (.int (0 : Int32)), (.int (0 : Int32)), (.int (0 : Int32)), (.int (0 : Int32)), (.int (0 : Int32))] (.int (0 : Int32))) (A_o77 : Arv Z h0 o77 k_o77 .int (1 : Int32) [(.int (0 : Int32))] (.int (0 : Int32))) (A_o78 : Arv Z h0 o78 k_o78 .long (1 : Int32) [(.long (0 : Int64))] (.long (0 : Int64))) (g_o3 : n0 ≤ o3) (ne_o3_o4 : o3 ≠ o4) (ne_o3_o5 : o3 ≠ o5) (ne_o3_o6 : o3 ≠ o6) (ne_o3_o77 : o3 ≠ o77) (ne_o4_o77 : o4 ≠ o77) (ne_o5_o77 : o5 ≠ o77) (ne_o6_o77 : o6 ≠ o77) (g_o77 : n0 ≤ o77) (ne_o3_o78 : o3 ≠ o78) (ne_o4_o78 : o4 ≠ o78) (ne_o5_o78 : o5 ≠ o78) (ne_o6_o78 : o6 ≠ o78) (g_o78 : n0 ≤ o78) (ne_o77_o78 : o77 ≠ o78) :
    Met l Z (⟨"com/example/eventloom/eventloom/net/MarkingStore", "getMarked", "(I[I[J)I"⟩ : MethodName) prog_86_method_6_code 7 (some .int) { frames := 3, cells := 0, slots := 0, locals := 38 } [] #[(.ref o3), (.int (0 : Int32)), (.ref o77), (.ref o78)] h0 n0 (fun v h => v = some (.int (1 : Int32)) ∧ Arv Z h o77 k_o77 .int (1 : Int32) [(.int (0 : Int32))] (.int (0 : Int32)) ∧ Arv Z h o78 k_o78 .long (1 : Int32) [(.long (1 : Int64))] (.long (0 : Int64)) ∧ Keep h0 h [o3, o77, o78] ∧ Exa Z h o3 "com/example/eventloom/eventloom/net/MarkingStore" ∧ Fld Z h o3 "com/example/eventloom/eventloom/net/MarkingStore" "bytes" "[B" (.ref o4) ∧ Fld Z h o3 "com/example/eventloom/eventloom/net/MarkingStore" "starts" "Lcom/example/eventloom/eventloom/net/IntList;" (.ref o5) ∧ Fld Z h o3 "com/example/eventloom/eventloom/net/MarkingStore" "hashes" "Lcom/example/eventloom/eventloom/net/IntList;" (.ref o8) ∧ Fld Z h o3 "com/example/eventloom/eventloom/net/MarkingStore" "table" "[I" (.ref o11) ∧ Fld Z h o3 "com/example/eventloom/eventloom/net/MarkingStore" "encoded" "[B" (.ref o31) ∧ Fld Z h o3 "com/example/eventloom/eventloom/net/MarkingStore" "encodedLength" "I" (.int (2 : Int32)) ∧ Fld Z h o3 "com/example/eventloom/eventloom/net/MarkingStore" "encodedHash" "I" (.int (962 : Int32)) ∧ Fld Z h o3 "com/example/eventloom/eventloom/net/MarkingStore" "length" "I" (.int (2 : Int32)) ∧ Fld Z h o3 "com/example/eventloom/eventloom/net/MarkingStore" "position" "I" (.int (2 : Int32))) := by
  refine Met.mk (tabs := tables_1) (a0 := a0) (ls0 := #[.val (.ref o3), .val (.int (0 : Int32)), .val (.ref o77), .val (.ref o78), .unset, .unset, .unset]) (plainFor_of_name pn_com_example_eventloom_eventloom_net_MarkingStore) hw Z0 (fun m => by first | (simp [entryFrame, mkF, argsToLocals, Value.category]; done) | rfl) ?_
  intro p e s m below meth c T C X
  have Kp : Keep h0 h0 [o3, o77, o78] := Keep.refl _ _
  refine s_aloadN 1 C X d19_0 rfl rfl ?_
  refine s_aloadN 2 C X d19_1 rfl rfl ?_
  refine s_getfield 5 C X (host := "") d19_2 (Or.inl (mW 25 rfl)) Via.refl F_o3_starts (fun T X => ?_)
  refine s_iloadN 6 C X d19_5 rfl ?_
  refine s_callV 9 [(.int (0 : Int32))] [(.ref o3)] 1 C X d19_6 (mW 165 rfl) (mW 166 rfl) (notFace_of_selects (args := #[]) (mvT C.2.1 (C.w (mW 168 rfl)))) (mW 168 rfl) (mW 167 rfl) (mW 17 rfl) (mW 169 rfl) E_o5 (rm_a147 l Z a0 hw o5 o6 k_o6 _ n0 X.sz F_o5_values A_o6) (lenOf pd__I_I rfl) rfl rfl rfl (fun T v hh X q => ?_)
  obtain ⟨rfl, Kc⟩ := q
  have E_o3 := E_o3.keep Kc
  have F_o3_bytes := F_o3_bytes.keep Kc nin0
  have F_o3_starts := F_o3_starts.keep Kc nin0
  have F_o3_hashes := F_o3_hashes.keep Kc nin0
  have F_o3_table := F_o3_table.keep Kc nin0
  have F_o3_encoded := F_o3_encoded.keep Kc nin0
  have F_o3_encodedLength := F_o3_encodedLength.keep Kc nin0
  have F_o3_encodedHash := F_o3_encodedHash.keep Kc nin0
  have F_o3_length := F_o3_length.keep Kc nin0
  have F_o3_position := F_o3_position.keep Kc nin0
  have A_o4 := A_o4.keep Kc nin0
  have E_o5 := E_o5.keep Kc
  have F_o5_values := F_o5_values.keep Kc nin0
  have F_o5_size := F_o5_size.keep Kc nin0
  have A_o6 := A_o6.keep Kc nin0
  have A_o77 := A_o77.keep Kc nin0
  have A_o78 := A_o78.keep Kc nin0
  have Kp := Kp.trans Kc all0
  refine Run.cast (st' := [(.int (0 : Int32)), (.ref o3)]) rfl ?_
  refine s_putfield 12 C X (host := "") d19_9 (Or.inl (mW 170 rfl)) Via.refl F_o3_position E_o3 (Or.inl (mW 171 rfl)) (mW 4 rfl) (ty := .int) (by decide) rfl rfl g_o3 (fun T hh X W => ?_)
  have E_o3 := E_o3.wr W
  have F_o3_bytes := oth F_o3_bytes W (Or.inl (hw _ (mW 14 rfl))) (Or.inl (hw _ (mW 171 rfl))) (by decide)
  have F_o3_starts := oth F_o3_starts W (Or.inr (hw _ (mW 26 rfl))) (Or.inl (hw _ (mW 171 rfl))) (by decide)
  have F_o3_hashes := oth F_o3_hashes W (Or.inr (hw _ (mW 28 rfl))) (Or.inl (hw _ (mW 171 rfl))) (by decide)
  have F_o3_table := oth F_o3_table W (Or.inl (hw _ (mW 37 rfl))) (Or.inl (hw _ (mW 171 rfl))) (by decide)
  have F_o3_encoded := oth F_o3_encoded W (Or.inl (hw _ (mW 39 rfl))) (Or.inl (hw _ (mW 171 rfl))) (by decide)
  have F_o3_encodedLength := oth F_o3_encodedLength W (Or.inl (hw _ (mW 50 rfl))) (Or.inl (hw _ (mW 171 rfl))) (by decide)
  have F_o3_encodedHash := oth F_o3_encodedHash W (Or.inl (hw _ (mW 57 rfl))) (Or.inl (hw _ (mW 171 rfl))) (by decide)
  have F_o3_length := oth F_o3_length W (Or.inl (hw _ (mW 80 rfl))) (Or.inl (hw _ (mW 171 rfl))) (by decide)
  have F_o3_position := F_o3_position.same W
  have A_o4 := A_o4.other W (Ne.symm ne_o3_o4)
  have E_o5 := E_o5.wr W
  have F_o5_values := F_o5_values.other W (Or.inl (Ne.symm ne_o3_o5))
  have F_o5_size := F_o5_size.other W (Or.inl (Ne.symm ne_o3_o5))
  have A_o6 := A_o6.other W (Ne.symm ne_o3_o6)
  have A_o77 := A_o77.other W (Ne.symm ne_o3_o77)
  have A_o78 := A_o78.other W (Ne.symm ne_o3_o78)
  have Kp := Kp.wr W (Or.inl (by simp))
  refine s_aloadN 13 C X d19_12 rfl rfl ?_
  refine s_iloadN 14 C X d19_13 rfl ?_
  refine s_callPI 17 [(.int (0 : Int32))] [] 0 C X d19_14 (mW 172 rfl) (mW 173 rfl) (mW 4 rfl) (mW 174 rfl) (mW 5 rfl) (mW 175 rfl) E_o3 (rm_a151 l Z a0 hw o3 o5 _ n0 X.sz E_o3 F_o3_starts F_o3_length E_o5 F_o5_size) (lenOf pd__I_I rfl) rfl rfl rfl (fun T v hh X q => ?_)
  obtain ⟨rfl, Kc⟩ := q
  have E_o3 := E_o3.keep Kc
  have F_o3_bytes := F_o3_bytes.keep Kc nin0
  have F_o3_starts := F_o3_starts.keep Kc nin0
  have F_o3_hashes := F_o3_hashes.keep Kc nin0
  have F_o3_table := F_o3_table.keep Kc nin0
  have F_o3_encoded := F_o3_encoded.keep Kc nin0
  have F_o3_encodedLength := F_o3_encodedLength.keep Kc nin0
  have F_o3_encodedHash := F_o3_encodedHash.keep Kc nin0
  have F_o3_length := F_o3_length.keep Kc nin0
  have F_o3_position := F_o3_position.keep Kc nin0
  have A_o4 := A_o4.keep Kc nin0
  have E_o5 := E_o5.keep Kc
  have F_o5_values := F_o5_values.keep Kc nin0
  have F_o5_size := F_o5_size.keep Kc nin0
  have A_o6 := A_o6.keep Kc nin0
  have A_o77 := A_o77.keep Kc nin0
  have A_o78 := A_o78.keep Kc nin0
  have Kp := Kp.trans Kc all0
  refine Run.cast (st' := [(.int (2 : Int32))]) rfl ?_
  refine s_istore 19 C X (l' := #[.val (.ref o3), .val (.int (0 : Int32)), .val (.ref o77), .val (.ref o78), .val (.int (2 : Int32)), .unset, .unset]) d19_17 rfl ?_
  refine s_iconst 20 C X d19_19 kc_iconst_0 ?_
  refine s_istore 22 C X (l' := #[.val (.ref o3), .val (.int (0 : Int32)), .val (.ref o77), .val (.ref o78), .val (.int (2 : Int32)), .val (.int (0 : Int32)), .unset]) d19_20 rfl ?_
  refine s_iconst 23 C X d19_22 kc_iconst_m1 ?_
  refine s_istore 25 C X (l' := #[.val (.ref o3), .val (.int (0 : Int32)), .val (.ref o77), .val (.ref o78), .val (.int (2 : Int32)), .val (.int (0 : Int32)), .val (.int (-1 : Int32))]) d19_23 rfl ?_
  refine s_aloadN 26 C X d19_25 rfl rfl ?_
  refine s_getfield 29 C X (host := "") d19_26 (Or.inl (mW 170 rfl)) Via.refl F_o3_position (fun T X => ?_)
  refine s_iload 31 C X d19_29 rfl ?_
  refine s_icmp_ge 66 34 C X d19_31 (fun c => absurd (by decide : (0 : Int32) < (2 : Int32)) c) (fun _ => ?_)
  refine s_iload 36 C X d19_34 rfl ?_
  refine s_aloadN 37 C X d19_36 rfl rfl ?_
  refine s_callPI 40 [] [(.int (-1 : Int32))] 1 C X d19_37 (mW 176 rfl) (mW 177 rfl) (mW 4 rfl) (mW 178 rfl) (mW 5 rfl) (mW 179 rfl) E_o3 (rm_a154 l Z a0 hw o3 o4 o5 k_o4 o8 o11 o31 _ n0 X.sz E_o3 F_o3_bytes F_o3_starts F_o3_hashes F_o3_table F_o3_encoded F_o3_encodedLength F_o3_encodedHash F_o3_length F_o3_position A_o4 g_o3 ne_o3_o4) (lenOf pd___J rfl) rfl rfl rfl (fun T v hh X q => ?_)
  obtain ⟨rfl, E_o3, F_o3_bytes, F_o3_starts, F_o3_hashes, F_o3_table, F_o3_encoded, F_o3_encodedLength, F_o3_encodedHash, F_o3_length, F_o3_position, Kc⟩ := q
  have A_o4 := A_o4.keep Kc (ninS (Ne.symm ne_o3_o4) nin0)
  have E_o5 := E_o5.keep Kc
  have F_o5_values := F_o5_values.keep Kc (ninS (Ne.symm ne_o3_o5) nin0)
  have F_o5_size := F_o5_size.keep Kc (ninS (Ne.symm ne_o3_o5) nin0)
  have A_o6 := A_o6.keep Kc (ninS (Ne.symm ne_o3_o6) nin0)
  have A_o77 := A_o77.keep Kc (ninS (Ne.symm ne_o3_o77) nin0)
  have A_o78 := A_o78.keep Kc (ninS (Ne.symm ne_o3_o78) nin0)
  have Kp := Kp.trans Kc (allS (Or.inl (by simp)) all0)
  refine Run.cast (st' := [(.long (0 : Int64)), (.int (-1 : Int32))]) rfl ?_
  refine s_l2i 41 C X d19_40 ?_
  refine Run.cast (st' := [(.int (0 : Int32)), (.int (-1 : Int32))]) (by rw [kf_8]) ?_
  refine s_iconst 42 C X d19_41 kc_iconst_1 ?_
  refine s_iadd 43 C X d19_42 ?_
  refine Run.cast (st' := [(.int (1 : Int32)), (.int (-1 : Int32))]) (by rw [kf_7]) ?_
  refine s_iadd 44 C X d19_43 ?_
  refine Run.cast (st' := [(.int (0 : Int32))]) (by rw [kf_36]) ?_
  refine s_istore 46 C X (l' := #[.val (.ref o3), .val (.int (0 : Int32)), .val (.ref o77), .val (.ref o78), .val (.int (2 : Int32)), .val (.int (0 : Int32)), .val (.int (0 : Int32))]) d19_44 rfl ?_
  refine s_aloadN 47 C X d19_46 rfl rfl ?_
  refine s_iload 49 C X d19_47 rfl ?_
  refine s_iload 51 C X d19_49 rfl ?_
  refine s_iastore 52 0 C X d19_51 A_o77 g_o77 ⟨by decide, by decide⟩ rfl (Nat.le_of_ble_eq_true rfl) (fun T hh X W A_o77 => ?_)
  have A_o77 : Arv Z _ o77 k_o77 .int (1 : Int32) [(.int (0 : Int32))] (.int (0 : Int32)) := A_o77
  have A_o4 := A_o4.other W ne_o4_o77
  have E_o5 := E_o5.wr W
  have F_o5_values := F_o5_values.other W (Or.inl ne_o5_o77)
  have F_o5_size := F_o5_size.other W (Or.inl ne_o5_o77)
  have A_o6 := A_o6.other W ne_o6_o77
  have A_o78 := A_o78.other W (Ne.symm ne_o77_o78)
  have Kp := Kp.wr W (Or.inl (by simp))
  have E_o3 := E_o3.wr W
  have F_o3_bytes := F_o3_bytes.other W (Or.inl ne_o3_o77)
  have F_o3_starts := F_o3_starts.other W (Or.inl ne_o3_o77)
  have F_o3_hashes := F_o3_hashes.other W (Or.inl ne_o3_o77)
  have F_o3_table := F_o3_table.other W (Or.inl ne_o3_o77)
  have F_o3_encoded := F_o3_encoded.other W (Or.inl ne_o3_o77)
  have F_o3_encodedLength := F_o3_encodedLength.other W (Or.inl ne_o3_o77)
  have F_o3_encodedHash := F_o3_encodedHash.other W (Or.inl ne_o3_o77)
  have F_o3_length := F_o3_length.other W (Or.inl ne_o3_o77)
  have F_o3_position := F_o3_position.other W (Or.inl ne_o3_o77)
  refine s_aloadN 53 C X d19_52 rfl rfl ?_
  refine s_iload 55 C X d19_53 rfl ?_
  refine s_aloadN 56 C X d19_55 rfl rfl ?_
  refine s_callPI 59 [] [(.int (0 : Int32)), (.ref o78)] 2 C X d19_56 (mW 176 rfl) (mW 177 rfl) (mW 4 rfl) (mW 178 rfl) (mW 5 rfl) (mW 179 rfl) E_o3 (rm_a156 l Z a0 hw o3 o4 o5 k_o4 o8 o11 o31 _ n0 X.sz A_o4 E_o3 F_o3_bytes F_o3_starts F_o3_hashes F_o3_table F_o3_encoded F_o3_encodedLength F_o3_encodedHash F_o3_length F_o3_position g_o3 ne_o3_o4) (lenOf pd___J rfl) rfl rfl rfl (fun T v hh X q => ?_)
  obtain ⟨rfl, E_o3, F_o3_bytes, F_o3_starts, F_o3_hashes, F_o3_table, F_o3_encoded, F_o3_encodedLength, F_o3_encodedHash, F_o3_length, F_o3_position, Kc⟩ := q
  have A_o4 := A_o4.keep Kc (ninS (Ne.symm ne_o3_o4) nin0)
  have E_o5 := E_o5.keep Kc
  have F_o5_values := F_o5_values.keep Kc (ninS (Ne.symm ne_o3_o5) nin0)
  have F_o5_size := F_o5_size.keep Kc (ninS (Ne.symm ne_o3_o5) nin0)
  have A_o6 := A_o6.keep Kc (ninS (Ne.symm ne_o3_o6) nin0)
  have A_o77 := A_o77.keep Kc (ninS (Ne.symm ne_o3_o77) nin0)
  have A_o78 := A_o78.keep Kc (ninS (Ne.symm ne_o3_o78) nin0)
  have Kp := Kp.trans Kc (allS (Or.inl (by simp)) all0)
  refine Run.cast (st' := [(.long (1 : Int64)), (.int (0 : Int32)), (.ref o78)]) rfl ?_
  refine s_lastore 60 0 C X d19_59 A_o78 g_o78 ⟨by decide, by decide⟩ rfl (Nat.le_of_ble_eq_true rfl) (fun T hh X W A_o78 => ?_)
  have A_o78 : Arv Z _ o78 k_o78 .long (1 : Int32) [(.long (1 : Int64))] (.long (0 : Int64)) := A_o78
  have A_o4 := A_o4.other W ne_o4_o78
  have E_o5 := E_o5.wr W
  have F_o5_values := F_o5_values.other W (Or.inl ne_o5_o78)
  have F_o5_size := F_o5_size.other W (Or.inl ne_o5_o78)
  have A_o6 := A_o6.other W ne_o6_o78
  have A_o77 := A_o77.other W ne_o77_o78
  have Kp := Kp.wr W (Or.inl (by simp))
  have E_o3 := E_o3.wr W
  have F_o3_bytes := F_o3_bytes.other W (Or.inl ne_o3_o78)
  have F_o3_starts := F_o3_starts.other W (Or.inl ne_o3_o78)
  have F_o3_hashes := F_o3_hashes.other W (Or.inl ne_o3_o78)
  have F_o3_table := F_o3_table.other W (Or.inl ne_o3_o78)
  have F_o3_encoded := F_o3_encoded.other W (Or.inl ne_o3_o78)
  have F_o3_encodedLength := F_o3_encodedLength.other W (Or.inl ne_o3_o78)
  have F_o3_encodedHash := F_o3_encodedHash.other W (Or.inl ne_o3_o78)
  have F_o3_length := F_o3_length.other W (Or.inl ne_o3_o78)
  have F_o3_position := F_o3_position.other W (Or.inl ne_o3_o78)
  refine s_iinc 63 C X (l' := #[.val (.ref o3), .val (.int (0 : Int32)), .val (.ref o77), .val (.ref o78), .val (.int (2 : Int32)), .val (.int (1 : Int32)), .val (.int (0 : Int32))]) d19_60 kc_iconst_1 rfl rfl ?_
  refine s_goto 25 C X d19_63 ?_
  refine s_aloadN 26 C X d19_25 rfl rfl ?_
  refine s_getfield 29 C X (host := "") d19_26 (Or.inl (mW 170 rfl)) Via.refl F_o3_position (fun T X => ?_)
  refine s_iload 31 C X d19_29 rfl ?_
  refine s_icmp_ge 66 34 C X d19_31 (fun _ => ?_) (fun c => absurd c (by decide))
  refine s_iload 68 C X d19_66 rfl ?_
  refine s_ireturn C X d19_68 rfl ?_
  exact ⟨rfl, A_o77, A_o78, Kp, E_o3, F_o3_bytes, F_o3_starts, F_o3_hashes, F_o3_table, F_o3_encoded, F_o3_encodedLength, F_o3_encodedHash, F_o3_length, F_o3_position⟩
set_option maxRecDepth 65536 in
set_option maxHeartbeats 40000000 in
theorem rm_a161 (l : Launch) (Z : State) (a0 : Array Value) (hw : ∀ d ∈ tables_1, d.before a0 Z = true) (o60 : Addr) (o61 : Addr) (k_o61 : ClassId) (h0 : Heap) (n0 : Nat) (Z0 : n0 ≤ h0.size) (F_o60_values : Fld Z h0 o60 "com/example/eventloom/eventloom/net/IntList" "values" "[I" (.ref o61)) (A_o61 : Arv Z h0 o61 k_o61 .int (16 : Int32) [(.int (-1 : Int32)), (.int (0 : Int32)), (.int (0 : Int32)), (.int (0 : Int32)), (.int (0 : Int32)), (.int (0 : Int32)), (.int (0 : Int32)), (.int (0 : Int32)), (.int (0 : Int32)), (.int (0 : Int32)), (.int (0 : Int32)), (.int (0 : Int32)), (.int (0 : Int32)), (.int (0 : Int32)), (.int (0 : Int32)), (.int (0 : Int32))] (.int (0 : Int32))) :
    Met l Z (⟨"com/example/eventloom/eventloom/net/IntList", "get", "(I)I"⟩ : MethodName) prog_85_method_3_code 2 (some .int) { frames := 0, cells := 0, slots := 0, locals := 0 } [] #[(.ref o60), (.int (0 : Int32))] h0 n0 (fun v h => v = some (.int (-1 : Int32)) ∧ Keep h0 h []) := by
  refine Met.mk (tabs := tables_1) (a0 := a0) (ls0 := #[.val (.ref o60), .val (.int (0 : Int32))]) (plainFor_of_name pn_com_example_eventloom_eventloom_net_IntList) hw Z0 (fun m => by first | (simp [entryFrame, mkF, argsToLocals, Value.category]; done) | rfl) ?_
  intro p e s m below meth c T C X
  have Kp : Keep h0 h0 [] := Keep.refl _ _
  refine s_aloadN 1 C X d20_0 rfl rfl ?_
  refine s_getfield 4 C X (host := "") d20_1 (Or.inl (mW 23 rfl)) Via.refl F_o60_values (fun T X => ?_)
  refine s_iloadN 5 C X d20_4 rfl ?_
  refine s_iaload 6 C X d20_5 A_o61 ⟨by decide, by decide⟩ (v := (.int (-1 : Int32))) rfl ?_
  refine s_ireturn C X d20_6 rfl ?_
  exact ⟨rfl, Kp⟩
set_option maxRecDepth 65536 in
set_option maxHeartbeats 40000000 in
theorem rm_a163 (l : Launch) (Z : State) (a0 : Array Value) (hw : ∀ d ∈ tables_1, d.before a0 Z = true) (o65 : Addr) (o76 : Addr) (h0 : Heap) (n0 : Nat) (Z0 : n0 ≤ h0.size)  :
    Met l Z (⟨"com/example/eventloom/eventloom/verification/CoverSearch", "walk", "([JJI)I"⟩ : MethodName) prog_117_method_6_code 11 (some .int) { frames := 0, cells := 0, slots := 0, locals := 0 } [] #[(.ref o65), (.ref o76), (.long (1 : Int64)), (.int (-1 : Int32))] h0 n0 (fun v h => v = some (.int (-1 : Int32)) ∧ Keep h0 h []) := by
  refine Met.mk (tabs := tables_1) (a0 := a0) (ls0 := #[.val (.ref o65), .val (.ref o76), .val (.long (1 : Int64)), .second, .val (.int (-1 : Int32)), .unset, .unset, .unset, .unset, .unset, .unset]) (plainFor_of_name pn_com_example_eventloom_eventloom_verification_CoverSearch) hw Z0 (fun m => by first | (simp [entryFrame, mkF, argsToLocals, Value.category]; done) | rfl) ?_
  intro p e s m below meth c T C X
  have Kp : Keep h0 h0 [] := Keep.refl _ _
  refine s_iconst 1 C X d23_0 kc_iconst_m1 ?_
  refine s_istore 3 C X (l' := #[.val (.ref o65), .val (.ref o76), .val (.long (1 : Int64)), .second, .val (.int (-1 : Int32)), .val (.int (-1 : Int32)), .unset, .unset, .unset, .unset, .unset]) d23_1 rfl ?_
  refine s_iload 5 C X d23_3 rfl ?_
  refine s_istore 7 C X (l' := #[.val (.ref o65), .val (.ref o76), .val (.long (1 : Int64)), .second, .val (.int (-1 : Int32)), .val (.int (-1 : Int32)), .val (.int (-1 : Int32)), .unset, .unset, .unset, .unset]) d23_5 rfl ?_
  refine s_iload 9 C X d23_7 rfl ?_
  refine s_if_lt 169 12 C X d23_9 (fun _ => ?_) (fun c => absurd (by decide : (-1 : Int32) < (0 : Int32)) c)
  refine s_iload 171 C X d23_169 rfl ?_
  refine s_ireturn C X d23_171 rfl ?_
  exact ⟨rfl, Kp⟩
set_option maxRecDepth 65536 in
set_option maxHeartbeats 40000000 in
theorem rm_a169 (l : Launch) (Z : State) (a0 : Array Value) (hw : ∀ d ∈ tables_1, d.before a0 Z = true) (o67 : Addr) (o68 : Addr) (k_o68 : ClassId) (h0 : Heap) (n0 : Nat) (Z0 : n0 ≤ h0.size) (E_o67 : Exa Z h0 o67 "com/example/eventloom/eventloom/net/IntList") (F_o67_values : Fld Z h0 o67 "com/example/eventloom/eventloom/net/IntList" "values" "[I" (.ref o68)) (F_o67_size : Fld Z h0 o67 "com/example/eventloom/eventloom/net/IntList" "size" "I" (.int (0 : Int32))) (A_o68 : Arv Z h0 o68 k_o68 .int (16 : Int32) [(.int (0 : Int32)), (.int (0 : Int32)), (.int (0 : Int32)), (.int (0 : Int32)), (.int (0 : Int32)), (.int (0 : Int32)), (.int (0 : Int32)), (.int (0 : Int32)), (.int (0 : Int32)), (.int (0 : Int32)), (.int (0 : Int32)), (.int (0 : Int32)), (.int (0 : Int32)), (.int (0 : Int32)), (.int (0 : Int32)), (.int (0 : Int32))] (.int (0 : Int32))) (g_o67 : n0 ≤ o67) (g_o68 : n0 ≤ o68) (ne_o67_o68 : o67 ≠ o68) :
    Met l Z (⟨"com/example/eventloom/eventloom/net/IntList", "add", "(I)V"⟩ : MethodName) prog_85_method_5_code 2 none { frames := 0, cells := 0, slots := 0, locals := 0 } [] #[(.ref o67), (.int (-1 : Int32))] h0 n0 (fun v h => v = none ∧ Exa Z h o67 "com/example/eventloom/eventloom/net/IntList" ∧ Fld Z h o67 "com/example/eventloom/eventloom/net/IntList" "values" "[I" (.ref o68) ∧ Fld Z h o67 "com/example/eventloom/eventloom/net/IntList" "size" "I" (.int (1 : Int32)) ∧ Arv Z h o68 k_o68 .int (16 : Int32) [(.int (-1 : Int32)), (.int (0 : Int32)), (.int (0 : Int32)), (.int (0 : Int32)), (.int (0 : Int32)), (.int (0 : Int32)), (.int (0 : Int32)), (.int (0 : Int32)), (.int (0 : Int32)), (.int (0 : Int32)), (.int (0 : Int32)), (.int (0 : Int32)), (.int (0 : Int32)), (.int (0 : Int32)), (.int (0 : Int32)), (.int (0 : Int32))] (.int (0 : Int32)) ∧ Keep h0 h [o67, o68]) := by
  refine Met.mk (tabs := tables_1) (a0 := a0) (ls0 := #[.val (.ref o67), .val (.int (-1 : Int32))]) (plainFor_of_name pn_com_example_eventloom_eventloom_net_IntList) hw Z0 (fun m => by first | (simp [entryFrame, mkF, argsToLocals, Value.category]; done) | rfl) ?_
  intro p e s m below meth c T C X
  have Kp : Keep h0 h0 [o67, o68] := Keep.refl _ _
  refine s_aloadN 1 C X d13_0 rfl rfl ?_
  refine s_getfield 4 C X (host := "") d13_1 (Or.inl (mW 77 rfl)) Via.refl F_o67_size (fun T X => ?_)
  refine s_aloadN 5 C X d13_4 rfl rfl ?_
  refine s_getfield 8 C X (host := "") d13_5 (Or.inl (mW 23 rfl)) Via.refl F_o67_values (fun T X => ?_)
  refine s_arraylength 9 C X d13_8 A_o68 ?_
  refine s_icmp_ne 38 12 C X d13_9 (fun _ => ?_) (fun c => absurd c (by decide))
  refine s_aloadN 39 C X d13_38 rfl rfl ?_
  refine s_getfield 42 C X (host := "") d13_39 (Or.inl (mW 23 rfl)) Via.refl F_o67_values (fun T X => ?_)
  refine s_aloadN 43 C X d13_42 rfl rfl ?_
  refine s_dup 44 C X d13_43 rfl ?_
  refine s_getfield 47 C X (host := "") d13_44 (Or.inl (mW 77 rfl)) Via.refl F_o67_size (fun T X => ?_)
  refine s_dupX1 48 C X d13_47 rfl rfl ?_
  refine s_iconst 49 C X d13_48 kc_iconst_1 ?_
  refine s_iadd 50 C X d13_49 ?_
  refine Run.cast (st' := [(.int (1 : Int32)), (.ref o67), (.int (0 : Int32)), (.ref o68)]) (by rw [kf_7]) ?_
  refine s_putfield 53 C X (host := "") d13_50 (Or.inl (mW 77 rfl)) Via.refl F_o67_size E_o67 (Or.inl (mW 78 rfl)) (mW 16 rfl) (ty := .int) (by decide) rfl rfl g_o67 (fun T hh X W => ?_)
  have E_o67 := E_o67.wr W
  have F_o67_values := oth F_o67_values W (Or.inl (hw _ (mW 24 rfl))) (Or.inl (hw _ (mW 78 rfl))) (by decide)
  have F_o67_size := F_o67_size.same W
  have A_o68 := A_o68.other W (Ne.symm ne_o67_o68)
  have Kp := Kp.wr W (Or.inl (by simp))
  refine s_iloadN 54 C X d13_53 rfl ?_
  refine s_iastore 55 0 C X d13_54 A_o68 g_o68 ⟨by decide, by decide⟩ rfl (Nat.le_of_ble_eq_true rfl) (fun T hh X W A_o68 => ?_)
  have A_o68 : Arv Z _ o68 k_o68 .int (16 : Int32) [(.int (-1 : Int32)), (.int (0 : Int32)), (.int (0 : Int32)), (.int (0 : Int32)), (.int (0 : Int32)), (.int (0 : Int32)), (.int (0 : Int32)), (.int (0 : Int32)), (.int (0 : Int32)), (.int (0 : Int32)), (.int (0 : Int32)), (.int (0 : Int32)), (.int (0 : Int32)), (.int (0 : Int32)), (.int (0 : Int32)), (.int (0 : Int32))] (.int (0 : Int32)) := A_o68
  have E_o67 := E_o67.wr W
  have F_o67_values := F_o67_values.other W (Or.inl ne_o67_o68)
  have F_o67_size := F_o67_size.other W (Or.inl ne_o67_o68)
  have Kp := Kp.wr W (Or.inl (by simp))
  refine s_return C X d13_55 rfl ?_
  exact ⟨rfl, E_o67, F_o67_values, F_o67_size, A_o68, Kp⟩
set_option maxRecDepth 65536 in
set_option maxHeartbeats 40000000 in
theorem rm_a170 (l : Launch) (Z : State) (a0 : Array Value) (hw : ∀ d ∈ tables_1, d.before a0 Z = true) (o70 : Addr) (h0 : Heap) (n0 : Nat) (Z0 : n0 ≤ h0.size) (F_o70_size : Fld Z h0 o70 "com/example/eventloom/eventloom/verification/IntBlockList" "size" "I" (.int (0 : Int32))) :
    Met l Z (⟨"com/example/eventloom/eventloom/verification/IntBlockList", "size", "()I"⟩ : MethodName) prog_119_method_2_code 1 (some .int) { frames := 0, cells := 0, slots := 0, locals := 0 } [] #[(.ref o70)] h0 n0 (fun v h => v = some (.int (0 : Int32)) ∧ Keep h0 h []) := by
  refine Met.mk (tabs := tables_1) (a0 := a0) (ls0 := #[.val (.ref o70)]) (plainFor_of_name pn_com_example_eventloom_eventloom_verification_IntBlockList) hw Z0 (fun m => by first | (simp [entryFrame, mkF, argsToLocals, Value.category]; done) | rfl) ?_
  intro p e s m below meth c T C X
  have Kp : Keep h0 h0 [] := Keep.refl _ _
  refine s_aloadN 1 C X d25_0 rfl rfl ?_
  refine s_getfield 4 C X (host := "") d25_1 (Or.inl (mW 195 rfl)) Via.refl F_o70_size (fun T X => ?_)
  refine s_ireturn C X d25_4 rfl ?_
  exact ⟨rfl, Kp⟩
set_option maxRecDepth 65536 in
set_option maxHeartbeats 40000000 in
theorem rm_a172 (l : Launch) (Z : State) (a0 : Array Value) (hw : ∀ d ∈ tables_1, d.before a0 Z = true) (o73 : Addr) (o74 : Addr) (k_o74 : ClassId) (h0 : Heap) (n0 : Nat) (Z0 : n0 ≤ h0.size) (E_o73 : Exa Z h0 o73 "com/example/eventloom/eventloom/net/IntList") (F_o73_values : Fld Z h0 o73 "com/example/eventloom/eventloom/net/IntList" "values" "[I" (.ref o74)) (F_o73_size : Fld Z h0 o73 "com/example/eventloom/eventloom/net/IntList" "size" "I" (.int (0 : Int32))) (A_o74 : Arv Z h0 o74 k_o74 .int (16 : Int32) [(.int (0 : Int32)), (.int (0 : Int32)), (.int (0 : Int32)), (.int (0 : Int32)), (.int (0 : Int32)), (.int (0 : Int32)), (.int (0 : Int32)), (.int (0 : Int32)), (.int (0 : Int32)), (.int (0 : Int32)), (.int (0 : Int32)), (.int (0 : Int32)), (.int (0 : Int32)), (.int (0 : Int32)), (.int (0 : Int32)), (.int (0 : Int32))] (.int (0 : Int32))) (g_o73 : n0 ≤ o73) (g_o74 : n0 ≤ o74) (ne_o73_o74 : o73 ≠ o74) :
    Met l Z (⟨"com/example/eventloom/eventloom/net/IntList", "add", "(I)V"⟩ : MethodName) prog_85_method_5_code 2 none { frames := 0, cells := 0, slots := 0, locals := 0 } [] #[(.ref o73), (.int (0 : Int32))] h0 n0 (fun v h => v = none ∧ Exa Z h o73 "com/example/eventloom/eventloom/net/IntList" ∧ Fld Z h o73 "com/example/eventloom/eventloom/net/IntList" "values" "[I" (.ref o74) ∧ Fld Z h o73 "com/example/eventloom/eventloom/net/IntList" "size" "I" (.int (1 : Int32)) ∧ Arv Z h o74 k_o74 .int (16 : Int32) [(.int (0 : Int32)), (.int (0 : Int32)), (.int (0 : Int32)), (.int (0 : Int32)), (.int (0 : Int32)), (.int (0 : Int32)), (.int (0 : Int32)), (.int (0 : Int32)), (.int (0 : Int32)), (.int (0 : Int32)), (.int (0 : Int32)), (.int (0 : Int32)), (.int (0 : Int32)), (.int (0 : Int32)), (.int (0 : Int32)), (.int (0 : Int32))] (.int (0 : Int32)) ∧ Keep h0 h [o73, o74]) := by
  refine Met.mk (tabs := tables_1) (a0 := a0) (ls0 := #[.val (.ref o73), .val (.int (0 : Int32))]) (plainFor_of_name pn_com_example_eventloom_eventloom_net_IntList) hw Z0 (fun m => by first | (simp [entryFrame, mkF, argsToLocals, Value.category]; done) | rfl) ?_
  intro p e s m below meth c T C X
  have Kp : Keep h0 h0 [o73, o74] := Keep.refl _ _
  refine s_aloadN 1 C X d13_0 rfl rfl ?_
  refine s_getfield 4 C X (host := "") d13_1 (Or.inl (mW 77 rfl)) Via.refl F_o73_size (fun T X => ?_)
  refine s_aloadN 5 C X d13_4 rfl rfl ?_
  refine s_getfield 8 C X (host := "") d13_5 (Or.inl (mW 23 rfl)) Via.refl F_o73_values (fun T X => ?_)
  refine s_arraylength 9 C X d13_8 A_o74 ?_
  refine s_icmp_ne 38 12 C X d13_9 (fun _ => ?_) (fun c => absurd c (by decide))
  refine s_aloadN 39 C X d13_38 rfl rfl ?_
  refine s_getfield 42 C X (host := "") d13_39 (Or.inl (mW 23 rfl)) Via.refl F_o73_values (fun T X => ?_)
  refine s_aloadN 43 C X d13_42 rfl rfl ?_
  refine s_dup 44 C X d13_43 rfl ?_
  refine s_getfield 47 C X (host := "") d13_44 (Or.inl (mW 77 rfl)) Via.refl F_o73_size (fun T X => ?_)
  refine s_dupX1 48 C X d13_47 rfl rfl ?_
  refine s_iconst 49 C X d13_48 kc_iconst_1 ?_
  refine s_iadd 50 C X d13_49 ?_
  refine Run.cast (st' := [(.int (1 : Int32)), (.ref o73), (.int (0 : Int32)), (.ref o74)]) (by rw [kf_7]) ?_
  refine s_putfield 53 C X (host := "") d13_50 (Or.inl (mW 77 rfl)) Via.refl F_o73_size E_o73 (Or.inl (mW 78 rfl)) (mW 16 rfl) (ty := .int) (by decide) rfl rfl g_o73 (fun T hh X W => ?_)
  have E_o73 := E_o73.wr W
  have F_o73_values := oth F_o73_values W (Or.inl (hw _ (mW 24 rfl))) (Or.inl (hw _ (mW 78 rfl))) (by decide)
  have F_o73_size := F_o73_size.same W
  have A_o74 := A_o74.other W (Ne.symm ne_o73_o74)
  have Kp := Kp.wr W (Or.inl (by simp))
  refine s_iloadN 54 C X d13_53 rfl ?_
  refine s_iastore 55 0 C X d13_54 A_o74 g_o74 ⟨by decide, by decide⟩ rfl (Nat.le_of_ble_eq_true rfl) (fun T hh X W A_o74 => ?_)
  have A_o74 : Arv Z _ o74 k_o74 .int (16 : Int32) [(.int (0 : Int32)), (.int (0 : Int32)), (.int (0 : Int32)), (.int (0 : Int32)), (.int (0 : Int32)), (.int (0 : Int32)), (.int (0 : Int32)), (.int (0 : Int32)), (.int (0 : Int32)), (.int (0 : Int32)), (.int (0 : Int32)), (.int (0 : Int32)), (.int (0 : Int32)), (.int (0 : Int32)), (.int (0 : Int32)), (.int (0 : Int32))] (.int (0 : Int32)) := A_o74
  have E_o73 := E_o73.wr W
  have F_o73_values := F_o73_values.other W (Or.inl ne_o73_o74)
  have F_o73_size := F_o73_size.other W (Or.inl ne_o73_o74)
  have Kp := Kp.wr W (Or.inl (by simp))
  refine s_return C X d13_55 rfl ?_
  exact ⟨rfl, E_o73, F_o73_values, F_o73_size, A_o74, Kp⟩
set_option maxRecDepth 65536 in
set_option maxHeartbeats 40000000 in
theorem rm_a182 (l : Launch) (Z : State) (a0 : Array Value) (hw : ∀ d ∈ tables_1, d.before a0 Z = true) (o70 : Addr) (o71 : Addr) (k_o71 : ClassId) (h0 : Heap) (n0 : Nat) (Z0 : n0 ≤ h0.size) (E_o70 : Exa Z h0 o70 "com/example/eventloom/eventloom/verification/IntBlockList") (F_o70_blocks : Fld Z h0 o70 "com/example/eventloom/eventloom/verification/IntBlockList" "blocks" "[[I" (.ref o71)) (F_o70_size : Fld Z h0 o70 "com/example/eventloom/eventloom/verification/IntBlockList" "size" "I" (.int (0 : Int32))) (E_o71 : Exa Z h0 o71 "[[I") (A_o71 : Arv Z h0 o71 k_o71 (.array .int) (1 : Int32) [.null] .null) (g_o70 : n0 ≤ o70) (g_o71 : n0 ≤ o71) (ne_o70_o71 : o70 ≠ o71) (O_o71 : OvrA Z k_o71 .int "[I") :
    Met l Z (⟨"com/example/eventloom/eventloom/verification/IntBlockList", "add", "(I)V"⟩ : MethodName) prog_119_method_4_code 3 none { frames := 0, cells := 1, slots := 1024, locals := 0 } [] #[(.ref o70), (.int (-1 : Int32))] h0 n0 (fun v h => ∃ (o181 : Addr) (k_o181 : ClassId), v = none ∧ Exa Z h o70 "com/example/eventloom/eventloom/verification/IntBlockList" ∧ Fld Z h o70 "com/example/eventloom/eventloom/verification/IntBlockList" "blocks" "[[I" (.ref o71) ∧ Fld Z h o70 "com/example/eventloom/eventloom/verification/IntBlockList" "size" "I" (.int (1 : Int32)) ∧ Exa Z h o71 "[[I" ∧ Arv Z h o71 k_o71 (.array .int) (1 : Int32) [(.ref o181)] .null ∧ Keep h0 h [o70, o71] ∧ Exa Z h o181 "[I" ∧ Arv Z h o181 k_o181 .int (1024 : Int32) [(.int (-1 : Int32)), (.int (0 : Int32)), (.int (0 : Int32)), (.int (0 : Int32)), (.int (0 : Int32)), (.int (0 : Int32))] (.int (0 : Int32)) ∧ o70 ≠ o181 ∧ o71 ≠ o181 ∧ h0.size ≤ o181 ∧ n0 ≤ o181) := by
  refine Met.mk (tabs := tables_1) (a0 := a0) (ls0 := #[.val (.ref o70), .val (.int (-1 : Int32)), .unset]) (plainFor_of_name pn_com_example_eventloom_eventloom_verification_IntBlockList) hw Z0 (fun m => by first | (simp [entryFrame, mkF, argsToLocals, Value.category]; done) | rfl) ?_
  intro p e s m below meth c T C X
  have Kp : Keep h0 h0 [o70, o71] := Keep.refl _ _
  refine s_aloadN 1 C X d26_0 rfl rfl ?_
  refine s_getfield 4 C X (host := "") d26_1 (Or.inl (mW 195 rfl)) Via.refl F_o70_size (fun T X => ?_)
  refine s_ldcInt 6 C X d26_4 (mW 202 rfl) ?_
  refine s_icmp_ne 19 9 C X d26_6 (fun _ => ?_) (fun c => absurd c (by decide))
  refine s_aloadN 20 C X d26_19 rfl rfl ?_
  refine s_getfield 23 C X (host := "") d26_20 (Or.inl (mW 195 rfl)) Via.refl F_o70_size (fun T X => ?_)
  refine s_bipush 25 C X d26_23 kc_bipush_10 ?_
  refine s_iushr 26 C X d26_25 ?_
  refine Run.cast (st' := [(.int (0 : Int32))]) (by rw [kf_41]) ?_
  refine s_istoreN 27 C X (l' := #[.val (.ref o70), .val (.int (-1 : Int32)), .val (.int (0 : Int32))]) d26_26 rfl ?_
  refine s_aloadN 28 C X d26_27 rfl rfl ?_
  refine s_getfield 31 C X (host := "") d26_28 (Or.inl (mW 195 rfl)) Via.refl F_o70_size (fun T X => ?_)
  refine s_sipush 34 C X d26_31 kc_sipush_1023 ?_
  refine s_iand 35 C X d26_34 ?_
  refine Run.cast (st' := [(.int (0 : Int32))]) (by rw [kf_42]) ?_
  refine s_if_ne 84 38 C X d26_35 (fun c => absurd (by decide : (0 : Int32) = (0 : Int32)) c) (fun _ => ?_)
  refine s_iloadN 39 C X d26_38 rfl ?_
  refine s_aloadN 40 C X d26_39 rfl rfl ?_
  refine s_getfield 43 C X (host := "") d26_40 (Or.inl (mW 116 rfl)) Via.refl F_o70_blocks (fun T X => ?_)
  refine s_arraylength 44 C X d26_43 A_o71 ?_
  refine s_icmp_ne 73 47 C X d26_44 (fun _ => ?_) (fun c => absurd c (by decide))
  refine s_aloadN 74 C X d26_73 rfl rfl ?_
  refine s_getfield 77 C X (host := "") d26_74 (Or.inl (mW 116 rfl)) Via.refl F_o70_blocks (fun T X => ?_)
  refine s_iloadN 78 C X d26_77 rfl ?_
  refine s_sipush 81 C X d26_78 kc_sipush_1024 ?_
  refine s_newarrayE 83 1024 "[I" C X d26_81 (mW 22 rfl) (by decide) (by decide) rfl (fun T hh o181 k_o181 hb_o181 X E A_o181 E_o181 g_o181 => ?_)
  have ne_o70_o181 : o70 ≠ o181 := Nat.ne_of_lt (Nat.lt_of_lt_of_le E_o70.lt (Nat.le_of_eq hb_o181))
  have ne_o71_o181 : o71 ≠ o181 := Nat.ne_of_lt (Nat.lt_of_lt_of_le E_o71.lt (Nat.le_of_eq hb_o181))
  have sz_o181 : h0.size ≤ o181 := Nat.le_trans Kp.1 (Nat.le_of_eq hb_o181)
  have E_o70 := E_o70.ext E
  have F_o70_blocks := F_o70_blocks.ext E
  have F_o70_size := F_o70_size.ext E
  have E_o71 := E_o71.ext E
  have A_o71 := A_o71.ext E
  have Kp := Kp.ext E
  have A_o181 : Arv Z _ o181 k_o181 .int (1024 : Int32) [(.int (0 : Int32)), (.int (0 : Int32)), (.int (0 : Int32)), (.int (0 : Int32)), (.int (0 : Int32)), (.int (0 : Int32))] (.int (0 : Int32)) := A_o181.pad (pad_rep [] _ 6)
  refine s_aastore 84 0 C X d26_83 A_o71 rfl rfl (fun _ A q => Sto.ofVA A q O_o71 (Ins.self E_o181)) g_o71 ⟨by decide, by decide⟩ rfl (Nat.le_of_ble_eq_true rfl) (fun T hh X W A_o71 => ?_)
  have A_o71 : Arv Z _ o71 k_o71 (.array .int) (1 : Int32) [(.ref o181)] .null := A_o71
  have E_o70 := E_o70.wr W
  have F_o70_blocks := F_o70_blocks.other W (Or.inl ne_o70_o71)
  have F_o70_size := F_o70_size.other W (Or.inl ne_o70_o71)
  have E_o71 := E_o71.wr W
  have Kp := Kp.wr W (Or.inl (by simp))
  have E_o181 := E_o181.wr W
  have A_o181 := A_o181.other W (Ne.symm ne_o71_o181)
  refine s_aloadN 85 C X d26_84 rfl rfl ?_
  refine s_getfield 88 C X (host := "") d26_85 (Or.inl (mW 116 rfl)) Via.refl F_o70_blocks (fun T X => ?_)
  refine s_iloadN 89 C X d26_88 rfl ?_
  refine s_aaload 90 C X d26_89 A_o71 rfl ⟨by decide, by decide⟩ (v := (.ref o181)) rfl ?_
  refine s_aloadN 91 C X d26_90 rfl rfl ?_
  refine s_getfield 94 C X (host := "") d26_91 (Or.inl (mW 195 rfl)) Via.refl F_o70_size (fun T X => ?_)
  refine s_sipush 97 C X d26_94 kc_sipush_1023 ?_
  refine s_iand 98 C X d26_97 ?_
  refine Run.cast (st' := [(.int (0 : Int32)), (.ref o181)]) (by rw [kf_42]) ?_
  refine s_iloadN 99 C X d26_98 rfl ?_
  refine s_iastore 100 0 C X d26_99 A_o181 g_o181 ⟨by decide, by decide⟩ rfl (Nat.le_of_ble_eq_true rfl) (fun T hh X W A_o181 => ?_)
  have A_o181 : Arv Z _ o181 k_o181 .int (1024 : Int32) [(.int (-1 : Int32)), (.int (0 : Int32)), (.int (0 : Int32)), (.int (0 : Int32)), (.int (0 : Int32)), (.int (0 : Int32))] (.int (0 : Int32)) := A_o181
  have E_o70 := E_o70.wr W
  have F_o70_blocks := F_o70_blocks.other W (Or.inl ne_o70_o181)
  have F_o70_size := F_o70_size.other W (Or.inl ne_o70_o181)
  have E_o71 := E_o71.wr W
  have A_o71 := A_o71.other W ne_o71_o181
  have Kp := Kp.wr W (Or.inr sz_o181)
  have E_o181 := E_o181.wr W
  refine s_aloadN 101 C X d26_100 rfl rfl ?_
  refine s_dup 102 C X d26_101 rfl ?_
  refine s_getfield 105 C X (host := "") d26_102 (Or.inl (mW 195 rfl)) Via.refl F_o70_size (fun T X => ?_)
  refine s_iconst 106 C X d26_105 kc_iconst_1 ?_
  refine s_iadd 107 C X d26_106 ?_
  refine Run.cast (st' := [(.int (1 : Int32)), (.ref o70)]) (by rw [kf_7]) ?_
  refine s_putfield 110 C X (host := "") d26_107 (Or.inl (mW 195 rfl)) Via.refl F_o70_size E_o70 (Or.inl (mW 196 rfl)) (mW 108 rfl) (ty := .int) (by decide) rfl rfl g_o70 (fun T hh X W => ?_)
  have E_o70 := E_o70.wr W
  have F_o70_blocks := oth F_o70_blocks W (Or.inl (hw _ (mW 117 rfl))) (Or.inl (hw _ (mW 196 rfl))) (by decide)
  have F_o70_size := F_o70_size.same W
  have E_o71 := E_o71.wr W
  have A_o71 := A_o71.other W (Ne.symm ne_o70_o71)
  have Kp := Kp.wr W (Or.inl (by simp))
  have E_o181 := E_o181.wr W
  have A_o181 := A_o181.other W (Ne.symm ne_o70_o181)
  refine s_return C X d26_110 rfl ?_
  exact ⟨o181, k_o181, rfl, E_o70, F_o70_blocks, F_o70_size, E_o71, A_o71, Kp, E_o181, A_o181, ne_o70_o181, ne_o71_o181, sz_o181, g_o181⟩
set_option maxRecDepth 65536 in
set_option maxHeartbeats 40000000 in
theorem rm_a184 (l : Launch) (Z : State) (a0 : Array Value) (hw : ∀ d ∈ tables_1, d.before a0 Z = true) (o65 : Addr) (o70 : Addr) (o71 : Addr) (k_o71 : ClassId) (o73 : Addr) (o74 : Addr) (k_o74 : ClassId) (o77 : Addr) (k_o77 : ClassId) (h0 : Heap) (n0 : Nat) (Z0 : n0 ≤ h0.size) (F_o65_nearestUnmarked : Fld Z h0 o65 "com/example/eventloom/eventloom/verification/CoverSearch" "nearestUnmarked" "Lcom/example/eventloom/eventloom/verification/IntBlockList;" (.ref o70)) (F_o65_firstNearestUnmarked : Fld Z h0 o65 "com/example/eventloom/eventloom/verification/CoverSearch" "firstNearestUnmarked" "Lcom/example/eventloom/eventloom/net/IntList;" (.ref o73)) (F_o65_searchedPlaces : Fld Z h0 o65 "com/example/eventloom/eventloom/verification/CoverSearch" "searchedPlaces" "[I" (.ref o77)) (E_o70 : Exa Z h0 o70 "com/example/eventloom/eventloom/verification/IntBlockList") (F_o70_blocks : Fld Z h0 o70 "com/example/eventloom/eventloom/verification/IntBlockList" "blocks" "[[I" (.ref o71)) (F_o70_size : Fld Z h0 o70 "com/example/eventloom/eventloom/verification/IntBlockList" "size" "I" (.int (0 : Int32))) (E_o71 : Exa Z h0 o71 "[[I") (A_o71 : Arv Z h0 o71 k_o71 (.array .int) (1 : Int32) [.null] .null) (E_o73 : Exa Z h0 o73 "com/example/eventloom/eventloom/net/IntList") (F_o73_values : Fld Z h0 o73 "com/example/eventloom/eventloom/net/IntList" "values" "[I" (.ref o74)) (F_o73_size : Fld Z h0 o73 "com/example/eventloom/eventloom/net/IntList" "size" "I" (.int (0 : Int32))) (A_o74 : Arv Z h0 o74 k_o74 .int (16 : Int32) [(.int (0 : Int32)), (.int (0 : Int32)), (.int (0 : Int32)), (.int (0 : Int32)), (.int (0 : Int32)), (.int (0 : Int32)), (.int (0 : Int32)), (.int (0 : Int32)), (.int (0 : Int32)), (.int (0 : Int32)), (.int (0 : Int32)), (.int (0 : Int32)), (.int (0 : Int32)), (.int (0 : Int32)), (.int (0 : Int32)), (.int (0 : Int32))] (.int (0 : Int32))) (A_o77 : Arv Z h0 o77 k_o77 .int (1 : Int32) [(.int (0 : Int32))] (.int (0 : Int32))) (g_o70 : n0 ≤ o70) (g_o71 : n0 ≤ o71) (g_o73 : n0 ≤ o73) (g_o74 : n0 ≤ o74) (ne_o65_o70 : o65 ≠ o70) (ne_o65_o71 : o65 ≠ o71) (ne_o70_o71 : o70 ≠ o71) (O_o71 : OvrA Z k_o71 .int "[I") (ne_o65_o73 : o65 ≠ o73) (ne_o70_o73 : o70 ≠ o73) (ne_o71_o73 : o71 ≠ o73) (ne_o65_o74 : o65 ≠ o74) (ne_o70_o74 : o70 ≠ o74) (ne_o71_o74 : o71 ≠ o74) (ne_o73_o74 : o73 ≠ o74) (ne_o70_o77 : o70 ≠ o77) (ne_o71_o77 : o71 ≠ o77) (ne_o73_o77 : o73 ≠ o77) (ne_o74_o77 : o74 ≠ o77) :
    Met l Z (⟨"com/example/eventloom/eventloom/verification/CoverSearch", "addNearestUnmarked", "(II)V"⟩ : MethodName) prog_117_method_7_code 9 none { frames := 1, cells := 1, slots := 1024, locals := 14 } [] #[(.ref o65), (.int (1 : Int32)), (.int (-1 : Int32))] h0 n0 (fun v h => ∃ (o181 : Addr) (k_o181 : ClassId), v = none ∧ Keep h0 h [o70, o73, o71, o74] ∧ Exa Z h o73 "com/example/eventloom/eventloom/net/IntList" ∧ Fld Z h o73 "com/example/eventloom/eventloom/net/IntList" "values" "[I" (.ref o74) ∧ Fld Z h o73 "com/example/eventloom/eventloom/net/IntList" "size" "I" (.int (1 : Int32)) ∧ Arv Z h o74 k_o74 .int (16 : Int32) [(.int (0 : Int32)), (.int (0 : Int32)), (.int (0 : Int32)), (.int (0 : Int32)), (.int (0 : Int32)), (.int (0 : Int32)), (.int (0 : Int32)), (.int (0 : Int32)), (.int (0 : Int32)), (.int (0 : Int32)), (.int (0 : Int32)), (.int (0 : Int32)), (.int (0 : Int32)), (.int (0 : Int32)), (.int (0 : Int32)), (.int (0 : Int32))] (.int (0 : Int32)) ∧ Exa Z h o70 "com/example/eventloom/eventloom/verification/IntBlockList" ∧ Fld Z h o70 "com/example/eventloom/eventloom/verification/IntBlockList" "blocks" "[[I" (.ref o71) ∧ Fld Z h o70 "com/example/eventloom/eventloom/verification/IntBlockList" "size" "I" (.int (1 : Int32)) ∧ Exa Z h o71 "[[I" ∧ Arv Z h o71 k_o71 (.array .int) (1 : Int32) [(.ref o181)] .null ∧ Exa Z h o181 "[I" ∧ Arv Z h o181 k_o181 .int (1024 : Int32) [(.int (-1 : Int32)), (.int (0 : Int32)), (.int (0 : Int32)), (.int (0 : Int32)), (.int (0 : Int32)), (.int (0 : Int32))] (.int (0 : Int32)) ∧ o73 ≠ o181 ∧ o74 ≠ o181 ∧ h0.size ≤ o181 ∧ n0 ≤ o181 ∧ o70 ≠ o181 ∧ o71 ≠ o181) := by
  refine Met.mk (tabs := tables_1) (a0 := a0) (ls0 := #[.val (.ref o65), .val (.int (1 : Int32)), .val (.int (-1 : Int32)), .unset, .unset, .unset, .unset, .unset, .unset]) (plainFor_of_name pn_com_example_eventloom_eventloom_verification_CoverSearch) hw Z0 (fun m => by first | (simp [entryFrame, mkF, argsToLocals, Value.category]; done) | rfl) ?_
  intro p e s m below meth c T C X
  have Kp : Keep h0 h0 [o70, o73, o71, o74] := Keep.refl _ _
  refine s_aloadN 1 C X d24_0 rfl rfl ?_
  refine s_getfield 4 C X (host := "") d24_1 (Or.inl (mW 120 rfl)) Via.refl F_o65_firstNearestUnmarked (fun T X => ?_)
  refine s_aloadN 5 C X d24_4 rfl rfl ?_
  refine s_getfield 8 C X (host := "") d24_5 (Or.inl (mW 118 rfl)) Via.refl F_o65_nearestUnmarked (fun T X => ?_)
  refine s_callV 11 [] [(.ref o73)] 1 C X d24_8 (mW 190 rfl) (mW 191 rfl) (notFace_of_selects (args := #[]) (mvT C.2.1 (C.w (mW 193 rfl)))) (mW 193 rfl) (mW 192 rfl) (mW 109 rfl) (mW 194 rfl) E_o70 (rm_a170 l Z a0 hw o70 _ n0 X.sz F_o70_size) (lenOf pd___I rfl) rfl rfl rfl (fun T v hh X q => ?_)
  obtain ⟨rfl, Kc⟩ := q
  have F_o65_nearestUnmarked := F_o65_nearestUnmarked.keep Kc nin0
  have F_o65_firstNearestUnmarked := F_o65_firstNearestUnmarked.keep Kc nin0
  have F_o65_searchedPlaces := F_o65_searchedPlaces.keep Kc nin0
  have E_o70 := E_o70.keep Kc
  have F_o70_blocks := F_o70_blocks.keep Kc nin0
  have F_o70_size := F_o70_size.keep Kc nin0
  have E_o71 := E_o71.keep Kc
  have A_o71 := A_o71.keep Kc nin0
  have E_o73 := E_o73.keep Kc
  have F_o73_values := F_o73_values.keep Kc nin0
  have F_o73_size := F_o73_size.keep Kc nin0
  have A_o74 := A_o74.keep Kc nin0
  have A_o77 := A_o77.keep Kc nin0
  have Kp := Kp.trans Kc all0
  refine Run.cast (st' := [(.int (0 : Int32)), (.ref o73)]) rfl ?_
  refine s_callV 14 [(.int (0 : Int32))] [] 0 C X d24_11 (mW 185 rfl) (mW 86 rfl) (notFace_of_selects (args := #[]) (mvT C.2.1 (C.w (mW 88 rfl)))) (mW 88 rfl) (mW 87 rfl) (mW 17 rfl) (mW 89 rfl) E_o73 (rm_a172 l Z a0 hw o73 o74 k_o74 _ n0 X.sz E_o73 F_o73_values F_o73_size A_o74 g_o73 g_o74 ne_o73_o74) (lenOf pd__I_V rfl) rfl rfl rfl (fun T v hh X q => ?_)
  obtain ⟨rfl, E_o73, F_o73_values, F_o73_size, A_o74, Kc⟩ := q
  have nn_o65 : o65 ∉ [o73, o74] := (ninS ne_o65_o73 (ninS ne_o65_o74 nin0))
  have nn_o70 : o70 ∉ [o73, o74] := (ninS ne_o70_o73 (ninS ne_o70_o74 nin0))
  have F_o65_nearestUnmarked := F_o65_nearestUnmarked.keep Kc nn_o65
  have F_o65_firstNearestUnmarked := F_o65_firstNearestUnmarked.keep Kc nn_o65
  have F_o65_searchedPlaces := F_o65_searchedPlaces.keep Kc nn_o65
  have E_o70 := E_o70.keep Kc
  have F_o70_blocks := F_o70_blocks.keep Kc nn_o70
  have F_o70_size := F_o70_size.keep Kc nn_o70
  have E_o71 := E_o71.keep Kc
  have A_o71 := A_o71.keep Kc (ninS ne_o71_o73 (ninS ne_o71_o74 nin0))
  have A_o77 := A_o77.keep Kc (ninS (Ne.symm ne_o73_o77) (ninS (Ne.symm ne_o74_o77) nin0))
  have Kp := Kp.trans Kc (allS (Or.inl (by simp)) (allS (Or.inl (by simp)) all0))
  refine Run.cast (st' := []) rfl ?_
  refine s_iconst 15 C X d24_14 kc_iconst_0 ?_
  refine s_istoreN 16 C X (l' := #[.val (.ref o65), .val (.int (1 : Int32)), .val (.int (-1 : Int32)), .val (.int (0 : Int32)), .unset, .unset, .unset, .unset, .unset]) d24_15 rfl ?_
  refine s_iconst 17 C X d24_16 kc_iconst_0 ?_
  refine s_istore 19 C X (l' := #[.val (.ref o65), .val (.int (1 : Int32)), .val (.int (-1 : Int32)), .val (.int (0 : Int32)), .val (.int (0 : Int32)), .unset, .unset, .unset, .unset]) d24_17 rfl ?_
  refine s_iloadN 20 C X d24_19 rfl ?_
  refine s_if_lt 50 23 C X d24_20 (fun _ => ?_) (fun c => absurd (by decide : (-1 : Int32) < (0 : Int32)) c)
  refine s_iconst 51 C X d24_50 kc_iconst_0 ?_
  refine s_istore 53 C X (l' := #[.val (.ref o65), .val (.int (1 : Int32)), .val (.int (-1 : Int32)), .val (.int (0 : Int32)), .val (.int (0 : Int32)), .val (.int (0 : Int32)), .unset, .unset, .unset]) d24_51 rfl ?_
  refine s_iconst 54 C X d24_53 kc_iconst_0 ?_
  refine s_istore 56 C X (l' := #[.val (.ref o65), .val (.int (1 : Int32)), .val (.int (-1 : Int32)), .val (.int (0 : Int32)), .val (.int (0 : Int32)), .val (.int (0 : Int32)), .val (.int (0 : Int32)), .unset, .unset]) d24_54 rfl ?_
  refine s_iload 58 C X d24_56 rfl ?_
  refine s_iloadN 59 C X d24_58 rfl ?_
  refine s_icmp_ge 154 62 C X d24_59 (fun c => absurd (by decide : (0 : Int32) < (1 : Int32)) c) (fun _ => ?_)
  refine s_aloadN 63 C X d24_62 rfl rfl ?_
  refine s_getfield 66 C X (host := "") d24_63 (Or.inl (mW 130 rfl)) Via.refl F_o65_searchedPlaces (fun T X => ?_)
  refine s_iload 68 C X d24_66 rfl ?_
  refine s_iaload 69 C X d24_68 A_o77 ⟨by decide, by decide⟩ (v := (.int (0 : Int32))) rfl ?_
  refine s_istore 71 C X (l' := #[.val (.ref o65), .val (.int (1 : Int32)), .val (.int (-1 : Int32)), .val (.int (0 : Int32)), .val (.int (0 : Int32)), .val (.int (0 : Int32)), .val (.int (0 : Int32)), .val (.int (0 : Int32)), .unset]) d24_69 rfl ?_
  refine s_iload 73 C X d24_71 rfl ?_
  refine s_iloadN 74 C X d24_73 rfl ?_
  refine s_icmp_ge 95 77 C X d24_74 (fun _ => ?_) (fun c => absurd c (by decide))
  refine s_iload 97 C X d24_95 rfl ?_
  refine s_iloadN 98 C X d24_97 rfl ?_
  refine s_icmp_ge 117 101 C X d24_98 (fun _ => ?_) (fun c => absurd c (by decide))
  refine s_iconst 118 C X d24_117 kc_iconst_0 ?_
  refine s_istore 120 C X (l' := #[.val (.ref o65), .val (.int (1 : Int32)), .val (.int (-1 : Int32)), .val (.int (0 : Int32)), .val (.int (0 : Int32)), .val (.int (0 : Int32)), .val (.int (0 : Int32)), .val (.int (0 : Int32)), .val (.int (0 : Int32))]) d24_118 rfl ?_
  refine s_aloadN 121 C X d24_120 rfl rfl ?_
  refine s_getfield 124 C X (host := "") d24_121 (Or.inl (mW 118 rfl)) Via.refl F_o65_nearestUnmarked (fun T X => ?_)
  refine s_iload 126 C X d24_124 rfl ?_
  refine s_if_eq 144 129 C X d24_126 (fun _ => ?_) (fun c => absurd (by decide : (0 : Int32) = (0 : Int32)) c)
  refine s_iloadN 145 C X d24_144 rfl ?_
  refine s_callV 148 [(.int (-1 : Int32))] [] 0 C X d24_145 (mW 197 rfl) (mW 198 rfl) (notFace_of_selects (args := #[]) (mvT C.2.1 (C.w (mW 200 rfl)))) (mW 200 rfl) (mW 199 rfl) (mW 109 rfl) (mW 201 rfl) E_o70 (rm_a182 l Z a0 hw o70 o71 k_o71 _ n0 X.sz E_o70 F_o70_blocks F_o70_size E_o71 A_o71 g_o70 g_o71 ne_o70_o71 O_o71) (lenOf pd__I_V rfl) rfl rfl rfl (fun T v hh X q => ?_)
  obtain ⟨o181, k_o181, rfl, E_o70, F_o70_blocks, F_o70_size, E_o71, A_o71, Kc, E_o181, A_o181, ne_o70_o181, ne_o71_o181, sz_o181', g_o181⟩ := q
  have ne_o65_o181 : o65 ≠ o181 := Nat.ne_of_lt (Nat.lt_of_lt_of_le F_o65_nearestUnmarked.lt sz_o181')
  have ne_o77_o181 : o77 ≠ o181 := Nat.ne_of_lt (Nat.lt_of_lt_of_le A_o77.lt sz_o181')
  have ne_o73_o181 : o73 ≠ o181 := Nat.ne_of_lt (Nat.lt_of_lt_of_le E_o73.lt sz_o181')
  have ne_o74_o181 : o74 ≠ o181 := Nat.ne_of_lt (Nat.lt_of_lt_of_le A_o74.lt sz_o181')
  have sz_o181 : h0.size ≤ o181 := Nat.le_trans Kp.1 sz_o181'
  have nn_o65 : o65 ∉ [o70, o71] := (ninS ne_o65_o70 (ninS ne_o65_o71 nin0))
  have nn_o73 : o73 ∉ [o70, o71] := (ninS (Ne.symm ne_o70_o73) (ninS (Ne.symm ne_o71_o73) nin0))
  have F_o65_nearestUnmarked := F_o65_nearestUnmarked.keep Kc nn_o65
  have F_o65_firstNearestUnmarked := F_o65_firstNearestUnmarked.keep Kc nn_o65
  have F_o65_searchedPlaces := F_o65_searchedPlaces.keep Kc nn_o65
  have A_o77 := A_o77.keep Kc (ninS (Ne.symm ne_o70_o77) (ninS (Ne.symm ne_o71_o77) nin0))
  have Kp := Kp.trans Kc (allS (Or.inl (by simp)) (allS (Or.inl (by simp)) all0))
  have E_o73 := E_o73.keep Kc
  have F_o73_values := F_o73_values.keep Kc nn_o73
  have F_o73_size := F_o73_size.keep Kc nn_o73
  have A_o74 := A_o74.keep Kc (ninS (Ne.symm ne_o70_o74) (ninS (Ne.symm ne_o71_o74) nin0))
  refine Run.cast (st' := []) rfl ?_
  refine s_iinc 151 C X (l' := #[.val (.ref o65), .val (.int (1 : Int32)), .val (.int (-1 : Int32)), .val (.int (0 : Int32)), .val (.int (0 : Int32)), .val (.int (0 : Int32)), .val (.int (1 : Int32)), .val (.int (0 : Int32)), .val (.int (0 : Int32))]) d24_148 kc_iconst_1 rfl rfl ?_
  refine s_goto 56 C X d24_151 ?_
  refine s_iload 58 C X d24_56 rfl ?_
  refine s_iloadN 59 C X d24_58 rfl ?_
  refine s_icmp_ge 154 62 C X d24_59 (fun _ => ?_) (fun c => absurd c (by decide))
  refine s_return C X d24_154 rfl ?_
  exact ⟨o181, k_o181, rfl, Kp, E_o73, F_o73_values, F_o73_size, A_o74, E_o70, F_o70_blocks, F_o70_size, E_o71, A_o71, E_o181, A_o181, ne_o73_o181, ne_o74_o181, sz_o181, g_o181, ne_o70_o181, ne_o71_o181⟩
set_option maxRecDepth 65536 in
set_option maxHeartbeats 40000000 in
theorem rm_a188 (l : Launch) (Z : State) (a0 : Array Value) (hw : ∀ d ∈ tables_1, d.before a0 Z = true) (x0 : Int32) (o3 : Addr) (o4 : Addr) (o5 : Addr) (k_o4 : ClassId) (o6 : Addr) (k_o6 : ClassId) (o8 : Addr) (o11 : Addr) (o31 : Addr) (o60 : Addr) (o61 : Addr) (k_o61 : ClassId) (o65 : Addr) (o66 : Addr) (o67 : Addr) (k_o66 : ClassId) (o68 : Addr) (k_o68 : ClassId) (o70 : Addr) (o71 : Addr) (k_o71 : ClassId) (o73 : Addr) (o74 : Addr) (k_o74 : ClassId) (o76 : Addr) (o77 : Addr) (o78 : Addr) (o79 : Addr) (o80 : Addr) (o81 : Addr) (k_o76 : ClassId) (k_o77 : ClassId) (k_o78 : ClassId) (gst : Int64) (h0 : Heap) (n0 : Nat) (Z0 : n0 ≤ h0.size) (E_o3 : Exa Z h0 o3 "com/example/eventloom/eventloom/net/MarkingStore") (F_o3_bytes : Fld Z h0 o3 "com/example/eventloom/eventloom/net/MarkingStore" "bytes" "[B" (.ref o4)) (F_o3_starts : Fld Z h0 o3 "com/example/eventloom/eventloom/net/MarkingStore" "starts" "Lcom/example/eventloom/eventloom/net/IntList;" (.ref o5)) (F_o3_hashes : Fld Z h0 o3 "com/example/eventloom/eventloom/net/MarkingStore" "hashes" "Lcom/example/eventloom/eventloom/net/IntList;" (.ref o8)) (F_o3_table : Fld Z h0 o3 "com/example/eventloom/eventloom/net/MarkingStore" "table" "[I" (.ref o11)) (F_o3_encoded : Fld Z h0 o3 "com/example/eventloom/eventloom/net/MarkingStore" "encoded" "[B" (.ref o31)) (F_o3_encodedLength : Fld Z h0 o3 "com/example/eventloom/eventloom/net/MarkingStore" "encodedLength" "I" (.int (2 : Int32))) (F_o3_encodedHash : Fld Z h0 o3 "com/example/eventloom/eventloom/net/MarkingStore" "encodedHash" "I" (.int (962 : Int32))) (F_o3_length : Fld Z h0 o3 "com/example/eventloom/eventloom/net/MarkingStore" "length" "I" (.int (2 : Int32))) (F_o3_position : Fld Z h0 o3 "com/example/eventloom/eventloom/net/MarkingStore" "position" "I" (.int (0 : Int32))) (A_o4 : Arv Z h0 o4 k_o4 .byte (4096 : Int32) [(.int (0 : Int32)), (.int (1 : Int32)), (.int (0 : Int32)), (.int (0 : Int32)), (.int (0 : Int32)), (.int (0 : Int32))] (.int (0 : Int32))) (E_o5 : Exa Z h0 o5 "com/example/eventloom/eventloom/net/IntList") (F_o5_values : Fld Z h0 o5 "com/example/eventloom/eventloom/net/IntList" "values" "[I" (.ref o6)) (F_o5_size : Fld Z h0 o5 "com/example/eventloom/eventloom/net/IntList" "size" "I" (.int (1 : Int32))) (A_o6 : Arv Z h0 o6 k_o6 .int (16 : Int32) [(.int (0 : Int32)), (.int (0 : Int32)), (.int (0 : Int32)), (.int (0 : Int32)), (.int (0 : Int32)), (.int (0 : Int32)), (.int (0 : Int32)), (.int (0 : Int32)), (.int (0 : Int32)), (.int (0 : Int32)), (.int (0 : Int32)), (.int (0 : Int32)), (.int (0 : Int32)), (.int (0 : Int32)), (.int (0 : Int32)), (.int (0 : Int32))] (.int (0 : Int32))) (E_o60 : Exa Z h0 o60 "com/example/eventloom/eventloom/net/IntList") (F_o60_values : Fld Z h0 o60 "com/example/eventloom/eventloom/net/IntList" "values" "[I" (.ref o61)) (A_o61 : Arv Z h0 o61 k_o61 .int (16 : Int32) [(.int (-1 : Int32)), (.int (0 : Int32)), (.int (0 : Int32)), (.int (0 : Int32)), (.int (0 : Int32)), (.int (0 : Int32)), (.int (0 : Int32)), (.int (0 : Int32)), (.int (0 : Int32)), (.int (0 : Int32)), (.int (0 : Int32)), (.int (0 : Int32)), (.int (0 : Int32)), (.int (0 : Int32)), (.int (0 : Int32)), (.int (0 : Int32))] (.int (0 : Int32))) (E_o65 : Exa Z h0 o65 "com/example/eventloom/eventloom/verification/CoverSearch") (F_o65_tokens : Fld Z h0 o65 "com/example/eventloom/eventloom/verification/CoverSearch" "tokens" "[J" (.ref o66)) (F_o65_nearestFewer : Fld Z h0 o65 "com/example/eventloom/eventloom/verification/CoverSearch" "nearestFewer" "Lcom/example/eventloom/eventloom/net/IntList;" (.ref o67)) (F_o65_nearestUnmarked : Fld Z h0 o65 "com/example/eventloom/eventloom/verification/CoverSearch" "nearestUnmarked" "Lcom/example/eventloom/eventloom/verification/IntBlockList;" (.ref o70)) (F_o65_firstNearestUnmarked : Fld Z h0 o65 "com/example/eventloom/eventloom/verification/CoverSearch" "firstNearestUnmarked" "Lcom/example/eventloom/eventloom/net/IntList;" (.ref o73)) (F_o65_markings : Fld Z h0 o65 "com/example/eventloom/eventloom/verification/CoverSearch" "markings" "Lcom/example/eventloom/eventloom/net/MarkingStore;" (.ref o3)) (F_o65_parents : Fld Z h0 o65 "com/example/eventloom/eventloom/verification/CoverSearch" "parents" "Lcom/example/eventloom/eventloom/net/IntList;" (.ref o60)) (F_o65_stepsPerMarking : Fld Z h0 o65 "com/example/eventloom/eventloom/verification/CoverSearch" "stepsPerMarking" "I" (.int x0)) (F_o65_searchedMarking : Fld Z h0 o65 "com/example/eventloom/eventloom/verification/CoverSearch" "searchedMarking" "[J" (.ref o76)) (F_o65_searchedPlaces : Fld Z h0 o65 "com/example/eventloom/eventloom/verification/CoverSearch" "searchedPlaces" "[I" (.ref o77)) (F_o65_searchedTokens : Fld Z h0 o65 "com/example/eventloom/eventloom/verification/CoverSearch" "searchedTokens" "[J" (.ref o78)) (F_o65_parentPlaces : Fld Z h0 o65 "com/example/eventloom/eventloom/verification/CoverSearch" "parentPlaces" "[I" (.ref o79)) (F_o65_parentTokens : Fld Z h0 o65 "com/example/eventloom/eventloom/verification/CoverSearch" "parentTokens" "[J" (.ref o80)) (F_o65_unmarkedRanks : Fld Z h0 o65 "com/example/eventloom/eventloom/verification/CoverSearch" "unmarkedRanks" "[I" (.ref o81)) (F_o65_searched : Fld Z h0 o65 "com/example/eventloom/eventloom/verification/CoverSearch" "searched" "I" (.int (0 : Int32))) (F_o65_steps : Fld Z h0 o65 "com/example/eventloom/eventloom/verification/CoverSearch" "steps" "J" (.long gst)) (A_o66 : Arv Z h0 o66 k_o66 .long (16 : Int32) [(.long (0 : Int64)), (.long (0 : Int64)), (.long (0 : Int64)), (.long (0 : Int64)), (.long (0 : Int64)), (.long (0 : Int64)), (.long (0 : Int64)), (.long (0 : Int64)), (.long (0 : Int64)), (.long (0 : Int64)), (.long (0 : Int64)), (.long (0 : Int64)), (.long (0 : Int64)), (.long (0 : Int64)), (.long (0 : Int64)), (.long (0 : Int64))] (.long (0 : Int64))) (E_o67 : Exa Z h0 o67 "com/example/eventloom/eventloom/net/IntList") (F_o67_values : Fld Z h0 o67 "com/example/eventloom/eventloom/net/IntList" "values" "[I" (.ref o68)) (F_o67_size : Fld Z h0 o67 "com/example/eventloom/eventloom/net/IntList" "size" "I" (.int (0 : Int32))) (A_o68 : Arv Z h0 o68 k_o68 .int (16 : Int32) [(.int (0 : Int32)), (.int (0 : Int32)), (.int (0 : Int32)), (.int (0 : Int32)), (.int (0 : Int32)), (.int (0 : Int32)), (.int (0 : Int32)), (.int (0 : Int32)), (.int (0 : Int32)), (.int (0 : Int32)), (.int (0 : Int32)), (.int (0 : Int32)), (.int (0 : Int32)), (.int (0 : Int32)), (.int (0 : Int32)), (.int (0 : Int32))] (.int (0 : Int32))) (E_o70 : Exa Z h0 o70 "com/example/eventloom/eventloom/verification/IntBlockList") (F_o70_blocks : Fld Z h0 o70 "com/example/eventloom/eventloom/verification/IntBlockList" "blocks" "[[I" (.ref o71)) (F_o70_size : Fld Z h0 o70 "com/example/eventloom/eventloom/verification/IntBlockList" "size" "I" (.int (0 : Int32))) (E_o71 : Exa Z h0 o71 "[[I") (A_o71 : Arv Z h0 o71 k_o71 (.array .int) (1 : Int32) [.null] .null) (E_o73 : Exa Z h0 o73 "com/example/eventloom/eventloom/net/IntList") (F_o73_values : Fld Z h0 o73 "com/example/eventloom/eventloom/net/IntList" "values" "[I" (.ref o74)) (F_o73_size : Fld Z h0 o73 "com/example/eventloom/eventloom/net/IntList" "size" "I" (.int (0 : Int32))) (A_o74 : Arv Z h0 o74 k_o74 .int (16 : Int32) [(.int (0 : Int32)), (.int (0 : Int32)), (.int (0 : Int32)), (.int (0 : Int32)), (.int (0 : Int32)), (.int (0 : Int32)), (.int (0 : Int32)), (.int (0 : Int32)), (.int (0 : Int32)), (.int (0 : Int32)), (.int (0 : Int32)), (.int (0 : Int32)), (.int (0 : Int32)), (.int (0 : Int32)), (.int (0 : Int32)), (.int (0 : Int32))] (.int (0 : Int32))) (A_o76 : Arv Z h0 o76 k_o76 .long (1 : Int32) [(.long (0 : Int64))] (.long (0 : Int64))) (A_o77 : Arv Z h0 o77 k_o77 .int (1 : Int32) [(.int (0 : Int32))] (.int (0 : Int32))) (A_o78 : Arv Z h0 o78 k_o78 .long (1 : Int32) [(.long (0 : Int64))] (.long (0 : Int64))) (g_o3 : n0 ≤ o3) (ne_o3_o4 : o3 ≠ o4) (ne_o3_o5 : o3 ≠ o5) (ne_o3_o6 : o3 ≠ o6) (ne_o3_o60 : o3 ≠ o60) (ne_o3_o61 : o3 ≠ o61) (ne_o3_o65 : o3 ≠ o65) (ne_o4_o65 : o4 ≠ o65) (ne_o5_o65 : o5 ≠ o65) (ne_o6_o65 : o6 ≠ o65) (ne_o60_o65 : o60 ≠ o65) (ne_o61_o65 : o61 ≠ o65) (g_o65 : n0 ≤ o65) (ne_o3_o66 : o3 ≠ o66) (ne_o4_o66 : o4 ≠ o66) (ne_o5_o66 : o5 ≠ o66) (ne_o6_o66 : o6 ≠ o66) (ne_o60_o66 : o60 ≠ o66) (ne_o61_o66 : o61 ≠ o66) (g_o66 : n0 ≤ o66) (ne_o3_o67 : o3 ≠ o67) (ne_o4_o67 : o4 ≠ o67) (ne_o5_o67 : o5 ≠ o67) (ne_o6_o67 : o6 ≠ o67) (ne_o60_o67 : o60 ≠ o67) (ne_o61_o67 : o61 ≠ o67) (g_o67 : n0 ≤ o67) (ne_o3_o68 : o3 ≠ o68) (ne_o4_o68 : o4 ≠ o68) (ne_o5_o68 : o5 ≠ o68) (ne_o6_o68 : o6 ≠ o68) (ne_o60_o68 : o60 ≠ o68) (ne_o61_o68 : o61 ≠ o68) (g_o68 : n0 ≤ o68) (ne_o3_o70 : o3 ≠ o70) (ne_o4_o70 : o4 ≠ o70) (ne_o5_o70 : o5 ≠ o70) (ne_o6_o70 : o6 ≠ o70) (ne_o60_o70 : o60 ≠ o70) (ne_o61_o70 : o61 ≠ o70) (g_o70 : n0 ≤ o70) (ne_o3_o71 : o3 ≠ o71) (ne_o4_o71 : o4 ≠ o71) (ne_o5_o71 : o5 ≠ o71) (ne_o6_o71 : o6 ≠ o71) (ne_o60_o71 : o60 ≠ o71) (ne_o61_o71 : o61 ≠ o71) (g_o71 : n0 ≤ o71) (ne_o3_o73 : o3 ≠ o73) (ne_o4_o73 : o4 ≠ o73) (ne_o5_o73 : o5 ≠ o73) (ne_o6_o73 : o6 ≠ o73) (ne_o60_o73 : o60 ≠ o73) (ne_o61_o73 : o61 ≠ o73) (g_o73 : n0 ≤ o73) (ne_o3_o74 : o3 ≠ o74) (ne_o4_o74 : o4 ≠ o74) (ne_o5_o74 : o5 ≠ o74) (ne_o6_o74 : o6 ≠ o74) (ne_o60_o74 : o60 ≠ o74) (ne_o61_o74 : o61 ≠ o74) (g_o74 : n0 ≤ o74) (ne_o3_o76 : o3 ≠ o76) (ne_o4_o76 : o4 ≠ o76) (ne_o5_o76 : o5 ≠ o76) (ne_o6_o76 : o6 ≠ o76) (ne_o60_o76 : o60 ≠ o76) (ne_o61_o76 : o61 ≠ o76) (g_o76 : n0 ≤ o76) (ne_o3_o77 : o3 ≠ o77) (ne_o4_o77 : o4 ≠ o77) (ne_o5_o77 : o5 ≠ o77) (ne_o6_o77 : o6 ≠ o77) (ne_o60_o77 : o60 ≠ o77) (ne_o61_o77 : o61 ≠ o77) (g_o77 : n0 ≤ o77) (ne_o3_o78 : o3 ≠ o78) (ne_o4_o78 : o4 ≠ o78) (ne_o5_o78 : o5 ≠ o78) (ne_o6_o78 : o6 ≠ o78) (ne_o60_o78 : o60 ≠ o78) (ne_o61_o78 : o61 ≠ o78) (g_o78 : n0 ≤ o78) (ne_o65_o66 : o65 ≠ o66) (ne_o65_o67 : o65 ≠ o67) (ne_o66_o67 : o66 ≠ o67) (ne_o65_o68 : o65 ≠ o68) (ne_o66_o68 : o66 ≠ o68) (ne_o67_o68 : o67 ≠ o68) (ne_o65_o70 : o65 ≠ o70) (ne_o66_o70 : o66 ≠ o70) (ne_o67_o70 : o67 ≠ o70) (ne_o68_o70 : o68 ≠ o70) (ne_o65_o71 : o65 ≠ o71) (ne_o66_o71 : o66 ≠ o71) (ne_o67_o71 : o67 ≠ o71) (ne_o68_o71 : o68 ≠ o71) (ne_o70_o71 : o70 ≠ o71) (O_o71 : OvrA Z k_o71 .int "[I") (ne_o65_o73 : o65 ≠ o73) (ne_o66_o73 : o66 ≠ o73) (ne_o67_o73 : o67 ≠ o73) (ne_o68_o73 : o68 ≠ o73) (ne_o70_o73 : o70 ≠ o73) (ne_o71_o73 : o71 ≠ o73) (ne_o65_o74 : o65 ≠ o74) (ne_o66_o74 : o66 ≠ o74) (ne_o67_o74 : o67 ≠ o74) (ne_o68_o74 : o68 ≠ o74) (ne_o70_o74 : o70 ≠ o74) (ne_o71_o74 : o71 ≠ o74) (ne_o73_o74 : o73 ≠ o74) (ne_o65_o76 : o65 ≠ o76) (ne_o66_o76 : o66 ≠ o76) (ne_o67_o76 : o67 ≠ o76) (ne_o68_o76 : o68 ≠ o76) (ne_o70_o76 : o70 ≠ o76) (ne_o71_o76 : o71 ≠ o76) (ne_o73_o76 : o73 ≠ o76) (ne_o74_o76 : o74 ≠ o76) (ne_o65_o77 : o65 ≠ o77) (ne_o66_o77 : o66 ≠ o77) (ne_o67_o77 : o67 ≠ o77) (ne_o68_o77 : o68 ≠ o77) (ne_o70_o77 : o70 ≠ o77) (ne_o71_o77 : o71 ≠ o77) (ne_o73_o77 : o73 ≠ o77) (ne_o74_o77 : o74 ≠ o77) (ne_o76_o77 : o76 ≠ o77) (ne_o65_o78 : o65 ≠ o78) (ne_o66_o78 : o66 ≠ o78) (ne_o67_o78 : o67 ≠ o78) (ne_o68_o78 : o68 ≠ o78) (ne_o70_o78 : o70 ≠ o78) (ne_o71_o78 : o71 ≠ o78) (ne_o73_o78 : o73 ≠ o78) (ne_o74_o78 : o74 ≠ o78) (ne_o76_o78 : o76 ≠ o78) (ne_o77_o78 : o77 ≠ o78) :
    Met l Z (⟨"com/example/eventloom/eventloom/verification/CoverSearch", "advance", "()I"⟩ : MethodName) prog_117_method_4_code 7 (some .int) { frames := 4, cells := 1, slots := 1024, locals := 56 } [] #[(.ref o65)] h0 n0 (fun v h => (v = some (.int (-1 : Int32)) ∧ ¬ (0 : Int32) < (XT.cmpL gst (0 : Int64)) ∧ Exa Z h o3 "com/example/eventloom/eventloom/net/MarkingStore" ∧ Fld Z h o3 "com/example/eventloom/eventloom/net/MarkingStore" "bytes" "[B" (.ref o4) ∧ Fld Z h o3 "com/example/eventloom/eventloom/net/MarkingStore" "starts" "Lcom/example/eventloom/eventloom/net/IntList;" (.ref o5) ∧ Fld Z h o3 "com/example/eventloom/eventloom/net/MarkingStore" "hashes" "Lcom/example/eventloom/eventloom/net/IntList;" (.ref o8) ∧ Fld Z h o3 "com/example/eventloom/eventloom/net/MarkingStore" "table" "[I" (.ref o11) ∧ Fld Z h o3 "com/example/eventloom/eventloom/net/MarkingStore" "encoded" "[B" (.ref o31) ∧ Fld Z h o3 "com/example/eventloom/eventloom/net/MarkingStore" "encodedLength" "I" (.int (2 : Int32)) ∧ Fld Z h o3 "com/example/eventloom/eventloom/net/MarkingStore" "encodedHash" "I" (.int (962 : Int32)) ∧ Fld Z h o3 "com/example/eventloom/eventloom/net/MarkingStore" "length" "I" (.int (2 : Int32)) ∧ Fld Z h o3 "com/example/eventloom/eventloom/net/MarkingStore" "position" "I" (.int (0 : Int32)) ∧ Exa Z h o65 "com/example/eventloom/eventloom/verification/CoverSearch" ∧ Fld Z h o65 "com/example/eventloom/eventloom/verification/CoverSearch" "tokens" "[J" (.ref o66) ∧ Fld Z h o65 "com/example/eventloom/eventloom/verification/CoverSearch" "nearestFewer" "Lcom/example/eventloom/eventloom/net/IntList;" (.ref o67) ∧ Fld Z h o65 "com/example/eventloom/eventloom/verification/CoverSearch" "nearestUnmarked" "Lcom/example/eventloom/eventloom/verification/IntBlockList;" (.ref o70) ∧ Fld Z h o65 "com/example/eventloom/eventloom/verification/CoverSearch" "firstNearestUnmarked" "Lcom/example/eventloom/eventloom/net/IntList;" (.ref o73) ∧ Fld Z h o65 "com/example/eventloom/eventloom/verification/CoverSearch" "markings" "Lcom/example/eventloom/eventloom/net/MarkingStore;" (.ref o3) ∧ Fld Z h o65 "com/example/eventloom/eventloom/verification/CoverSearch" "parents" "Lcom/example/eventloom/eventloom/net/IntList;" (.ref o60) ∧ Fld Z h o65 "com/example/eventloom/eventloom/verification/CoverSearch" "stepsPerMarking" "I" (.int x0) ∧ Fld Z h o65 "com/example/eventloom/eventloom/verification/CoverSearch" "searchedMarking" "[J" (.ref o76) ∧ Fld Z h o65 "com/example/eventloom/eventloom/verification/CoverSearch" "searchedPlaces" "[I" (.ref o77) ∧ Fld Z h o65 "com/example/eventloom/eventloom/verification/CoverSearch" "searchedTokens" "[J" (.ref o78) ∧ Fld Z h o65 "com/example/eventloom/eventloom/verification/CoverSearch" "parentPlaces" "[I" (.ref o79) ∧ Fld Z h o65 "com/example/eventloom/eventloom/verification/CoverSearch" "parentTokens" "[J" (.ref o80) ∧ Fld Z h o65 "com/example/eventloom/eventloom/verification/CoverSearch" "unmarkedRanks" "[I" (.ref o81) ∧ Fld Z h o65 "com/example/eventloom/eventloom/verification/CoverSearch" "searched" "I" (.int (0 : Int32)) ∧ Fld Z h o65 "com/example/eventloom/eventloom/verification/CoverSearch" "steps" "J" (.long gst) ∧ Arv Z h o66 k_o66 .long (16 : Int32) [(.long (0 : Int64)), (.long (0 : Int64)), (.long (0 : Int64)), (.long (0 : Int64)), (.long (0 : Int64)), (.long (0 : Int64)), (.long (0 : Int64)), (.long (0 : Int64)), (.long (0 : Int64)), (.long (0 : Int64)), (.long (0 : Int64)), (.long (0 : Int64)), (.long (0 : Int64)), (.long (0 : Int64)), (.long (0 : Int64)), (.long (0 : Int64))] (.long (0 : Int64)) ∧ Exa Z h o67 "com/example/eventloom/eventloom/net/IntList" ∧ Fld Z h o67 "com/example/eventloom/eventloom/net/IntList" "values" "[I" (.ref o68) ∧ Fld Z h o67 "com/example/eventloom/eventloom/net/IntList" "size" "I" (.int (0 : Int32)) ∧ Arv Z h o68 k_o68 .int (16 : Int32) [(.int (0 : Int32)), (.int (0 : Int32)), (.int (0 : Int32)), (.int (0 : Int32)), (.int (0 : Int32)), (.int (0 : Int32)), (.int (0 : Int32)), (.int (0 : Int32)), (.int (0 : Int32)), (.int (0 : Int32)), (.int (0 : Int32)), (.int (0 : Int32)), (.int (0 : Int32)), (.int (0 : Int32)), (.int (0 : Int32)), (.int (0 : Int32))] (.int (0 : Int32)) ∧ Exa Z h o70 "com/example/eventloom/eventloom/verification/IntBlockList" ∧ Fld Z h o70 "com/example/eventloom/eventloom/verification/IntBlockList" "blocks" "[[I" (.ref o71) ∧ Fld Z h o70 "com/example/eventloom/eventloom/verification/IntBlockList" "size" "I" (.int (0 : Int32)) ∧ Exa Z h o71 "[[I" ∧ Arv Z h o71 k_o71 (.array .int) (1 : Int32) [.null] .null ∧ Exa Z h o73 "com/example/eventloom/eventloom/net/IntList" ∧ Fld Z h o73 "com/example/eventloom/eventloom/net/IntList" "values" "[I" (.ref o74) ∧ Fld Z h o73 "com/example/eventloom/eventloom/net/IntList" "size" "I" (.int (0 : Int32)) ∧ Arv Z h o74 k_o74 .int (16 : Int32) [(.int (0 : Int32)), (.int (0 : Int32)), (.int (0 : Int32)), (.int (0 : Int32)), (.int (0 : Int32)), (.int (0 : Int32)), (.int (0 : Int32)), (.int (0 : Int32)), (.int (0 : Int32)), (.int (0 : Int32)), (.int (0 : Int32)), (.int (0 : Int32)), (.int (0 : Int32)), (.int (0 : Int32)), (.int (0 : Int32)), (.int (0 : Int32))] (.int (0 : Int32)) ∧ Arv Z h o76 k_o76 .long (1 : Int32) [(.long (0 : Int64))] (.long (0 : Int64)) ∧ Arv Z h o77 k_o77 .int (1 : Int32) [(.int (0 : Int32))] (.int (0 : Int32)) ∧ Arv Z h o78 k_o78 .long (1 : Int32) [(.long (0 : Int64))] (.long (0 : Int64)) ∧ Keep h0 h [o65, o66, o67, o70, o73, o3, o76, o77, o78, o68, o71, o74]) ∨ (∃ (o181 : Addr) (k_o181 : ClassId), v = some (.int (-1 : Int32)) ∧ (0 : Int32) < (XT.cmpL gst (0 : Int64)) ∧ Exa Z h o65 "com/example/eventloom/eventloom/verification/CoverSearch" ∧ Fld Z h o65 "com/example/eventloom/eventloom/verification/CoverSearch" "tokens" "[J" (.ref o66) ∧ Fld Z h o65 "com/example/eventloom/eventloom/verification/CoverSearch" "nearestFewer" "Lcom/example/eventloom/eventloom/net/IntList;" (.ref o67) ∧ Fld Z h o65 "com/example/eventloom/eventloom/verification/CoverSearch" "nearestUnmarked" "Lcom/example/eventloom/eventloom/verification/IntBlockList;" (.ref o70) ∧ Fld Z h o65 "com/example/eventloom/eventloom/verification/CoverSearch" "firstNearestUnmarked" "Lcom/example/eventloom/eventloom/net/IntList;" (.ref o73) ∧ Fld Z h o65 "com/example/eventloom/eventloom/verification/CoverSearch" "markings" "Lcom/example/eventloom/eventloom/net/MarkingStore;" (.ref o3) ∧ Fld Z h o65 "com/example/eventloom/eventloom/verification/CoverSearch" "parents" "Lcom/example/eventloom/eventloom/net/IntList;" (.ref o60) ∧ Fld Z h o65 "com/example/eventloom/eventloom/verification/CoverSearch" "stepsPerMarking" "I" (.int x0) ∧ Fld Z h o65 "com/example/eventloom/eventloom/verification/CoverSearch" "searchedMarking" "[J" (.ref o76) ∧ Fld Z h o65 "com/example/eventloom/eventloom/verification/CoverSearch" "searchedPlaces" "[I" (.ref o77) ∧ Fld Z h o65 "com/example/eventloom/eventloom/verification/CoverSearch" "searchedTokens" "[J" (.ref o78) ∧ Fld Z h o65 "com/example/eventloom/eventloom/verification/CoverSearch" "parentPlaces" "[I" (.ref o79) ∧ Fld Z h o65 "com/example/eventloom/eventloom/verification/CoverSearch" "parentTokens" "[J" (.ref o80) ∧ Fld Z h o65 "com/example/eventloom/eventloom/verification/CoverSearch" "unmarkedRanks" "[I" (.ref o81) ∧ Fld Z h o65 "com/example/eventloom/eventloom/verification/CoverSearch" "searched" "I" (.int (1 : Int32)) ∧ Fld Z h o65 "com/example/eventloom/eventloom/verification/CoverSearch" "steps" "J" (.long gst) ∧ Arv Z h o66 k_o66 .long (16 : Int32) [(.long (1 : Int64)), (.long (0 : Int64)), (.long (0 : Int64)), (.long (0 : Int64)), (.long (0 : Int64)), (.long (0 : Int64)), (.long (0 : Int64)), (.long (0 : Int64)), (.long (0 : Int64)), (.long (0 : Int64)), (.long (0 : Int64)), (.long (0 : Int64)), (.long (0 : Int64)), (.long (0 : Int64)), (.long (0 : Int64)), (.long (0 : Int64))] (.long (0 : Int64)) ∧ Arv Z h o76 k_o76 .long (1 : Int32) [(.long (0 : Int64))] (.long (0 : Int64)) ∧ Keep h0 h [o65, o66, o67, o70, o73, o3, o76, o77, o78, o68, o71, o74] ∧ Arv Z h o77 k_o77 .int (1 : Int32) [(.int (0 : Int32))] (.int (0 : Int32)) ∧ Arv Z h o78 k_o78 .long (1 : Int32) [(.long (1 : Int64))] (.long (0 : Int64)) ∧ Exa Z h o3 "com/example/eventloom/eventloom/net/MarkingStore" ∧ Fld Z h o3 "com/example/eventloom/eventloom/net/MarkingStore" "bytes" "[B" (.ref o4) ∧ Fld Z h o3 "com/example/eventloom/eventloom/net/MarkingStore" "starts" "Lcom/example/eventloom/eventloom/net/IntList;" (.ref o5) ∧ Fld Z h o3 "com/example/eventloom/eventloom/net/MarkingStore" "hashes" "Lcom/example/eventloom/eventloom/net/IntList;" (.ref o8) ∧ Fld Z h o3 "com/example/eventloom/eventloom/net/MarkingStore" "table" "[I" (.ref o11) ∧ Fld Z h o3 "com/example/eventloom/eventloom/net/MarkingStore" "encoded" "[B" (.ref o31) ∧ Fld Z h o3 "com/example/eventloom/eventloom/net/MarkingStore" "encodedLength" "I" (.int (2 : Int32)) ∧ Fld Z h o3 "com/example/eventloom/eventloom/net/MarkingStore" "encodedHash" "I" (.int (962 : Int32)) ∧ Fld Z h o3 "com/example/eventloom/eventloom/net/MarkingStore" "length" "I" (.int (2 : Int32)) ∧ Fld Z h o3 "com/example/eventloom/eventloom/net/MarkingStore" "position" "I" (.int (2 : Int32)) ∧ Exa Z h o67 "com/example/eventloom/eventloom/net/IntList" ∧ Fld Z h o67 "com/example/eventloom/eventloom/net/IntList" "values" "[I" (.ref o68) ∧ Fld Z h o67 "com/example/eventloom/eventloom/net/IntList" "size" "I" (.int (1 : Int32)) ∧ Arv Z h o68 k_o68 .int (16 : Int32) [(.int (-1 : Int32)), (.int (0 : Int32)), (.int (0 : Int32)), (.int (0 : Int32)), (.int (0 : Int32)), (.int (0 : Int32)), (.int (0 : Int32)), (.int (0 : Int32)), (.int (0 : Int32)), (.int (0 : Int32)), (.int (0 : Int32)), (.int (0 : Int32)), (.int (0 : Int32)), (.int (0 : Int32)), (.int (0 : Int32)), (.int (0 : Int32))] (.int (0 : Int32)) ∧ Exa Z h o73 "com/example/eventloom/eventloom/net/IntList" ∧ Fld Z h o73 "com/example/eventloom/eventloom/net/IntList" "values" "[I" (.ref o74) ∧ Fld Z h o73 "com/example/eventloom/eventloom/net/IntList" "size" "I" (.int (1 : Int32)) ∧ Arv Z h o74 k_o74 .int (16 : Int32) [(.int (0 : Int32)), (.int (0 : Int32)), (.int (0 : Int32)), (.int (0 : Int32)), (.int (0 : Int32)), (.int (0 : Int32)), (.int (0 : Int32)), (.int (0 : Int32)), (.int (0 : Int32)), (.int (0 : Int32)), (.int (0 : Int32)), (.int (0 : Int32)), (.int (0 : Int32)), (.int (0 : Int32)), (.int (0 : Int32)), (.int (0 : Int32))] (.int (0 : Int32)) ∧ Exa Z h o70 "com/example/eventloom/eventloom/verification/IntBlockList" ∧ Fld Z h o70 "com/example/eventloom/eventloom/verification/IntBlockList" "blocks" "[[I" (.ref o71) ∧ Fld Z h o70 "com/example/eventloom/eventloom/verification/IntBlockList" "size" "I" (.int (1 : Int32)) ∧ Exa Z h o71 "[[I" ∧ Arv Z h o71 k_o71 (.array .int) (1 : Int32) [(.ref o181)] .null ∧ Exa Z h o181 "[I" ∧ Arv Z h o181 k_o181 .int (1024 : Int32) [(.int (-1 : Int32)), (.int (0 : Int32)), (.int (0 : Int32)), (.int (0 : Int32)), (.int (0 : Int32)), (.int (0 : Int32))] (.int (0 : Int32)) ∧ o65 ≠ o181 ∧ o66 ≠ o181 ∧ o76 ≠ o181 ∧ o77 ≠ o181 ∧ o78 ≠ o181 ∧ o3 ≠ o181 ∧ o67 ≠ o181 ∧ o68 ≠ o181 ∧ h0.size ≤ o181 ∧ n0 ≤ o181 ∧ o73 ≠ o181 ∧ o74 ≠ o181 ∧ o70 ≠ o181 ∧ o71 ≠ o181)) := by
  refine Met.mk (tabs := tables_1) (a0 := a0) (ls0 := #[.val (.ref o65), .unset, .unset, .unset, .unset, .unset, .unset]) (plainFor_of_name pn_com_example_eventloom_eventloom_verification_CoverSearch) hw Z0 (fun m => by first | (simp [entryFrame, mkF, argsToLocals, Value.category]; done) | rfl) ?_
  intro p e s m below meth c T C X
  have Kp : Keep h0 h0 [o65, o66, o67, o70, o73, o3, o76, o77, o78, o68, o71, o74] := Keep.refl _ _
  refine s_aloadN 1 C X d16_0 rfl rfl ?_
  refine s_getfield 4 C X (host := "") d16_1 (Or.inl (mW 145 rfl)) Via.refl F_o65_searched (fun T X => ?_)
  refine s_aloadN 5 C X d16_4 rfl rfl ?_
  refine s_getfield 8 C X (host := "") d16_5 (Or.inl (mW 122 rfl)) Via.refl F_o65_markings (fun T X => ?_)
  refine s_callV 11 [] [(.int (0 : Int32))] 1 C X d16_8 (mW 147 rfl) (mW 68 rfl) (notFace_of_selects (args := #[]) (mvT C.2.1 (C.w (mW 70 rfl)))) (mW 70 rfl) (mW 69 rfl) (mW 5 rfl) (mW 71 rfl) E_o3 (rm_a57 l Z a0 hw o3 o5 _ n0 X.sz F_o3_starts E_o5 F_o5_size) (lenOf pd___I rfl) rfl rfl rfl (fun T v hh X q => ?_)
  obtain ⟨rfl, Kc⟩ := q
  have E_o3 := E_o3.keep Kc
  have F_o3_bytes := F_o3_bytes.keep Kc nin0
  have F_o3_starts := F_o3_starts.keep Kc nin0
  have F_o3_hashes := F_o3_hashes.keep Kc nin0
  have F_o3_table := F_o3_table.keep Kc nin0
  have F_o3_encoded := F_o3_encoded.keep Kc nin0
  have F_o3_encodedLength := F_o3_encodedLength.keep Kc nin0
  have F_o3_encodedHash := F_o3_encodedHash.keep Kc nin0
  have F_o3_length := F_o3_length.keep Kc nin0
  have F_o3_position := F_o3_position.keep Kc nin0
  have A_o4 := A_o4.keep Kc nin0
  have E_o5 := E_o5.keep Kc
  have F_o5_values := F_o5_values.keep Kc nin0
  have F_o5_size := F_o5_size.keep Kc nin0
  have A_o6 := A_o6.keep Kc nin0
  have E_o60 := E_o60.keep Kc
  have F_o60_values := F_o60_values.keep Kc nin0
  have A_o61 := A_o61.keep Kc nin0
  have E_o65 := E_o65.keep Kc
  have F_o65_tokens := F_o65_tokens.keep Kc nin0
  have F_o65_nearestFewer := F_o65_nearestFewer.keep Kc nin0
  have F_o65_nearestUnmarked := F_o65_nearestUnmarked.keep Kc nin0
  have F_o65_firstNearestUnmarked := F_o65_firstNearestUnmarked.keep Kc nin0
  have F_o65_markings := F_o65_markings.keep Kc nin0
  have F_o65_parents := F_o65_parents.keep Kc nin0
  have F_o65_stepsPerMarking := F_o65_stepsPerMarking.keep Kc nin0
  have F_o65_searchedMarking := F_o65_searchedMarking.keep Kc nin0
  have F_o65_searchedPlaces := F_o65_searchedPlaces.keep Kc nin0
  have F_o65_searchedTokens := F_o65_searchedTokens.keep Kc nin0
  have F_o65_parentPlaces := F_o65_parentPlaces.keep Kc nin0
  have F_o65_parentTokens := F_o65_parentTokens.keep Kc nin0
  have F_o65_unmarkedRanks := F_o65_unmarkedRanks.keep Kc nin0
  have F_o65_searched := F_o65_searched.keep Kc nin0
  have F_o65_steps := F_o65_steps.keep Kc nin0
  have A_o66 := A_o66.keep Kc nin0
  have E_o67 := E_o67.keep Kc
  have F_o67_values := F_o67_values.keep Kc nin0
  have F_o67_size := F_o67_size.keep Kc nin0
  have A_o68 := A_o68.keep Kc nin0
  have E_o70 := E_o70.keep Kc
  have F_o70_blocks := F_o70_blocks.keep Kc nin0
  have F_o70_size := F_o70_size.keep Kc nin0
  have E_o71 := E_o71.keep Kc
  have A_o71 := A_o71.keep Kc nin0
  have E_o73 := E_o73.keep Kc
  have F_o73_values := F_o73_values.keep Kc nin0
  have F_o73_size := F_o73_size.keep Kc nin0
  have A_o74 := A_o74.keep Kc nin0
  have A_o76 := A_o76.keep Kc nin0
  have A_o77 := A_o77.keep Kc nin0
  have A_o78 := A_o78.keep Kc nin0
  have Kp := Kp.trans Kc all0
  refine Run.cast (st' := [(.int (1 : Int32)), (.int (0 : Int32))]) rfl ?_
  refine s_icmp_ge 232 14 C X d16_11 (fun c => absurd (by decide : (0 : Int32) < (1 : Int32)) c) (fun _ => ?_)
  refine s_aloadN 15 C X d16_14 rfl rfl ?_
  refine s_getfield 18 C X (host := "") d16_15 (Or.inl (mW 148 rfl)) Via.refl F_o65_steps (fun T X => ?_)
  refine s_lconst 19 C X (z := (0 : Int64)) d16_18 rfl ?_
  refine s_lcmp 20 C X d16_19 ?_
  refine s_if_le 232 23 C X d16_20 (fun c20_146 => ?_) (fun c20_146 => ?_)
  · have t_c20_146 : ¬ ((0 : Int) < (gst).toInt) := fun q => c20_146 (cl_gt.mpr q)
    refine s_iconst 233 C X d16_232 kc_iconst_m1 ?_
    refine s_ireturn C X d16_233 rfl ?_
    exact (Or.inl ⟨rfl, c20_146, E_o3, F_o3_bytes, F_o3_starts, F_o3_hashes, F_o3_table, F_o3_encoded, F_o3_encodedLength, F_o3_encodedHash, F_o3_length, F_o3_position, E_o65, F_o65_tokens, F_o65_nearestFewer, F_o65_nearestUnmarked, F_o65_firstNearestUnmarked, F_o65_markings, F_o65_parents, F_o65_stepsPerMarking, F_o65_searchedMarking, F_o65_searchedPlaces, F_o65_searchedTokens, F_o65_parentPlaces, F_o65_parentTokens, F_o65_unmarkedRanks, F_o65_searched, F_o65_steps, A_o66, E_o67, F_o67_values, F_o67_size, A_o68, E_o70, F_o70_blocks, F_o70_size, E_o71, A_o71, E_o73, F_o73_values, F_o73_size, A_o74, A_o76, A_o77, A_o78, Kp⟩)
  have t_c20_146 : (0 : Int) < (gst).toInt := cl_gt.mp c20_146
  refine s_aloadN 24 C X d16_23 rfl rfl ?_
  refine s_getfield 27 C X (host := "") d16_24 (Or.inl (mW 122 rfl)) Via.refl F_o65_markings (fun T X => ?_)
  refine s_aloadN 28 C X d16_27 rfl rfl ?_
  refine s_getfield 31 C X (host := "") d16_28 (Or.inl (mW 145 rfl)) Via.refl F_o65_searched (fun T X => ?_)
  refine s_aloadN 32 C X d16_31 rfl rfl ?_
  refine s_getfield 35 C X (host := "") d16_32 (Or.inl (mW 130 rfl)) Via.refl F_o65_searchedPlaces (fun T X => ?_)
  refine s_aloadN 36 C X d16_35 rfl rfl ?_
  refine s_getfield 39 C X (host := "") d16_36 (Or.inl (mW 132 rfl)) Via.refl F_o65_searchedTokens (fun T X => ?_)
  refine s_callV 42 [(.int (0 : Int32)), (.ref o77), (.ref o78)] [] 0 C X d16_39 (mW 160 rfl) (mW 161 rfl) (notFace_of_selects (args := #[]) (mvT C.2.1 (C.w (mW 163 rfl)))) (mW 163 rfl) (mW 162 rfl) (mW 5 rfl) (mW 164 rfl) E_o3 (rm_a158 l Z a0 hw o3 o4 o5 k_o4 o6 k_o6 o8 o11 o31 o77 o78 k_o77 k_o78 _ n0 X.sz E_o3 F_o3_bytes F_o3_starts F_o3_hashes F_o3_table F_o3_encoded F_o3_encodedLength F_o3_encodedHash F_o3_length F_o3_position A_o4 E_o5 F_o5_values F_o5_size A_o6 A_o77 A_o78 g_o3 ne_o3_o4 ne_o3_o5 ne_o3_o6 ne_o3_o77 ne_o4_o77 ne_o5_o77 ne_o6_o77 g_o77 ne_o3_o78 ne_o4_o78 ne_o5_o78 ne_o6_o78 g_o78 ne_o77_o78) (lenOf pd__I_I_J_I rfl) rfl rfl rfl (fun T v hh X q => ?_)
  obtain ⟨rfl, A_o77, A_o78, Kc, E_o3, F_o3_bytes, F_o3_starts, F_o3_hashes, F_o3_table, F_o3_encoded, F_o3_encodedLength, F_o3_encodedHash, F_o3_length, F_o3_position⟩ := q
  have nn_o5 : o5 ∉ [o3, o77, o78] := (ninS (Ne.symm ne_o3_o5) (ninS ne_o5_o77 (ninS ne_o5_o78 nin0)))
  have nn_o65 : o65 ∉ [o3, o77, o78] := (ninS (Ne.symm ne_o3_o65) (ninS ne_o65_o77 (ninS ne_o65_o78 nin0)))
  have nn_o67 : o67 ∉ [o3, o77, o78] := (ninS (Ne.symm ne_o3_o67) (ninS ne_o67_o77 (ninS ne_o67_o78 nin0)))
  have nn_o70 : o70 ∉ [o3, o77, o78] := (ninS (Ne.symm ne_o3_o70) (ninS ne_o70_o77 (ninS ne_o70_o78 nin0)))
  have nn_o73 : o73 ∉ [o3, o77, o78] := (ninS (Ne.symm ne_o3_o73) (ninS ne_o73_o77 (ninS ne_o73_o78 nin0)))
  have A_o4 := A_o4.keep Kc (ninS (Ne.symm ne_o3_o4) (ninS ne_o4_o77 (ninS ne_o4_o78 nin0)))
  have E_o5 := E_o5.keep Kc
  have F_o5_values := F_o5_values.keep Kc nn_o5
  have F_o5_size := F_o5_size.keep Kc nn_o5
  have A_o6 := A_o6.keep Kc (ninS (Ne.symm ne_o3_o6) (ninS ne_o6_o77 (ninS ne_o6_o78 nin0)))
  have E_o60 := E_o60.keep Kc
  have F_o60_values := F_o60_values.keep Kc (ninS (Ne.symm ne_o3_o60) (ninS ne_o60_o77 (ninS ne_o60_o78 nin0)))
  have A_o61 := A_o61.keep Kc (ninS (Ne.symm ne_o3_o61) (ninS ne_o61_o77 (ninS ne_o61_o78 nin0)))
  have E_o65 := E_o65.keep Kc
  have F_o65_tokens := F_o65_tokens.keep Kc nn_o65
  have F_o65_nearestFewer := F_o65_nearestFewer.keep Kc nn_o65
  have F_o65_nearestUnmarked := F_o65_nearestUnmarked.keep Kc nn_o65
  have F_o65_firstNearestUnmarked := F_o65_firstNearestUnmarked.keep Kc nn_o65
  have F_o65_markings := F_o65_markings.keep Kc nn_o65
  have F_o65_parents := F_o65_parents.keep Kc nn_o65
  have F_o65_stepsPerMarking := F_o65_stepsPerMarking.keep Kc nn_o65
  have F_o65_searchedMarking := F_o65_searchedMarking.keep Kc nn_o65
  have F_o65_searchedPlaces := F_o65_searchedPlaces.keep Kc nn_o65
  have F_o65_searchedTokens := F_o65_searchedTokens.keep Kc nn_o65
  have F_o65_parentPlaces := F_o65_parentPlaces.keep Kc nn_o65
  have F_o65_parentTokens := F_o65_parentTokens.keep Kc nn_o65
  have F_o65_unmarkedRanks := F_o65_unmarkedRanks.keep Kc nn_o65
  have F_o65_searched := F_o65_searched.keep Kc nn_o65
  have F_o65_steps := F_o65_steps.keep Kc nn_o65
  have A_o66 := A_o66.keep Kc (ninS (Ne.symm ne_o3_o66) (ninS ne_o66_o77 (ninS ne_o66_o78 nin0)))
  have E_o67 := E_o67.keep Kc
  have F_o67_values := F_o67_values.keep Kc nn_o67
  have F_o67_size := F_o67_size.keep Kc nn_o67
  have A_o68 := A_o68.keep Kc (ninS (Ne.symm ne_o3_o68) (ninS ne_o68_o77 (ninS ne_o68_o78 nin0)))
  have E_o70 := E_o70.keep Kc
  have F_o70_blocks := F_o70_blocks.keep Kc nn_o70
  have F_o70_size := F_o70_size.keep Kc nn_o70
  have E_o71 := E_o71.keep Kc
  have A_o71 := A_o71.keep Kc (ninS (Ne.symm ne_o3_o71) (ninS ne_o71_o77 (ninS ne_o71_o78 nin0)))
  have E_o73 := E_o73.keep Kc
  have F_o73_values := F_o73_values.keep Kc nn_o73
  have F_o73_size := F_o73_size.keep Kc nn_o73
  have A_o74 := A_o74.keep Kc (ninS (Ne.symm ne_o3_o74) (ninS ne_o74_o77 (ninS ne_o74_o78 nin0)))
  have A_o76 := A_o76.keep Kc (ninS (Ne.symm ne_o3_o76) (ninS ne_o76_o77 (ninS ne_o76_o78 nin0)))
  have Kp := Kp.trans Kc (allS (Or.inl (by simp)) (allS (Or.inl (by simp)) (allS (Or.inl (by simp)) all0)))
  refine Run.cast (st' := [(.int (1 : Int32))]) rfl ?_
  refine s_istoreN 43 C X (l' := #[.val (.ref o65), .val (.int (1 : Int32)), .unset, .unset, .unset, .unset, .unset]) d16_42 rfl ?_
  refine s_lconst 44 C X (z := (0 : Int64)) d16_43 rfl ?_
  refine s_lstoreN 45 C X (l' := #[.val (.ref o65), .val (.int (1 : Int32)), .val (.long (0 : Int64)), .second, .unset, .unset, .unset]) d16_44 rfl ?_
  refine s_iconst 46 C X d16_45 kc_iconst_0 ?_
  refine s_istore 48 C X (l' := #[.val (.ref o65), .val (.int (1 : Int32)), .val (.long (0 : Int64)), .second, .val (.int (0 : Int32)), .unset, .unset]) d16_46 rfl ?_
  refine s_iload 50 C X d16_48 rfl ?_
  refine s_iloadN 51 C X d16_50 rfl ?_
  refine s_icmp_ge 89 54 C X d16_51 (fun c => absurd (by decide : (0 : Int32) < (1 : Int32)) c) (fun _ => ?_)
  refine s_aloadN 55 C X d16_54 rfl rfl ?_
  refine s_getfield 58 C X (host := "") d16_55 (Or.inl (mW 128 rfl)) Via.refl F_o65_searchedMarking (fun T X => ?_)
  refine s_aloadN 59 C X d16_58 rfl rfl ?_
  refine s_getfield 62 C X (host := "") d16_59 (Or.inl (mW 130 rfl)) Via.refl F_o65_searchedPlaces (fun T X => ?_)
  refine s_iload 64 C X d16_62 rfl ?_
  refine s_iaload 65 C X d16_64 A_o77 ⟨by decide, by decide⟩ (v := (.int (0 : Int32))) rfl ?_
  refine s_aloadN 66 C X d16_65 rfl rfl ?_
  refine s_getfield 69 C X (host := "") d16_66 (Or.inl (mW 132 rfl)) Via.refl F_o65_searchedTokens (fun T X => ?_)
  refine s_iload 71 C X d16_69 rfl ?_
  refine s_laload 72 C X d16_71 A_o78 ⟨by decide, by decide⟩ (v := (.long (1 : Int64))) rfl ?_
  refine s_lastore 73 0 C X d16_72 A_o76 g_o76 ⟨by decide, by decide⟩ rfl (Nat.le_of_ble_eq_true rfl) (fun T hh X W A_o76 => ?_)
  have A_o76 : Arv Z _ o76 k_o76 .long (1 : Int32) [(.long (1 : Int64))] (.long (0 : Int64)) := A_o76
  have A_o4 := A_o4.other W ne_o4_o76
  have E_o5 := E_o5.wr W
  have F_o5_values := F_o5_values.other W (Or.inl ne_o5_o76)
  have F_o5_size := F_o5_size.other W (Or.inl ne_o5_o76)
  have A_o6 := A_o6.other W ne_o6_o76
  have E_o60 := E_o60.wr W
  have F_o60_values := F_o60_values.other W (Or.inl ne_o60_o76)
  have A_o61 := A_o61.other W ne_o61_o76
  have E_o65 := E_o65.wr W
  have F_o65_tokens := F_o65_tokens.other W (Or.inl ne_o65_o76)
  have F_o65_nearestFewer := F_o65_nearestFewer.other W (Or.inl ne_o65_o76)
  have F_o65_nearestUnmarked := F_o65_nearestUnmarked.other W (Or.inl ne_o65_o76)
  have F_o65_firstNearestUnmarked := F_o65_firstNearestUnmarked.other W (Or.inl ne_o65_o76)
  have F_o65_markings := F_o65_markings.other W (Or.inl ne_o65_o76)
  have F_o65_parents := F_o65_parents.other W (Or.inl ne_o65_o76)
  have F_o65_stepsPerMarking := F_o65_stepsPerMarking.other W (Or.inl ne_o65_o76)
  have F_o65_searchedMarking := F_o65_searchedMarking.other W (Or.inl ne_o65_o76)
  have F_o65_searchedPlaces := F_o65_searchedPlaces.other W (Or.inl ne_o65_o76)
  have F_o65_searchedTokens := F_o65_searchedTokens.other W (Or.inl ne_o65_o76)
  have F_o65_parentPlaces := F_o65_parentPlaces.other W (Or.inl ne_o65_o76)
  have F_o65_parentTokens := F_o65_parentTokens.other W (Or.inl ne_o65_o76)
  have F_o65_unmarkedRanks := F_o65_unmarkedRanks.other W (Or.inl ne_o65_o76)
  have F_o65_searched := F_o65_searched.other W (Or.inl ne_o65_o76)
  have F_o65_steps := F_o65_steps.other W (Or.inl ne_o65_o76)
  have A_o66 := A_o66.other W ne_o66_o76
  have E_o67 := E_o67.wr W
  have F_o67_values := F_o67_values.other W (Or.inl ne_o67_o76)
  have F_o67_size := F_o67_size.other W (Or.inl ne_o67_o76)
  have A_o68 := A_o68.other W ne_o68_o76
  have E_o70 := E_o70.wr W
  have F_o70_blocks := F_o70_blocks.other W (Or.inl ne_o70_o76)
  have F_o70_size := F_o70_size.other W (Or.inl ne_o70_o76)
  have E_o71 := E_o71.wr W
  have A_o71 := A_o71.other W ne_o71_o76
  have E_o73 := E_o73.wr W
  have F_o73_values := F_o73_values.other W (Or.inl ne_o73_o76)
  have F_o73_size := F_o73_size.other W (Or.inl ne_o73_o76)
  have A_o74 := A_o74.other W ne_o74_o76
  have Kp := Kp.wr W (Or.inl (by simp))
  have A_o77 := A_o77.other W (Ne.symm ne_o76_o77)
  have A_o78 := A_o78.other W (Ne.symm ne_o76_o78)
  have E_o3 := E_o3.wr W
  have F_o3_bytes := F_o3_bytes.other W (Or.inl ne_o3_o76)
  have F_o3_starts := F_o3_starts.other W (Or.inl ne_o3_o76)
  have F_o3_hashes := F_o3_hashes.other W (Or.inl ne_o3_o76)
  have F_o3_table := F_o3_table.other W (Or.inl ne_o3_o76)
  have F_o3_encoded := F_o3_encoded.other W (Or.inl ne_o3_o76)
  have F_o3_encodedLength := F_o3_encodedLength.other W (Or.inl ne_o3_o76)
  have F_o3_encodedHash := F_o3_encodedHash.other W (Or.inl ne_o3_o76)
  have F_o3_length := F_o3_length.other W (Or.inl ne_o3_o76)
  have F_o3_position := F_o3_position.other W (Or.inl ne_o3_o76)
  refine s_lloadN 74 C X d16_73 rfl ?_
  refine s_aloadN 75 C X d16_74 rfl rfl ?_
  refine s_getfield 78 C X (host := "") d16_75 (Or.inl (mW 132 rfl)) Via.refl F_o65_searchedTokens (fun T X => ?_)
  refine s_iload 80 C X d16_78 rfl ?_
  refine s_laload 81 C X d16_80 A_o78 ⟨by decide, by decide⟩ (v := (.long (1 : Int64))) rfl ?_
  refine s_ladd 82 C X d16_81 ?_
  refine Run.cast (st' := [(.long (1 : Int64))]) (by rw [kf_40]) ?_
  refine s_lstoreN 83 C X (l' := #[.val (.ref o65), .val (.int (1 : Int32)), .val (.long (1 : Int64)), .second, .val (.int (0 : Int32)), .unset, .unset]) d16_82 rfl ?_
  refine s_iinc 86 C X (l' := #[.val (.ref o65), .val (.int (1 : Int32)), .val (.long (1 : Int64)), .second, .val (.int (1 : Int32)), .unset, .unset]) d16_83 kc_iconst_1 rfl rfl ?_
  refine s_goto 48 C X d16_86 ?_
  refine s_iload 50 C X d16_48 rfl ?_
  refine s_iloadN 51 C X d16_50 rfl ?_
  refine s_icmp_ge 89 54 C X d16_51 (fun _ => ?_) (fun c => absurd c (by decide))
  refine s_aloadN 90 C X d16_89 rfl rfl ?_
  refine s_getfield 93 C X (host := "") d16_90 (Or.inl (mW 124 rfl)) Via.refl F_o65_parents (fun T X => ?_)
  refine s_aloadN 94 C X d16_93 rfl rfl ?_
  refine s_getfield 97 C X (host := "") d16_94 (Or.inl (mW 145 rfl)) Via.refl F_o65_searched (fun T X => ?_)
  refine s_callV 100 [(.int (0 : Int32))] [] 0 C X d16_97 (mW 180 rfl) (mW 166 rfl) (notFace_of_selects (args := #[]) (mvT C.2.1 (C.w (mW 168 rfl)))) (mW 168 rfl) (mW 167 rfl) (mW 17 rfl) (mW 169 rfl) E_o60 (rm_a161 l Z a0 hw o60 o61 k_o61 _ n0 X.sz F_o60_values A_o61) (lenOf pd__I_I rfl) rfl rfl rfl (fun T v hh X q => ?_)
  obtain ⟨rfl, Kc⟩ := q
  have A_o4 := A_o4.keep Kc nin0
  have E_o5 := E_o5.keep Kc
  have F_o5_values := F_o5_values.keep Kc nin0
  have F_o5_size := F_o5_size.keep Kc nin0
  have A_o6 := A_o6.keep Kc nin0
  have E_o60 := E_o60.keep Kc
  have F_o60_values := F_o60_values.keep Kc nin0
  have A_o61 := A_o61.keep Kc nin0
  have E_o65 := E_o65.keep Kc
  have F_o65_tokens := F_o65_tokens.keep Kc nin0
  have F_o65_nearestFewer := F_o65_nearestFewer.keep Kc nin0
  have F_o65_nearestUnmarked := F_o65_nearestUnmarked.keep Kc nin0
  have F_o65_firstNearestUnmarked := F_o65_firstNearestUnmarked.keep Kc nin0
  have F_o65_markings := F_o65_markings.keep Kc nin0
  have F_o65_parents := F_o65_parents.keep Kc nin0
  have F_o65_stepsPerMarking := F_o65_stepsPerMarking.keep Kc nin0
  have F_o65_searchedMarking := F_o65_searchedMarking.keep Kc nin0
  have F_o65_searchedPlaces := F_o65_searchedPlaces.keep Kc nin0
  have F_o65_searchedTokens := F_o65_searchedTokens.keep Kc nin0
  have F_o65_parentPlaces := F_o65_parentPlaces.keep Kc nin0
  have F_o65_parentTokens := F_o65_parentTokens.keep Kc nin0
  have F_o65_unmarkedRanks := F_o65_unmarkedRanks.keep Kc nin0
  have F_o65_searched := F_o65_searched.keep Kc nin0
  have F_o65_steps := F_o65_steps.keep Kc nin0
  have A_o66 := A_o66.keep Kc nin0
  have E_o67 := E_o67.keep Kc
  have F_o67_values := F_o67_values.keep Kc nin0
  have F_o67_size := F_o67_size.keep Kc nin0
  have A_o68 := A_o68.keep Kc nin0
  have E_o70 := E_o70.keep Kc
  have F_o70_blocks := F_o70_blocks.keep Kc nin0
  have F_o70_size := F_o70_size.keep Kc nin0
  have E_o71 := E_o71.keep Kc
  have A_o71 := A_o71.keep Kc nin0
  have E_o73 := E_o73.keep Kc
  have F_o73_values := F_o73_values.keep Kc nin0
  have F_o73_size := F_o73_size.keep Kc nin0
  have A_o74 := A_o74.keep Kc nin0
  have A_o76 := A_o76.keep Kc nin0
  have Kp := Kp.trans Kc all0
  have A_o77 := A_o77.keep Kc nin0
  have A_o78 := A_o78.keep Kc nin0
  have E_o3 := E_o3.keep Kc
  have F_o3_bytes := F_o3_bytes.keep Kc nin0
  have F_o3_starts := F_o3_starts.keep Kc nin0
  have F_o3_hashes := F_o3_hashes.keep Kc nin0
  have F_o3_table := F_o3_table.keep Kc nin0
  have F_o3_encoded := F_o3_encoded.keep Kc nin0
  have F_o3_encodedLength := F_o3_encodedLength.keep Kc nin0
  have F_o3_encodedHash := F_o3_encodedHash.keep Kc nin0
  have F_o3_length := F_o3_length.keep Kc nin0
  have F_o3_position := F_o3_position.keep Kc nin0
  refine Run.cast (st' := [(.int (-1 : Int32))]) rfl ?_
  refine s_istore 102 C X (l' := #[.val (.ref o65), .val (.int (1 : Int32)), .val (.long (1 : Int64)), .second, .val (.int (-1 : Int32)), .unset, .unset]) d16_100 rfl ?_
  refine s_aloadN 103 C X d16_102 rfl rfl ?_
  refine s_aloadN 104 C X d16_103 rfl rfl ?_
  refine s_getfield 107 C X (host := "") d16_104 (Or.inl (mW 128 rfl)) Via.refl F_o65_searchedMarking (fun T X => ?_)
  refine s_lloadN 108 C X d16_107 rfl ?_
  refine s_iload 110 C X d16_108 rfl ?_
  refine s_callPI 113 [(.ref o76), (.long (1 : Int64)), (.int (-1 : Int32))] [] 0 C X d16_110 (mW 181 rfl) (mW 182 rfl) (mW 95 rfl) (mW 183 rfl) (mW 96 rfl) (mW 184 rfl) E_o65 (rm_a163 l Z a0 hw o65 o76 _ n0 X.sz ) (lenOf pd___JJI_I rfl) rfl rfl rfl (fun T v hh X q => ?_)
  obtain ⟨rfl, Kc⟩ := q
  have A_o4 := A_o4.keep Kc nin0
  have E_o5 := E_o5.keep Kc
  have F_o5_values := F_o5_values.keep Kc nin0
  have F_o5_size := F_o5_size.keep Kc nin0
  have A_o6 := A_o6.keep Kc nin0
  have E_o60 := E_o60.keep Kc
  have F_o60_values := F_o60_values.keep Kc nin0
  have A_o61 := A_o61.keep Kc nin0
  have E_o65 := E_o65.keep Kc
  have F_o65_tokens := F_o65_tokens.keep Kc nin0
  have F_o65_nearestFewer := F_o65_nearestFewer.keep Kc nin0
  have F_o65_nearestUnmarked := F_o65_nearestUnmarked.keep Kc nin0
  have F_o65_firstNearestUnmarked := F_o65_firstNearestUnmarked.keep Kc nin0
  have F_o65_markings := F_o65_markings.keep Kc nin0
  have F_o65_parents := F_o65_parents.keep Kc nin0
  have F_o65_stepsPerMarking := F_o65_stepsPerMarking.keep Kc nin0
  have F_o65_searchedMarking := F_o65_searchedMarking.keep Kc nin0
  have F_o65_searchedPlaces := F_o65_searchedPlaces.keep Kc nin0
  have F_o65_searchedTokens := F_o65_searchedTokens.keep Kc nin0
  have F_o65_parentPlaces := F_o65_parentPlaces.keep Kc nin0
  have F_o65_parentTokens := F_o65_parentTokens.keep Kc nin0
  have F_o65_unmarkedRanks := F_o65_unmarkedRanks.keep Kc nin0
  have F_o65_searched := F_o65_searched.keep Kc nin0
  have F_o65_steps := F_o65_steps.keep Kc nin0
  have A_o66 := A_o66.keep Kc nin0
  have E_o67 := E_o67.keep Kc
  have F_o67_values := F_o67_values.keep Kc nin0
  have F_o67_size := F_o67_size.keep Kc nin0
  have A_o68 := A_o68.keep Kc nin0
  have E_o70 := E_o70.keep Kc
  have F_o70_blocks := F_o70_blocks.keep Kc nin0
  have F_o70_size := F_o70_size.keep Kc nin0
  have E_o71 := E_o71.keep Kc
  have A_o71 := A_o71.keep Kc nin0
  have E_o73 := E_o73.keep Kc
  have F_o73_values := F_o73_values.keep Kc nin0
  have F_o73_size := F_o73_size.keep Kc nin0
  have A_o74 := A_o74.keep Kc nin0
  have A_o76 := A_o76.keep Kc nin0
  have Kp := Kp.trans Kc all0
  have A_o77 := A_o77.keep Kc nin0
  have A_o78 := A_o78.keep Kc nin0
  have E_o3 := E_o3.keep Kc
  have F_o3_bytes := F_o3_bytes.keep Kc nin0
  have F_o3_starts := F_o3_starts.keep Kc nin0
  have F_o3_hashes := F_o3_hashes.keep Kc nin0
  have F_o3_table := F_o3_table.keep Kc nin0
  have F_o3_encoded := F_o3_encoded.keep Kc nin0
  have F_o3_encodedLength := F_o3_encodedLength.keep Kc nin0
  have F_o3_encodedHash := F_o3_encodedHash.keep Kc nin0
  have F_o3_length := F_o3_length.keep Kc nin0
  have F_o3_position := F_o3_position.keep Kc nin0
  refine Run.cast (st' := [(.int (-1 : Int32))]) rfl ?_
  refine s_istore 115 C X (l' := #[.val (.ref o65), .val (.int (1 : Int32)), .val (.long (1 : Int64)), .second, .val (.int (-1 : Int32)), .val (.int (-1 : Int32)), .unset]) d16_113 rfl ?_
  refine s_iconst 116 C X d16_115 kc_iconst_0 ?_
  refine s_istore 118 C X (l' := #[.val (.ref o65), .val (.int (1 : Int32)), .val (.long (1 : Int64)), .second, .val (.int (-1 : Int32)), .val (.int (-1 : Int32)), .val (.int (0 : Int32))]) d16_116 rfl ?_
  refine s_iload 120 C X d16_118 rfl ?_
  refine s_iloadN 121 C X d16_120 rfl ?_
  refine s_icmp_ge 143 124 C X d16_121 (fun c => absurd (by decide : (0 : Int32) < (1 : Int32)) c) (fun _ => ?_)
  refine s_aloadN 125 C X d16_124 rfl rfl ?_
  refine s_getfield 128 C X (host := "") d16_125 (Or.inl (mW 128 rfl)) Via.refl F_o65_searchedMarking (fun T X => ?_)
  refine s_aloadN 129 C X d16_128 rfl rfl ?_
  refine s_getfield 132 C X (host := "") d16_129 (Or.inl (mW 130 rfl)) Via.refl F_o65_searchedPlaces (fun T X => ?_)
  refine s_iload 134 C X d16_132 rfl ?_
  refine s_iaload 135 C X d16_134 A_o77 ⟨by decide, by decide⟩ (v := (.int (0 : Int32))) rfl ?_
  refine s_lconst 136 C X (z := (0 : Int64)) d16_135 rfl ?_
  refine s_lastore 137 0 C X d16_136 A_o76 g_o76 ⟨by decide, by decide⟩ rfl (Nat.le_of_ble_eq_true rfl) (fun T hh X W A_o76 => ?_)
  have A_o76 : Arv Z _ o76 k_o76 .long (1 : Int32) [(.long (0 : Int64))] (.long (0 : Int64)) := A_o76
  have A_o4 := A_o4.other W ne_o4_o76
  have E_o5 := E_o5.wr W
  have F_o5_values := F_o5_values.other W (Or.inl ne_o5_o76)
  have F_o5_size := F_o5_size.other W (Or.inl ne_o5_o76)
  have A_o6 := A_o6.other W ne_o6_o76
  have E_o60 := E_o60.wr W
  have F_o60_values := F_o60_values.other W (Or.inl ne_o60_o76)
  have A_o61 := A_o61.other W ne_o61_o76
  have E_o65 := E_o65.wr W
  have F_o65_tokens := F_o65_tokens.other W (Or.inl ne_o65_o76)
  have F_o65_nearestFewer := F_o65_nearestFewer.other W (Or.inl ne_o65_o76)
  have F_o65_nearestUnmarked := F_o65_nearestUnmarked.other W (Or.inl ne_o65_o76)
  have F_o65_firstNearestUnmarked := F_o65_firstNearestUnmarked.other W (Or.inl ne_o65_o76)
  have F_o65_markings := F_o65_markings.other W (Or.inl ne_o65_o76)
  have F_o65_parents := F_o65_parents.other W (Or.inl ne_o65_o76)
  have F_o65_stepsPerMarking := F_o65_stepsPerMarking.other W (Or.inl ne_o65_o76)
  have F_o65_searchedMarking := F_o65_searchedMarking.other W (Or.inl ne_o65_o76)
  have F_o65_searchedPlaces := F_o65_searchedPlaces.other W (Or.inl ne_o65_o76)
  have F_o65_searchedTokens := F_o65_searchedTokens.other W (Or.inl ne_o65_o76)
  have F_o65_parentPlaces := F_o65_parentPlaces.other W (Or.inl ne_o65_o76)
  have F_o65_parentTokens := F_o65_parentTokens.other W (Or.inl ne_o65_o76)
  have F_o65_unmarkedRanks := F_o65_unmarkedRanks.other W (Or.inl ne_o65_o76)
  have F_o65_searched := F_o65_searched.other W (Or.inl ne_o65_o76)
  have F_o65_steps := F_o65_steps.other W (Or.inl ne_o65_o76)
  have A_o66 := A_o66.other W ne_o66_o76
  have E_o67 := E_o67.wr W
  have F_o67_values := F_o67_values.other W (Or.inl ne_o67_o76)
  have F_o67_size := F_o67_size.other W (Or.inl ne_o67_o76)
  have A_o68 := A_o68.other W ne_o68_o76
  have E_o70 := E_o70.wr W
  have F_o70_blocks := F_o70_blocks.other W (Or.inl ne_o70_o76)
  have F_o70_size := F_o70_size.other W (Or.inl ne_o70_o76)
  have E_o71 := E_o71.wr W
  have A_o71 := A_o71.other W ne_o71_o76
  have E_o73 := E_o73.wr W
  have F_o73_values := F_o73_values.other W (Or.inl ne_o73_o76)
  have F_o73_size := F_o73_size.other W (Or.inl ne_o73_o76)
  have A_o74 := A_o74.other W ne_o74_o76
  have Kp := Kp.wr W (Or.inl (by simp))
  have A_o77 := A_o77.other W (Ne.symm ne_o76_o77)
  have A_o78 := A_o78.other W (Ne.symm ne_o76_o78)
  have E_o3 := E_o3.wr W
  have F_o3_bytes := F_o3_bytes.other W (Or.inl ne_o3_o76)
  have F_o3_starts := F_o3_starts.other W (Or.inl ne_o3_o76)
  have F_o3_hashes := F_o3_hashes.other W (Or.inl ne_o3_o76)
  have F_o3_table := F_o3_table.other W (Or.inl ne_o3_o76)
  have F_o3_encoded := F_o3_encoded.other W (Or.inl ne_o3_o76)
  have F_o3_encodedLength := F_o3_encodedLength.other W (Or.inl ne_o3_o76)
  have F_o3_encodedHash := F_o3_encodedHash.other W (Or.inl ne_o3_o76)
  have F_o3_length := F_o3_length.other W (Or.inl ne_o3_o76)
  have F_o3_position := F_o3_position.other W (Or.inl ne_o3_o76)
  refine s_iinc 140 C X (l' := #[.val (.ref o65), .val (.int (1 : Int32)), .val (.long (1 : Int64)), .second, .val (.int (-1 : Int32)), .val (.int (-1 : Int32)), .val (.int (1 : Int32))]) d16_137 kc_iconst_1 rfl rfl ?_
  refine s_goto 118 C X d16_140 ?_
  refine s_iload 120 C X d16_118 rfl ?_
  refine s_iloadN 121 C X d16_120 rfl ?_
  refine s_icmp_ge 143 124 C X d16_121 (fun _ => ?_) (fun c => absurd c (by decide))
  refine s_iload 145 C X d16_143 rfl ?_
  refine s_bipush 147 C X d16_145 kc_bipush_m2 ?_
  refine s_icmp_ne 155 150 C X d16_147 (fun _ => ?_) (fun c => absurd c (by decide))
  refine s_aloadN 156 C X d16_155 rfl rfl ?_
  refine s_getfield 159 C X (host := "") d16_156 (Or.inl (mW 145 rfl)) Via.refl F_o65_searched (fun T X => ?_)
  refine s_aloadN 160 C X d16_159 rfl rfl ?_
  refine s_getfield 163 C X (host := "") d16_160 (Or.inl (mW 101 rfl)) Via.refl F_o65_tokens (fun T X => ?_)
  refine s_arraylength 164 C X d16_163 A_o66 ?_
  refine s_icmp_ne 193 167 C X d16_164 (fun _ => ?_) (fun c => absurd c (by decide))
  refine s_aloadN 194 C X d16_193 rfl rfl ?_
  refine s_getfield 197 C X (host := "") d16_194 (Or.inl (mW 101 rfl)) Via.refl F_o65_tokens (fun T X => ?_)
  refine s_aloadN 198 C X d16_197 rfl rfl ?_
  refine s_getfield 201 C X (host := "") d16_198 (Or.inl (mW 145 rfl)) Via.refl F_o65_searched (fun T X => ?_)
  refine s_lloadN 202 C X d16_201 rfl ?_
  refine s_lastore 203 0 C X d16_202 A_o66 g_o66 ⟨by decide, by decide⟩ rfl (Nat.le_of_ble_eq_true rfl) (fun T hh X W A_o66 => ?_)
  have A_o66 : Arv Z _ o66 k_o66 .long (16 : Int32) [(.long (1 : Int64)), (.long (0 : Int64)), (.long (0 : Int64)), (.long (0 : Int64)), (.long (0 : Int64)), (.long (0 : Int64)), (.long (0 : Int64)), (.long (0 : Int64)), (.long (0 : Int64)), (.long (0 : Int64)), (.long (0 : Int64)), (.long (0 : Int64)), (.long (0 : Int64)), (.long (0 : Int64)), (.long (0 : Int64)), (.long (0 : Int64))] (.long (0 : Int64)) := A_o66
  have A_o4 := A_o4.other W ne_o4_o66
  have E_o5 := E_o5.wr W
  have F_o5_values := F_o5_values.other W (Or.inl ne_o5_o66)
  have F_o5_size := F_o5_size.other W (Or.inl ne_o5_o66)
  have A_o6 := A_o6.other W ne_o6_o66
  have E_o60 := E_o60.wr W
  have F_o60_values := F_o60_values.other W (Or.inl ne_o60_o66)
  have A_o61 := A_o61.other W ne_o61_o66
  have E_o65 := E_o65.wr W
  have F_o65_tokens := F_o65_tokens.other W (Or.inl ne_o65_o66)
  have F_o65_nearestFewer := F_o65_nearestFewer.other W (Or.inl ne_o65_o66)
  have F_o65_nearestUnmarked := F_o65_nearestUnmarked.other W (Or.inl ne_o65_o66)
  have F_o65_firstNearestUnmarked := F_o65_firstNearestUnmarked.other W (Or.inl ne_o65_o66)
  have F_o65_markings := F_o65_markings.other W (Or.inl ne_o65_o66)
  have F_o65_parents := F_o65_parents.other W (Or.inl ne_o65_o66)
  have F_o65_stepsPerMarking := F_o65_stepsPerMarking.other W (Or.inl ne_o65_o66)
  have F_o65_searchedMarking := F_o65_searchedMarking.other W (Or.inl ne_o65_o66)
  have F_o65_searchedPlaces := F_o65_searchedPlaces.other W (Or.inl ne_o65_o66)
  have F_o65_searchedTokens := F_o65_searchedTokens.other W (Or.inl ne_o65_o66)
  have F_o65_parentPlaces := F_o65_parentPlaces.other W (Or.inl ne_o65_o66)
  have F_o65_parentTokens := F_o65_parentTokens.other W (Or.inl ne_o65_o66)
  have F_o65_unmarkedRanks := F_o65_unmarkedRanks.other W (Or.inl ne_o65_o66)
  have F_o65_searched := F_o65_searched.other W (Or.inl ne_o65_o66)
  have F_o65_steps := F_o65_steps.other W (Or.inl ne_o65_o66)
  have E_o67 := E_o67.wr W
  have F_o67_values := F_o67_values.other W (Or.inl (Ne.symm ne_o66_o67))
  have F_o67_size := F_o67_size.other W (Or.inl (Ne.symm ne_o66_o67))
  have A_o68 := A_o68.other W (Ne.symm ne_o66_o68)
  have E_o70 := E_o70.wr W
  have F_o70_blocks := F_o70_blocks.other W (Or.inl (Ne.symm ne_o66_o70))
  have F_o70_size := F_o70_size.other W (Or.inl (Ne.symm ne_o66_o70))
  have E_o71 := E_o71.wr W
  have A_o71 := A_o71.other W (Ne.symm ne_o66_o71)
  have E_o73 := E_o73.wr W
  have F_o73_values := F_o73_values.other W (Or.inl (Ne.symm ne_o66_o73))
  have F_o73_size := F_o73_size.other W (Or.inl (Ne.symm ne_o66_o73))
  have A_o74 := A_o74.other W (Ne.symm ne_o66_o74)
  have A_o76 := A_o76.other W (Ne.symm ne_o66_o76)
  have Kp := Kp.wr W (Or.inl (by simp))
  have A_o77 := A_o77.other W (Ne.symm ne_o66_o77)
  have A_o78 := A_o78.other W (Ne.symm ne_o66_o78)
  have E_o3 := E_o3.wr W
  have F_o3_bytes := F_o3_bytes.other W (Or.inl ne_o3_o66)
  have F_o3_starts := F_o3_starts.other W (Or.inl ne_o3_o66)
  have F_o3_hashes := F_o3_hashes.other W (Or.inl ne_o3_o66)
  have F_o3_table := F_o3_table.other W (Or.inl ne_o3_o66)
  have F_o3_encoded := F_o3_encoded.other W (Or.inl ne_o3_o66)
  have F_o3_encodedLength := F_o3_encodedLength.other W (Or.inl ne_o3_o66)
  have F_o3_encodedHash := F_o3_encodedHash.other W (Or.inl ne_o3_o66)
  have F_o3_length := F_o3_length.other W (Or.inl ne_o3_o66)
  have F_o3_position := F_o3_position.other W (Or.inl ne_o3_o66)
  refine s_aloadN 204 C X d16_203 rfl rfl ?_
  refine s_getfield 207 C X (host := "") d16_204 (Or.inl (mW 105 rfl)) Via.refl F_o65_nearestFewer (fun T X => ?_)
  refine s_iload 209 C X d16_207 rfl ?_
  refine s_callV 212 [(.int (-1 : Int32))] [] 0 C X d16_209 (mW 185 rfl) (mW 86 rfl) (notFace_of_selects (args := #[]) (mvT C.2.1 (C.w (mW 88 rfl)))) (mW 88 rfl) (mW 87 rfl) (mW 17 rfl) (mW 89 rfl) E_o67 (rm_a169 l Z a0 hw o67 o68 k_o68 _ n0 X.sz E_o67 F_o67_values F_o67_size A_o68 g_o67 g_o68 ne_o67_o68) (lenOf pd__I_V rfl) rfl rfl rfl (fun T v hh X q => ?_)
  obtain ⟨rfl, E_o67, F_o67_values, F_o67_size, A_o68, Kc⟩ := q
  have nn_o5 : o5 ∉ [o67, o68] := (ninS ne_o5_o67 (ninS ne_o5_o68 nin0))
  have nn_o65 : o65 ∉ [o67, o68] := (ninS ne_o65_o67 (ninS ne_o65_o68 nin0))
  have nn_o70 : o70 ∉ [o67, o68] := (ninS (Ne.symm ne_o67_o70) (ninS (Ne.symm ne_o68_o70) nin0))
  have nn_o73 : o73 ∉ [o67, o68] := (ninS (Ne.symm ne_o67_o73) (ninS (Ne.symm ne_o68_o73) nin0))
  have nn_o3 : o3 ∉ [o67, o68] := (ninS ne_o3_o67 (ninS ne_o3_o68 nin0))
  have A_o4 := A_o4.keep Kc (ninS ne_o4_o67 (ninS ne_o4_o68 nin0))
  have E_o5 := E_o5.keep Kc
  have F_o5_values := F_o5_values.keep Kc nn_o5
  have F_o5_size := F_o5_size.keep Kc nn_o5
  have A_o6 := A_o6.keep Kc (ninS ne_o6_o67 (ninS ne_o6_o68 nin0))
  have E_o60 := E_o60.keep Kc
  have F_o60_values := F_o60_values.keep Kc (ninS ne_o60_o67 (ninS ne_o60_o68 nin0))
  have A_o61 := A_o61.keep Kc (ninS ne_o61_o67 (ninS ne_o61_o68 nin0))
  have E_o65 := E_o65.keep Kc
  have F_o65_tokens := F_o65_tokens.keep Kc nn_o65
  have F_o65_nearestFewer := F_o65_nearestFewer.keep Kc nn_o65
  have F_o65_nearestUnmarked := F_o65_nearestUnmarked.keep Kc nn_o65
  have F_o65_firstNearestUnmarked := F_o65_firstNearestUnmarked.keep Kc nn_o65
  have F_o65_markings := F_o65_markings.keep Kc nn_o65
  have F_o65_parents := F_o65_parents.keep Kc nn_o65
  have F_o65_stepsPerMarking := F_o65_stepsPerMarking.keep Kc nn_o65
  have F_o65_searchedMarking := F_o65_searchedMarking.keep Kc nn_o65
  have F_o65_searchedPlaces := F_o65_searchedPlaces.keep Kc nn_o65
  have F_o65_searchedTokens := F_o65_searchedTokens.keep Kc nn_o65
  have F_o65_parentPlaces := F_o65_parentPlaces.keep Kc nn_o65
  have F_o65_parentTokens := F_o65_parentTokens.keep Kc nn_o65
  have F_o65_unmarkedRanks := F_o65_unmarkedRanks.keep Kc nn_o65
  have F_o65_searched := F_o65_searched.keep Kc nn_o65
  have F_o65_steps := F_o65_steps.keep Kc nn_o65
  have A_o66 := A_o66.keep Kc (ninS ne_o66_o67 (ninS ne_o66_o68 nin0))
  have E_o70 := E_o70.keep Kc
  have F_o70_blocks := F_o70_blocks.keep Kc nn_o70
  have F_o70_size := F_o70_size.keep Kc nn_o70
  have E_o71 := E_o71.keep Kc
  have A_o71 := A_o71.keep Kc (ninS (Ne.symm ne_o67_o71) (ninS (Ne.symm ne_o68_o71) nin0))
  have E_o73 := E_o73.keep Kc
  have F_o73_values := F_o73_values.keep Kc nn_o73
  have F_o73_size := F_o73_size.keep Kc nn_o73
  have A_o74 := A_o74.keep Kc (ninS (Ne.symm ne_o67_o74) (ninS (Ne.symm ne_o68_o74) nin0))
  have A_o76 := A_o76.keep Kc (ninS (Ne.symm ne_o67_o76) (ninS (Ne.symm ne_o68_o76) nin0))
  have Kp := Kp.trans Kc (allS (Or.inl (by simp)) (allS (Or.inl (by simp)) all0))
  have A_o77 := A_o77.keep Kc (ninS (Ne.symm ne_o67_o77) (ninS (Ne.symm ne_o68_o77) nin0))
  have A_o78 := A_o78.keep Kc (ninS (Ne.symm ne_o67_o78) (ninS (Ne.symm ne_o68_o78) nin0))
  have E_o3 := E_o3.keep Kc
  have F_o3_bytes := F_o3_bytes.keep Kc nn_o3
  have F_o3_starts := F_o3_starts.keep Kc nn_o3
  have F_o3_hashes := F_o3_hashes.keep Kc nn_o3
  have F_o3_table := F_o3_table.keep Kc nn_o3
  have F_o3_encoded := F_o3_encoded.keep Kc nn_o3
  have F_o3_encodedLength := F_o3_encodedLength.keep Kc nn_o3
  have F_o3_encodedHash := F_o3_encodedHash.keep Kc nn_o3
  have F_o3_length := F_o3_length.keep Kc nn_o3
  have F_o3_position := F_o3_position.keep Kc nn_o3
  refine Run.cast (st' := []) rfl ?_
  refine s_aloadN 213 C X d16_212 rfl rfl ?_
  refine s_iloadN 214 C X d16_213 rfl ?_
  refine s_iload 216 C X d16_214 rfl ?_
  refine s_callPI 219 [(.int (1 : Int32)), (.int (-1 : Int32))] [] 0 C X d16_216 (mW 186 rfl) (mW 187 rfl) (mW 95 rfl) (mW 188 rfl) (mW 96 rfl) (mW 189 rfl) E_o65 (rm_a184 l Z a0 hw o65 o70 o71 k_o71 o73 o74 k_o74 o77 k_o77 _ n0 X.sz F_o65_nearestUnmarked F_o65_firstNearestUnmarked F_o65_searchedPlaces E_o70 F_o70_blocks F_o70_size E_o71 A_o71 E_o73 F_o73_values F_o73_size A_o74 A_o77 g_o70 g_o71 g_o73 g_o74 ne_o65_o70 ne_o65_o71 ne_o70_o71 O_o71 ne_o65_o73 ne_o70_o73 ne_o71_o73 ne_o65_o74 ne_o70_o74 ne_o71_o74 ne_o73_o74 ne_o70_o77 ne_o71_o77 ne_o73_o77 ne_o74_o77) (lenOf pd__II_V rfl) rfl rfl rfl (fun T v hh X q => ?_)
  obtain ⟨o181, k_o181, rfl, Kc, E_o73, F_o73_values, F_o73_size, A_o74, E_o70, F_o70_blocks, F_o70_size, E_o71, A_o71, E_o181, A_o181, ne_o73_o181, ne_o74_o181, sz_o181', g_o181, ne_o70_o181, ne_o71_o181⟩ := q
  have ne_o4_o181 : o4 ≠ o181 := Nat.ne_of_lt (Nat.lt_of_lt_of_le A_o4.lt sz_o181')
  have ne_o5_o181 : o5 ≠ o181 := Nat.ne_of_lt (Nat.lt_of_lt_of_le E_o5.lt sz_o181')
  have ne_o6_o181 : o6 ≠ o181 := Nat.ne_of_lt (Nat.lt_of_lt_of_le A_o6.lt sz_o181')
  have ne_o60_o181 : o60 ≠ o181 := Nat.ne_of_lt (Nat.lt_of_lt_of_le E_o60.lt sz_o181')
  have ne_o61_o181 : o61 ≠ o181 := Nat.ne_of_lt (Nat.lt_of_lt_of_le A_o61.lt sz_o181')
  have ne_o65_o181 : o65 ≠ o181 := Nat.ne_of_lt (Nat.lt_of_lt_of_le E_o65.lt sz_o181')
  have ne_o66_o181 : o66 ≠ o181 := Nat.ne_of_lt (Nat.lt_of_lt_of_le A_o66.lt sz_o181')
  have ne_o76_o181 : o76 ≠ o181 := Nat.ne_of_lt (Nat.lt_of_lt_of_le A_o76.lt sz_o181')
  have ne_o77_o181 : o77 ≠ o181 := Nat.ne_of_lt (Nat.lt_of_lt_of_le A_o77.lt sz_o181')
  have ne_o78_o181 : o78 ≠ o181 := Nat.ne_of_lt (Nat.lt_of_lt_of_le A_o78.lt sz_o181')
  have ne_o3_o181 : o3 ≠ o181 := Nat.ne_of_lt (Nat.lt_of_lt_of_le E_o3.lt sz_o181')
  have ne_o67_o181 : o67 ≠ o181 := Nat.ne_of_lt (Nat.lt_of_lt_of_le E_o67.lt sz_o181')
  have ne_o68_o181 : o68 ≠ o181 := Nat.ne_of_lt (Nat.lt_of_lt_of_le A_o68.lt sz_o181')
  have sz_o181 : h0.size ≤ o181 := Nat.le_trans Kp.1 sz_o181'
  have nn_o5 : o5 ∉ [o70, o73, o71, o74] := (ninS ne_o5_o70 (ninS ne_o5_o73 (ninS ne_o5_o71 (ninS ne_o5_o74 nin0))))
  have nn_o65 : o65 ∉ [o70, o73, o71, o74] := (ninS ne_o65_o70 (ninS ne_o65_o73 (ninS ne_o65_o71 (ninS ne_o65_o74 nin0))))
  have nn_o3 : o3 ∉ [o70, o73, o71, o74] := (ninS ne_o3_o70 (ninS ne_o3_o73 (ninS ne_o3_o71 (ninS ne_o3_o74 nin0))))
  have nn_o67 : o67 ∉ [o70, o73, o71, o74] := (ninS ne_o67_o70 (ninS ne_o67_o73 (ninS ne_o67_o71 (ninS ne_o67_o74 nin0))))
  have A_o4 := A_o4.keep Kc (ninS ne_o4_o70 (ninS ne_o4_o73 (ninS ne_o4_o71 (ninS ne_o4_o74 nin0))))
  have E_o5 := E_o5.keep Kc
  have F_o5_values := F_o5_values.keep Kc nn_o5
  have F_o5_size := F_o5_size.keep Kc nn_o5
  have A_o6 := A_o6.keep Kc (ninS ne_o6_o70 (ninS ne_o6_o73 (ninS ne_o6_o71 (ninS ne_o6_o74 nin0))))
  have E_o60 := E_o60.keep Kc
  have F_o60_values := F_o60_values.keep Kc (ninS ne_o60_o70 (ninS ne_o60_o73 (ninS ne_o60_o71 (ninS ne_o60_o74 nin0))))
  have A_o61 := A_o61.keep Kc (ninS ne_o61_o70 (ninS ne_o61_o73 (ninS ne_o61_o71 (ninS ne_o61_o74 nin0))))
  have E_o65 := E_o65.keep Kc
  have F_o65_tokens := F_o65_tokens.keep Kc nn_o65
  have F_o65_nearestFewer := F_o65_nearestFewer.keep Kc nn_o65
  have F_o65_nearestUnmarked := F_o65_nearestUnmarked.keep Kc nn_o65
  have F_o65_firstNearestUnmarked := F_o65_firstNearestUnmarked.keep Kc nn_o65
  have F_o65_markings := F_o65_markings.keep Kc nn_o65
  have F_o65_parents := F_o65_parents.keep Kc nn_o65
  have F_o65_stepsPerMarking := F_o65_stepsPerMarking.keep Kc nn_o65
  have F_o65_searchedMarking := F_o65_searchedMarking.keep Kc nn_o65
  have F_o65_searchedPlaces := F_o65_searchedPlaces.keep Kc nn_o65
  have F_o65_searchedTokens := F_o65_searchedTokens.keep Kc nn_o65
  have F_o65_parentPlaces := F_o65_parentPlaces.keep Kc nn_o65
  have F_o65_parentTokens := F_o65_parentTokens.keep Kc nn_o65
  have F_o65_unmarkedRanks := F_o65_unmarkedRanks.keep Kc nn_o65
  have F_o65_searched := F_o65_searched.keep Kc nn_o65
  have F_o65_steps := F_o65_steps.keep Kc nn_o65
  have A_o66 := A_o66.keep Kc (ninS ne_o66_o70 (ninS ne_o66_o73 (ninS ne_o66_o71 (ninS ne_o66_o74 nin0))))
  have A_o76 := A_o76.keep Kc (ninS (Ne.symm ne_o70_o76) (ninS (Ne.symm ne_o73_o76) (ninS (Ne.symm ne_o71_o76) (ninS (Ne.symm ne_o74_o76) nin0))))
  have Kp := Kp.trans Kc (allS (Or.inl (by simp)) (allS (Or.inl (by simp)) (allS (Or.inl (by simp)) (allS (Or.inl (by simp)) all0))))
  have A_o77 := A_o77.keep Kc (ninS (Ne.symm ne_o70_o77) (ninS (Ne.symm ne_o73_o77) (ninS (Ne.symm ne_o71_o77) (ninS (Ne.symm ne_o74_o77) nin0))))
  have A_o78 := A_o78.keep Kc (ninS (Ne.symm ne_o70_o78) (ninS (Ne.symm ne_o73_o78) (ninS (Ne.symm ne_o71_o78) (ninS (Ne.symm ne_o74_o78) nin0))))
  have E_o3 := E_o3.keep Kc
  have F_o3_bytes := F_o3_bytes.keep Kc nn_o3
  have F_o3_starts := F_o3_starts.keep Kc nn_o3
  have F_o3_hashes := F_o3_hashes.keep Kc nn_o3
  have F_o3_table := F_o3_table.keep Kc nn_o3
  have F_o3_encoded := F_o3_encoded.keep Kc nn_o3
  have F_o3_encodedLength := F_o3_encodedLength.keep Kc nn_o3
  have F_o3_encodedHash := F_o3_encodedHash.keep Kc nn_o3
  have F_o3_length := F_o3_length.keep Kc nn_o3
  have F_o3_position := F_o3_position.keep Kc nn_o3
  have E_o67 := E_o67.keep Kc
  have F_o67_values := F_o67_values.keep Kc nn_o67
  have F_o67_size := F_o67_size.keep Kc nn_o67
  have A_o68 := A_o68.keep Kc (ninS ne_o68_o70 (ninS ne_o68_o73 (ninS ne_o68_o71 (ninS ne_o68_o74 nin0))))
  refine Run.cast (st' := []) rfl ?_
  refine s_aloadN 220 C X d16_219 rfl rfl ?_
  refine s_dup 221 C X d16_220 rfl ?_
  refine s_getfield 224 C X (host := "") d16_221 (Or.inl (mW 145 rfl)) Via.refl F_o65_searched (fun T X => ?_)
  refine s_iconst 225 C X d16_224 kc_iconst_1 ?_
  refine s_iadd 226 C X d16_225 ?_
  refine Run.cast (st' := [(.int (1 : Int32)), (.ref o65)]) (by rw [kf_7]) ?_
  refine s_putfield 229 C X (host := "") d16_226 (Or.inl (mW 145 rfl)) Via.refl F_o65_searched E_o65 (Or.inl (mW 146 rfl)) (mW 95 rfl) (ty := .int) (by decide) rfl rfl g_o65 (fun T hh X W => ?_)
  have A_o4 := A_o4.other W ne_o4_o65
  have E_o5 := E_o5.wr W
  have F_o5_values := F_o5_values.other W (Or.inl ne_o5_o65)
  have F_o5_size := F_o5_size.other W (Or.inl ne_o5_o65)
  have A_o6 := A_o6.other W ne_o6_o65
  have E_o60 := E_o60.wr W
  have F_o60_values := F_o60_values.other W (Or.inl ne_o60_o65)
  have A_o61 := A_o61.other W ne_o61_o65
  have E_o65 := E_o65.wr W
  have F_o65_tokens := oth F_o65_tokens W (Or.inl (hw _ (mW 102 rfl))) (Or.inl (hw _ (mW 146 rfl))) (by decide)
  have F_o65_nearestFewer := oth F_o65_nearestFewer W (Or.inr (hw _ (mW 106 rfl))) (Or.inl (hw _ (mW 146 rfl))) (by decide)
  have F_o65_nearestUnmarked := oth F_o65_nearestUnmarked W (Or.inr (hw _ (mW 119 rfl))) (Or.inl (hw _ (mW 146 rfl))) (by decide)
  have F_o65_firstNearestUnmarked := oth F_o65_firstNearestUnmarked W (Or.inr (hw _ (mW 121 rfl))) (Or.inl (hw _ (mW 146 rfl))) (by decide)
  have F_o65_markings := oth F_o65_markings W (Or.inr (hw _ (mW 123 rfl))) (Or.inl (hw _ (mW 146 rfl))) (by decide)
  have F_o65_parents := oth F_o65_parents W (Or.inr (hw _ (mW 125 rfl))) (Or.inl (hw _ (mW 146 rfl))) (by decide)
  have F_o65_stepsPerMarking := oth F_o65_stepsPerMarking W (Or.inr (hw _ (mW 127 rfl))) (Or.inl (hw _ (mW 146 rfl))) (by decide)
  have F_o65_searchedMarking := oth F_o65_searchedMarking W (Or.inr (hw _ (mW 129 rfl))) (Or.inl (hw _ (mW 146 rfl))) (by decide)
  have F_o65_searchedPlaces := oth F_o65_searchedPlaces W (Or.inr (hw _ (mW 131 rfl))) (Or.inl (hw _ (mW 146 rfl))) (by decide)
  have F_o65_searchedTokens := oth F_o65_searchedTokens W (Or.inr (hw _ (mW 133 rfl))) (Or.inl (hw _ (mW 146 rfl))) (by decide)
  have F_o65_parentPlaces := oth F_o65_parentPlaces W (Or.inr (hw _ (mW 135 rfl))) (Or.inl (hw _ (mW 146 rfl))) (by decide)
  have F_o65_parentTokens := oth F_o65_parentTokens W (Or.inr (hw _ (mW 137 rfl))) (Or.inl (hw _ (mW 146 rfl))) (by decide)
  have F_o65_unmarkedRanks := oth F_o65_unmarkedRanks W (Or.inr (hw _ (mW 139 rfl))) (Or.inl (hw _ (mW 146 rfl))) (by decide)
  have F_o65_searched := F_o65_searched.same W
  have F_o65_steps := oth F_o65_steps W (Or.inl (hw _ (mW 149 rfl))) (Or.inl (hw _ (mW 146 rfl))) (by decide)
  have A_o66 := A_o66.other W (Ne.symm ne_o65_o66)
  have A_o76 := A_o76.other W (Ne.symm ne_o65_o76)
  have Kp := Kp.wr W (Or.inl (by simp))
  have A_o77 := A_o77.other W (Ne.symm ne_o65_o77)
  have A_o78 := A_o78.other W (Ne.symm ne_o65_o78)
  have E_o3 := E_o3.wr W
  have F_o3_bytes := F_o3_bytes.other W (Or.inl ne_o3_o65)
  have F_o3_starts := F_o3_starts.other W (Or.inl ne_o3_o65)
  have F_o3_hashes := F_o3_hashes.other W (Or.inl ne_o3_o65)
  have F_o3_table := F_o3_table.other W (Or.inl ne_o3_o65)
  have F_o3_encoded := F_o3_encoded.other W (Or.inl ne_o3_o65)
  have F_o3_encodedLength := F_o3_encodedLength.other W (Or.inl ne_o3_o65)
  have F_o3_encodedHash := F_o3_encodedHash.other W (Or.inl ne_o3_o65)
  have F_o3_length := F_o3_length.other W (Or.inl ne_o3_o65)
  have F_o3_position := F_o3_position.other W (Or.inl ne_o3_o65)
  have E_o67 := E_o67.wr W
  have F_o67_values := F_o67_values.other W (Or.inl (Ne.symm ne_o65_o67))
  have F_o67_size := F_o67_size.other W (Or.inl (Ne.symm ne_o65_o67))
  have A_o68 := A_o68.other W (Ne.symm ne_o65_o68)
  have E_o73 := E_o73.wr W
  have F_o73_values := F_o73_values.other W (Or.inl (Ne.symm ne_o65_o73))
  have F_o73_size := F_o73_size.other W (Or.inl (Ne.symm ne_o65_o73))
  have A_o74 := A_o74.other W (Ne.symm ne_o65_o74)
  have E_o70 := E_o70.wr W
  have F_o70_blocks := F_o70_blocks.other W (Or.inl (Ne.symm ne_o65_o70))
  have F_o70_size := F_o70_size.other W (Or.inl (Ne.symm ne_o65_o70))
  have E_o71 := E_o71.wr W
  have A_o71 := A_o71.other W (Ne.symm ne_o65_o71)
  have E_o181 := E_o181.wr W
  have A_o181 := A_o181.other W (Ne.symm ne_o65_o181)
  refine s_goto 0 C X d16_229 ?_
  refine s_aloadN 1 C X d16_0 rfl rfl ?_
  refine s_getfield 4 C X (host := "") d16_1 (Or.inl (mW 145 rfl)) Via.refl F_o65_searched (fun T X => ?_)
  refine s_aloadN 5 C X d16_4 rfl rfl ?_
  refine s_getfield 8 C X (host := "") d16_5 (Or.inl (mW 122 rfl)) Via.refl F_o65_markings (fun T X => ?_)
  refine s_callV 11 [] [(.int (1 : Int32))] 1 C X d16_8 (mW 147 rfl) (mW 68 rfl) (notFace_of_selects (args := #[]) (mvT C.2.1 (C.w (mW 70 rfl)))) (mW 70 rfl) (mW 69 rfl) (mW 5 rfl) (mW 71 rfl) E_o3 (rm_a57 l Z a0 hw o3 o5 _ n0 X.sz F_o3_starts E_o5 F_o5_size) (lenOf pd___I rfl) rfl rfl rfl (fun T v hh X q => ?_)
  obtain ⟨rfl, Kc⟩ := q
  have A_o4 := A_o4.keep Kc nin0
  have E_o5 := E_o5.keep Kc
  have F_o5_values := F_o5_values.keep Kc nin0
  have F_o5_size := F_o5_size.keep Kc nin0
  have A_o6 := A_o6.keep Kc nin0
  have E_o60 := E_o60.keep Kc
  have F_o60_values := F_o60_values.keep Kc nin0
  have A_o61 := A_o61.keep Kc nin0
  have E_o65 := E_o65.keep Kc
  have F_o65_tokens := F_o65_tokens.keep Kc nin0
  have F_o65_nearestFewer := F_o65_nearestFewer.keep Kc nin0
  have F_o65_nearestUnmarked := F_o65_nearestUnmarked.keep Kc nin0
  have F_o65_firstNearestUnmarked := F_o65_firstNearestUnmarked.keep Kc nin0
  have F_o65_markings := F_o65_markings.keep Kc nin0
  have F_o65_parents := F_o65_parents.keep Kc nin0
  have F_o65_stepsPerMarking := F_o65_stepsPerMarking.keep Kc nin0
  have F_o65_searchedMarking := F_o65_searchedMarking.keep Kc nin0
  have F_o65_searchedPlaces := F_o65_searchedPlaces.keep Kc nin0
  have F_o65_searchedTokens := F_o65_searchedTokens.keep Kc nin0
  have F_o65_parentPlaces := F_o65_parentPlaces.keep Kc nin0
  have F_o65_parentTokens := F_o65_parentTokens.keep Kc nin0
  have F_o65_unmarkedRanks := F_o65_unmarkedRanks.keep Kc nin0
  have F_o65_searched := F_o65_searched.keep Kc nin0
  have F_o65_steps := F_o65_steps.keep Kc nin0
  have A_o66 := A_o66.keep Kc nin0
  have A_o76 := A_o76.keep Kc nin0
  have Kp := Kp.trans Kc all0
  have A_o77 := A_o77.keep Kc nin0
  have A_o78 := A_o78.keep Kc nin0
  have E_o3 := E_o3.keep Kc
  have F_o3_bytes := F_o3_bytes.keep Kc nin0
  have F_o3_starts := F_o3_starts.keep Kc nin0
  have F_o3_hashes := F_o3_hashes.keep Kc nin0
  have F_o3_table := F_o3_table.keep Kc nin0
  have F_o3_encoded := F_o3_encoded.keep Kc nin0
  have F_o3_encodedLength := F_o3_encodedLength.keep Kc nin0
  have F_o3_encodedHash := F_o3_encodedHash.keep Kc nin0
  have F_o3_length := F_o3_length.keep Kc nin0
  have F_o3_position := F_o3_position.keep Kc nin0
  have E_o67 := E_o67.keep Kc
  have F_o67_values := F_o67_values.keep Kc nin0
  have F_o67_size := F_o67_size.keep Kc nin0
  have A_o68 := A_o68.keep Kc nin0
  have E_o73 := E_o73.keep Kc
  have F_o73_values := F_o73_values.keep Kc nin0
  have F_o73_size := F_o73_size.keep Kc nin0
  have A_o74 := A_o74.keep Kc nin0
  have E_o70 := E_o70.keep Kc
  have F_o70_blocks := F_o70_blocks.keep Kc nin0
  have F_o70_size := F_o70_size.keep Kc nin0
  have E_o71 := E_o71.keep Kc
  have A_o71 := A_o71.keep Kc nin0
  have E_o181 := E_o181.keep Kc
  have A_o181 := A_o181.keep Kc nin0
  refine Run.cast (st' := [(.int (1 : Int32)), (.int (1 : Int32))]) rfl ?_
  refine s_icmp_ge 232 14 C X d16_11 (fun _ => ?_) (fun c => absurd c (by decide))
  refine s_iconst 233 C X d16_232 kc_iconst_m1 ?_
  refine s_ireturn C X d16_233 rfl ?_
  exact (Or.inr ⟨o181, k_o181, rfl, c20_146, E_o65, F_o65_tokens, F_o65_nearestFewer, F_o65_nearestUnmarked, F_o65_firstNearestUnmarked, F_o65_markings, F_o65_parents, F_o65_stepsPerMarking, F_o65_searchedMarking, F_o65_searchedPlaces, F_o65_searchedTokens, F_o65_parentPlaces, F_o65_parentTokens, F_o65_unmarkedRanks, F_o65_searched, F_o65_steps, A_o66, A_o76, Kp, A_o77, A_o78, E_o3, F_o3_bytes, F_o3_starts, F_o3_hashes, F_o3_table, F_o3_encoded, F_o3_encodedLength, F_o3_encodedHash, F_o3_length, F_o3_position, E_o67, F_o67_values, F_o67_size, A_o68, E_o73, F_o73_values, F_o73_size, A_o74, E_o70, F_o70_blocks, F_o70_size, E_o71, A_o71, E_o181, A_o181, ne_o65_o181, ne_o66_o181, ne_o76_o181, ne_o77_o181, ne_o78_o181, ne_o3_o181, ne_o67_o181, ne_o68_o181, sz_o181, g_o181, ne_o73_o181, ne_o74_o181, ne_o70_o181, ne_o71_o181⟩)
set_option maxRecDepth 65536 in
set_option maxHeartbeats 40000000 in
theorem rm_a192 (l : Launch) (Z : State) (a0 : Array Value) (hw : ∀ d ∈ tables_1, d.before a0 Z = true) (o2 : Addr) (o3 : Addr) (o5 : Addr) (o65 : Addr) (h0 : Heap) (n0 : Nat) (Z0 : n0 ≤ h0.size) (E_o5 : Exa Z h0 o5 "com/example/eventloom/eventloom/net/IntList") (F_o5_size : Fld Z h0 o5 "com/example/eventloom/eventloom/net/IntList" "size" "I" (.int (1 : Int32))) (E_o3 : Exa Z h0 o3 "com/example/eventloom/eventloom/net/MarkingStore") (F_o3_starts : Fld Z h0 o3 "com/example/eventloom/eventloom/net/MarkingStore" "starts" "Lcom/example/eventloom/eventloom/net/IntList;" (.ref o5)) (F_o65_markings : Fld Z h0 o65 "com/example/eventloom/eventloom/verification/CoverSearch" "markings" "Lcom/example/eventloom/eventloom/net/MarkingStore;" (.ref o3)) (F_o65_searched : Fld Z h0 o65 "com/example/eventloom/eventloom/verification/CoverSearch" "searched" "I" (.int (0 : Int32))) :
    Met l Z (⟨"com/example/eventloom/eventloom/verification/CoverSearch", "covers", "([JI)Z"⟩ : MethodName) prog_117_method_5_code 3 (some .boolean) { frames := 2, cells := 0, slots := 0, locals := 25 } [] #[(.ref o65), (.ref o2), (.int (0 : Int32))] h0 n0 (fun v h => v = some (.int (0 : Int32)) ∧ Keep h0 h []) := by
  refine Met.mk (tabs := tables_1) (a0 := a0) (ls0 := #[.val (.ref o65), .val (.ref o2), .val (.int (0 : Int32))]) (plainFor_of_name pn_com_example_eventloom_eventloom_verification_CoverSearch) hw Z0 (fun m => by first | (simp [entryFrame, mkF, argsToLocals, Value.category]; done) | rfl) ?_
  intro p e s m below meth c T C X
  have Kp : Keep h0 h0 [] := Keep.refl _ _
  refine s_aloadN 1 C X d17_0 rfl rfl ?_
  refine s_getfield 4 C X (host := "") d17_1 (Or.inl (mW 145 rfl)) Via.refl F_o65_searched (fun T X => ?_)
  refine s_aloadN 5 C X d17_4 rfl rfl ?_
  refine s_getfield 8 C X (host := "") d17_5 (Or.inl (mW 122 rfl)) Via.refl F_o65_markings (fun T X => ?_)
  refine s_callV 11 [] [(.int (0 : Int32))] 1 C X d17_8 (mW 147 rfl) (mW 68 rfl) (notFace_of_selects (args := #[]) (mvT C.2.1 (C.w (mW 70 rfl)))) (mW 70 rfl) (mW 69 rfl) (mW 5 rfl) (mW 71 rfl) E_o3 (rm_a57 l Z a0 hw o3 o5 _ n0 X.sz F_o3_starts E_o5 F_o5_size) (lenOf pd___I rfl) rfl rfl rfl (fun T v hh X q => ?_)
  obtain ⟨rfl, Kc⟩ := q
  have E_o5 := E_o5.keep Kc
  have F_o5_size := F_o5_size.keep Kc nin0
  have E_o3 := E_o3.keep Kc
  have F_o3_starts := F_o3_starts.keep Kc nin0
  have F_o65_markings := F_o65_markings.keep Kc nin0
  have F_o65_searched := F_o65_searched.keep Kc nin0
  have Kp := Kp.trans Kc all0
  refine Run.cast (st' := [(.int (1 : Int32)), (.int (0 : Int32))]) rfl ?_
  refine s_icmp_lt 23 14 C X d17_11 (fun _ => ?_) (fun c => absurd (by decide : (0 : Int32) < (1 : Int32)) c)
  refine s_iconst 24 C X d17_23 kc_iconst_0 ?_
  refine s_nreturn C X d17_24 rfl (by simp) rfl ?_
  exact ⟨rfl, Kp⟩
set_option maxRecDepth 65536 in
set_option maxHeartbeats 40000000 in
theorem rm_a198 (l : Launch) (Z : State) (a0 : Array Value) (hw : ∀ d ∈ tables_1, d.before a0 Z = true) (x0 : Int32) (o3 : Addr) (o60 : Addr) (o65 : Addr) (o66 : Addr) (o67 : Addr) (o70 : Addr) (o73 : Addr) (o76 : Addr) (o77 : Addr) (o78 : Addr) (o79 : Addr) (o80 : Addr) (o81 : Addr) (gst : Int64) (h0 : Heap) (n0 : Nat) (Z0 : n0 ≤ h0.size) (E_o65 : Exa Z h0 o65 "com/example/eventloom/eventloom/verification/CoverSearch") (F_o65_tokens : Fld Z h0 o65 "com/example/eventloom/eventloom/verification/CoverSearch" "tokens" "[J" (.ref o66)) (F_o65_nearestFewer : Fld Z h0 o65 "com/example/eventloom/eventloom/verification/CoverSearch" "nearestFewer" "Lcom/example/eventloom/eventloom/net/IntList;" (.ref o67)) (F_o65_nearestUnmarked : Fld Z h0 o65 "com/example/eventloom/eventloom/verification/CoverSearch" "nearestUnmarked" "Lcom/example/eventloom/eventloom/verification/IntBlockList;" (.ref o70)) (F_o65_firstNearestUnmarked : Fld Z h0 o65 "com/example/eventloom/eventloom/verification/CoverSearch" "firstNearestUnmarked" "Lcom/example/eventloom/eventloom/net/IntList;" (.ref o73)) (F_o65_markings : Fld Z h0 o65 "com/example/eventloom/eventloom/verification/CoverSearch" "markings" "Lcom/example/eventloom/eventloom/net/MarkingStore;" (.ref o3)) (F_o65_parents : Fld Z h0 o65 "com/example/eventloom/eventloom/verification/CoverSearch" "parents" "Lcom/example/eventloom/eventloom/net/IntList;" (.ref o60)) (F_o65_stepsPerMarking : Fld Z h0 o65 "com/example/eventloom/eventloom/verification/CoverSearch" "stepsPerMarking" "I" (.int x0)) (F_o65_searchedMarking : Fld Z h0 o65 "com/example/eventloom/eventloom/verification/CoverSearch" "searchedMarking" "[J" (.ref o76)) (F_o65_searchedPlaces : Fld Z h0 o65 "com/example/eventloom/eventloom/verification/CoverSearch" "searchedPlaces" "[I" (.ref o77)) (F_o65_searchedTokens : Fld Z h0 o65 "com/example/eventloom/eventloom/verification/CoverSearch" "searchedTokens" "[J" (.ref o78)) (F_o65_parentPlaces : Fld Z h0 o65 "com/example/eventloom/eventloom/verification/CoverSearch" "parentPlaces" "[I" (.ref o79)) (F_o65_parentTokens : Fld Z h0 o65 "com/example/eventloom/eventloom/verification/CoverSearch" "parentTokens" "[J" (.ref o80)) (F_o65_unmarkedRanks : Fld Z h0 o65 "com/example/eventloom/eventloom/verification/CoverSearch" "unmarkedRanks" "[I" (.ref o81)) (F_o65_searched : Fld Z h0 o65 "com/example/eventloom/eventloom/verification/CoverSearch" "searched" "I" (.int (0 : Int32))) (F_o65_steps : Fld Z h0 o65 "com/example/eventloom/eventloom/verification/CoverSearch" "steps" "J" (.long gst)) (g_o65 : n0 ≤ o65) :
    Met l Z (⟨"com/example/eventloom/eventloom/verification/CoverSearch", "grant", "()V"⟩ : MethodName) prog_117_method_2_code 1 none { frames := 0, cells := 0, slots := 0, locals := 0 } [] #[(.ref o65)] h0 n0 (fun v h => v = none ∧ Exa Z h o65 "com/example/eventloom/eventloom/verification/CoverSearch" ∧ Fld Z h o65 "com/example/eventloom/eventloom/verification/CoverSearch" "tokens" "[J" (.ref o66) ∧ Fld Z h o65 "com/example/eventloom/eventloom/verification/CoverSearch" "nearestFewer" "Lcom/example/eventloom/eventloom/net/IntList;" (.ref o67) ∧ Fld Z h o65 "com/example/eventloom/eventloom/verification/CoverSearch" "nearestUnmarked" "Lcom/example/eventloom/eventloom/verification/IntBlockList;" (.ref o70) ∧ Fld Z h o65 "com/example/eventloom/eventloom/verification/CoverSearch" "firstNearestUnmarked" "Lcom/example/eventloom/eventloom/net/IntList;" (.ref o73) ∧ Fld Z h o65 "com/example/eventloom/eventloom/verification/CoverSearch" "markings" "Lcom/example/eventloom/eventloom/net/MarkingStore;" (.ref o3) ∧ Fld Z h o65 "com/example/eventloom/eventloom/verification/CoverSearch" "parents" "Lcom/example/eventloom/eventloom/net/IntList;" (.ref o60) ∧ Fld Z h o65 "com/example/eventloom/eventloom/verification/CoverSearch" "stepsPerMarking" "I" (.int x0) ∧ Fld Z h o65 "com/example/eventloom/eventloom/verification/CoverSearch" "searchedMarking" "[J" (.ref o76) ∧ Fld Z h o65 "com/example/eventloom/eventloom/verification/CoverSearch" "searchedPlaces" "[I" (.ref o77) ∧ Fld Z h o65 "com/example/eventloom/eventloom/verification/CoverSearch" "searchedTokens" "[J" (.ref o78) ∧ Fld Z h o65 "com/example/eventloom/eventloom/verification/CoverSearch" "parentPlaces" "[I" (.ref o79) ∧ Fld Z h o65 "com/example/eventloom/eventloom/verification/CoverSearch" "parentTokens" "[J" (.ref o80) ∧ Fld Z h o65 "com/example/eventloom/eventloom/verification/CoverSearch" "unmarkedRanks" "[I" (.ref o81) ∧ Fld Z h o65 "com/example/eventloom/eventloom/verification/CoverSearch" "searched" "I" (.int (0 : Int32)) ∧ Fld Z h o65 "com/example/eventloom/eventloom/verification/CoverSearch" "steps" "J" (.long (gst + (x0).toInt64)) ∧ Keep h0 h [o65]) := by
  refine Met.mk (tabs := tables_1) (a0 := a0) (ls0 := #[.val (.ref o65)]) (plainFor_of_name pn_com_example_eventloom_eventloom_verification_CoverSearch) hw Z0 (fun m => by first | (simp [entryFrame, mkF, argsToLocals, Value.category]; done) | rfl) ?_
  intro p e s m below meth c T C X
  have Kp : Keep h0 h0 [o65] := Keep.refl _ _
  refine s_aloadN 1 C X d18_0 rfl rfl ?_
  refine s_dup 2 C X d18_1 rfl ?_
  refine s_getfield 5 C X (host := "") d18_2 (Or.inl (mW 148 rfl)) Via.refl F_o65_steps (fun T X => ?_)
  refine s_aloadN 6 C X d18_5 rfl rfl ?_
  refine s_getfield 9 C X (host := "") d18_6 (Or.inl (mW 126 rfl)) Via.refl F_o65_stepsPerMarking (fun T X => ?_)
  refine s_i2l 10 C X d18_9 ?_
  refine s_ladd 11 C X d18_10 ?_
  refine s_putfield 14 C X (host := "") d18_11 (Or.inl (mW 148 rfl)) Via.refl F_o65_steps E_o65 (Or.inl (mW 149 rfl)) (mW 95 rfl) (ty := .long) (by decide) rfl rfl g_o65 (fun T hh X W => ?_)
  have E_o65 := E_o65.wr W
  have F_o65_tokens := oth F_o65_tokens W (Or.inl (hw _ (mW 102 rfl))) (Or.inl (hw _ (mW 149 rfl))) (by decide)
  have F_o65_nearestFewer := oth F_o65_nearestFewer W (Or.inr (hw _ (mW 106 rfl))) (Or.inl (hw _ (mW 149 rfl))) (by decide)
  have F_o65_nearestUnmarked := oth F_o65_nearestUnmarked W (Or.inr (hw _ (mW 119 rfl))) (Or.inl (hw _ (mW 149 rfl))) (by decide)
  have F_o65_firstNearestUnmarked := oth F_o65_firstNearestUnmarked W (Or.inr (hw _ (mW 121 rfl))) (Or.inl (hw _ (mW 149 rfl))) (by decide)
  have F_o65_markings := oth F_o65_markings W (Or.inr (hw _ (mW 123 rfl))) (Or.inl (hw _ (mW 149 rfl))) (by decide)
  have F_o65_parents := oth F_o65_parents W (Or.inr (hw _ (mW 125 rfl))) (Or.inl (hw _ (mW 149 rfl))) (by decide)
  have F_o65_stepsPerMarking := oth F_o65_stepsPerMarking W (Or.inr (hw _ (mW 127 rfl))) (Or.inl (hw _ (mW 149 rfl))) (by decide)
  have F_o65_searchedMarking := oth F_o65_searchedMarking W (Or.inr (hw _ (mW 129 rfl))) (Or.inl (hw _ (mW 149 rfl))) (by decide)
  have F_o65_searchedPlaces := oth F_o65_searchedPlaces W (Or.inr (hw _ (mW 131 rfl))) (Or.inl (hw _ (mW 149 rfl))) (by decide)
  have F_o65_searchedTokens := oth F_o65_searchedTokens W (Or.inr (hw _ (mW 133 rfl))) (Or.inl (hw _ (mW 149 rfl))) (by decide)
  have F_o65_parentPlaces := oth F_o65_parentPlaces W (Or.inr (hw _ (mW 135 rfl))) (Or.inl (hw _ (mW 149 rfl))) (by decide)
  have F_o65_parentTokens := oth F_o65_parentTokens W (Or.inr (hw _ (mW 137 rfl))) (Or.inl (hw _ (mW 149 rfl))) (by decide)
  have F_o65_unmarkedRanks := oth F_o65_unmarkedRanks W (Or.inr (hw _ (mW 139 rfl))) (Or.inl (hw _ (mW 149 rfl))) (by decide)
  have F_o65_searched := oth F_o65_searched W (Or.inl (hw _ (mW 146 rfl))) (Or.inl (hw _ (mW 149 rfl))) (by decide)
  have F_o65_steps := F_o65_steps.same W
  have Kp := Kp.wr W (Or.inl (by simp))
  refine s_return C X d18_14 rfl ?_
  exact ⟨rfl, E_o65, F_o65_tokens, F_o65_nearestFewer, F_o65_nearestUnmarked, F_o65_firstNearestUnmarked, F_o65_markings, F_o65_parents, F_o65_stepsPerMarking, F_o65_searchedMarking, F_o65_searchedPlaces, F_o65_searchedTokens, F_o65_parentPlaces, F_o65_parentTokens, F_o65_unmarkedRanks, F_o65_searched, F_o65_steps, Kp⟩
set_option maxRecDepth 65536 in
set_option maxHeartbeats 40000000 in
theorem rm_a209 (l : Launch) (Z : State) (a0 : Array Value) (hw : ∀ d ∈ tables_1, d.before a0 Z = true) (o2 : Addr) (k_o2 : ClassId) (h0 : Heap) (n0 : Nat) (Z0 : n0 ≤ h0.size) (A_o2 : Arv Z h0 o2 k_o2 .long (1 : Int32) [(.long (2 : Int64))] (.long (0 : Int64))) :
    Met l Z (⟨"com/example/eventloom/eventloom/verification/CoverSearch", "total", "([J)J"⟩ : MethodName) prog_117_method_8_code 8 (some .long) { frames := 0, cells := 0, slots := 0, locals := 0 } [] #[(.ref o2)] h0 n0 (fun v h => v = some (.long (2 : Int64)) ∧ Keep h0 h []) := by
  refine Met.mk (tabs := tables_1) (a0 := a0) (ls0 := #[.val (.ref o2), .unset, .unset, .unset, .unset, .unset, .unset, .unset]) (plainFor_of_name pn_com_example_eventloom_eventloom_verification_CoverSearch) hw Z0 (fun m => by first | (simp [entryFrame, mkF, argsToLocals, Value.category]; done) | rfl) ?_
  intro p e s m below meth c T C X
  have Kp : Keep h0 h0 [] := Keep.refl _ _
  refine s_lconst 1 C X (z := (0 : Int64)) d27_0 rfl ?_
  refine s_lstoreN 2 C X (l' := #[.val (.ref o2), .val (.long (0 : Int64)), .second, .unset, .unset, .unset, .unset, .unset]) d27_1 rfl ?_
  refine s_aloadN 3 C X d27_2 rfl rfl ?_
  refine s_astoreN 4 C X (l' := #[.val (.ref o2), .val (.long (0 : Int64)), .second, .val (.ref o2), .unset, .unset, .unset, .unset]) d27_3 rfl rfl ?_
  refine s_aloadN 5 C X d27_4 rfl rfl ?_
  refine s_arraylength 6 C X d27_5 A_o2 ?_
  refine s_istore 8 C X (l' := #[.val (.ref o2), .val (.long (0 : Int64)), .second, .val (.ref o2), .val (.int (1 : Int32)), .unset, .unset, .unset]) d27_6 rfl ?_
  refine s_iconst 9 C X d27_8 kc_iconst_0 ?_
  refine s_istore 11 C X (l' := #[.val (.ref o2), .val (.long (0 : Int64)), .second, .val (.ref o2), .val (.int (1 : Int32)), .val (.int (0 : Int32)), .unset, .unset]) d27_9 rfl ?_
  refine s_iload 13 C X d27_11 rfl ?_
  refine s_iload 15 C X d27_13 rfl ?_
  refine s_icmp_ge 35 18 C X d27_15 (fun c => absurd (by decide : (0 : Int32) < (1 : Int32)) c) (fun _ => ?_)
  refine s_aloadN 19 C X d27_18 rfl rfl ?_
  refine s_iload 21 C X d27_19 rfl ?_
  refine s_laload 22 C X d27_21 A_o2 ⟨by decide, by decide⟩ (v := (.long (2 : Int64))) rfl ?_
  refine s_lstore 24 C X (l' := #[.val (.ref o2), .val (.long (0 : Int64)), .second, .val (.ref o2), .val (.int (1 : Int32)), .val (.int (0 : Int32)), .val (.long (2 : Int64)), .second]) d27_22 rfl ?_
  refine s_lloadN 25 C X d27_24 rfl ?_
  refine s_lload 27 C X d27_25 rfl ?_
  refine s_ladd 28 C X d27_27 ?_
  refine Run.cast (st' := [(.long (2 : Int64))]) (by rw [kf_43]) ?_
  refine s_lstoreN 29 C X (l' := #[.val (.ref o2), .val (.long (2 : Int64)), .second, .val (.ref o2), .val (.int (1 : Int32)), .val (.int (0 : Int32)), .val (.long (2 : Int64)), .second]) d27_28 rfl ?_
  refine s_iinc 32 C X (l' := #[.val (.ref o2), .val (.long (2 : Int64)), .second, .val (.ref o2), .val (.int (1 : Int32)), .val (.int (1 : Int32)), .val (.long (2 : Int64)), .second]) d27_29 kc_iconst_1 rfl rfl ?_
  refine s_goto 11 C X d27_32 ?_
  refine s_iload 13 C X d27_11 rfl ?_
  refine s_iload 15 C X d27_13 rfl ?_
  refine s_icmp_ge 35 18 C X d27_15 (fun _ => ?_) (fun c => absurd c (by decide))
  refine s_lloadN 36 C X d27_35 rfl ?_
  refine s_lreturn C X d27_36 rfl ?_
  exact ⟨rfl, Kp⟩
set_option maxRecDepth 65536 in
set_option maxHeartbeats 40000000 in
theorem rm_a218 (l : Launch) (Z : State) (a0 : Array Value) (hw : ∀ d ∈ tables_1, d.before a0 Z = true) (o3 : Addr) (o5 : Addr) (o6 : Addr) (k_o6 : ClassId) (h0 : Heap) (n0 : Nat) (Z0 : n0 ≤ h0.size) (E_o5 : Exa Z h0 o5 "com/example/eventloom/eventloom/net/IntList") (F_o5_values : Fld Z h0 o5 "com/example/eventloom/eventloom/net/IntList" "values" "[I" (.ref o6)) (F_o5_size : Fld Z h0 o5 "com/example/eventloom/eventloom/net/IntList" "size" "I" (.int (1 : Int32))) (A_o6 : Arv Z h0 o6 k_o6 .int (16 : Int32) [(.int (0 : Int32)), (.int (0 : Int32)), (.int (0 : Int32)), (.int (0 : Int32)), (.int (0 : Int32)), (.int (0 : Int32)), (.int (0 : Int32)), (.int (0 : Int32)), (.int (0 : Int32)), (.int (0 : Int32)), (.int (0 : Int32)), (.int (0 : Int32)), (.int (0 : Int32)), (.int (0 : Int32)), (.int (0 : Int32)), (.int (0 : Int32))] (.int (0 : Int32))) (E_o3 : Exa Z h0 o3 "com/example/eventloom/eventloom/net/MarkingStore") (F_o3_starts : Fld Z h0 o3 "com/example/eventloom/eventloom/net/MarkingStore" "starts" "Lcom/example/eventloom/eventloom/net/IntList;" (.ref o5)) (F_o3_length : Fld Z h0 o3 "com/example/eventloom/eventloom/net/MarkingStore" "length" "I" (.int (2 : Int32))) :
    Met l Z (⟨"com/example/eventloom/eventloom/net/MarkingStore", "length", "(I)I"⟩ : MethodName) prog_86_method_8_code 2 (some .int) { frames := 3, cells := 0, slots := 0, locals := 38 } [] #[(.ref o3), (.int (0 : Int32))] h0 n0 (fun v h => v = some (.int (2 : Int32)) ∧ Keep h0 h []) := by
  refine Met.mk (tabs := tables_1) (a0 := a0) (ls0 := #[.val (.ref o3), .val (.int (0 : Int32))]) (plainFor_of_name pn_com_example_eventloom_eventloom_net_MarkingStore) hw Z0 (fun m => by first | (simp [entryFrame, mkF, argsToLocals, Value.category]; done) | rfl) ?_
  intro p e s m below meth c T C X
  have Kp : Keep h0 h0 [] := Keep.refl _ _
  refine s_aloadN 1 C X d28_0 rfl rfl ?_
  refine s_iloadN 2 C X d28_1 rfl ?_
  refine s_callPI 5 [(.int (0 : Int32))] [] 0 C X d28_2 (mW 172 rfl) (mW 173 rfl) (mW 4 rfl) (mW 174 rfl) (mW 5 rfl) (mW 175 rfl) E_o3 (rm_a151 l Z a0 hw o3 o5 _ n0 X.sz E_o3 F_o3_starts F_o3_length E_o5 F_o5_size) (lenOf pd__I_I rfl) rfl rfl rfl (fun T v hh X q => ?_)
  obtain ⟨rfl, Kc⟩ := q
  have E_o5 := E_o5.keep Kc
  have F_o5_values := F_o5_values.keep Kc nin0
  have F_o5_size := F_o5_size.keep Kc nin0
  have A_o6 := A_o6.keep Kc nin0
  have E_o3 := E_o3.keep Kc
  have F_o3_starts := F_o3_starts.keep Kc nin0
  have F_o3_length := F_o3_length.keep Kc nin0
  have Kp := Kp.trans Kc all0
  refine Run.cast (st' := [(.int (2 : Int32))]) rfl ?_
  refine s_aloadN 6 C X d28_5 rfl rfl ?_
  refine s_getfield 9 C X (host := "") d28_6 (Or.inl (mW 25 rfl)) Via.refl F_o3_starts (fun T X => ?_)
  refine s_iloadN 10 C X d28_9 rfl ?_
  refine s_callV 13 [(.int (0 : Int32))] [(.int (2 : Int32))] 1 C X d28_10 (mW 165 rfl) (mW 166 rfl) (notFace_of_selects (args := #[]) (mvT C.2.1 (C.w (mW 168 rfl)))) (mW 168 rfl) (mW 167 rfl) (mW 17 rfl) (mW 169 rfl) E_o5 (rm_a147 l Z a0 hw o5 o6 k_o6 _ n0 X.sz F_o5_values A_o6) (lenOf pd__I_I rfl) rfl rfl rfl (fun T v hh X q => ?_)
  obtain ⟨rfl, Kc⟩ := q
  have E_o5 := E_o5.keep Kc
  have F_o5_values := F_o5_values.keep Kc nin0
  have F_o5_size := F_o5_size.keep Kc nin0
  have A_o6 := A_o6.keep Kc nin0
  have E_o3 := E_o3.keep Kc
  have F_o3_starts := F_o3_starts.keep Kc nin0
  have F_o3_length := F_o3_length.keep Kc nin0
  have Kp := Kp.trans Kc all0
  refine Run.cast (st' := [(.int (0 : Int32)), (.int (2 : Int32))]) rfl ?_
  refine s_isub 14 C X d28_13 ?_
  refine Run.cast (st' := [(.int (2 : Int32))]) (by rw [kf_45]) ?_
  refine s_ireturn C X d28_14 rfl ?_
  exact ⟨rfl, Kp⟩
set_option maxRecDepth 65536 in
set_option maxHeartbeats 40000000 in
theorem rm_a233 (l : Launch) (Z : State) (a0 : Array Value) (hw : ∀ d ∈ tables_1, d.before a0 Z = true) (o2 : Addr) (o3 : Addr) (k_o2 : ClassId) (o4 : Addr) (o5 : Addr) (k_o4 : ClassId) (o6 : Addr) (k_o6 : ClassId) (o8 : Addr) (o11 : Addr) (o31 : Addr) (o81 : Addr) (h0 : Heap) (n0 : Nat) (Z0 : n0 ≤ h0.size) (A_o2 : Arv Z h0 o2 k_o2 .long (1 : Int32) [(.long (2 : Int64))] (.long (0 : Int64))) (A_o4 : Arv Z h0 o4 k_o4 .byte (4096 : Int32) [(.int (0 : Int32)), (.int (1 : Int32)), (.int (0 : Int32)), (.int (0 : Int32)), (.int (0 : Int32)), (.int (0 : Int32))] (.int (0 : Int32))) (E_o5 : Exa Z h0 o5 "com/example/eventloom/eventloom/net/IntList") (F_o5_values : Fld Z h0 o5 "com/example/eventloom/eventloom/net/IntList" "values" "[I" (.ref o6)) (F_o5_size : Fld Z h0 o5 "com/example/eventloom/eventloom/net/IntList" "size" "I" (.int (1 : Int32))) (A_o6 : Arv Z h0 o6 k_o6 .int (16 : Int32) [(.int (0 : Int32)), (.int (0 : Int32)), (.int (0 : Int32)), (.int (0 : Int32)), (.int (0 : Int32)), (.int (0 : Int32)), (.int (0 : Int32)), (.int (0 : Int32)), (.int (0 : Int32)), (.int (0 : Int32)), (.int (0 : Int32)), (.int (0 : Int32)), (.int (0 : Int32)), (.int (0 : Int32)), (.int (0 : Int32)), (.int (0 : Int32))] (.int (0 : Int32))) (E_o3 : Exa Z h0 o3 "com/example/eventloom/eventloom/net/MarkingStore") (F_o3_bytes : Fld Z h0 o3 "com/example/eventloom/eventloom/net/MarkingStore" "bytes" "[B" (.ref o4)) (F_o3_starts : Fld Z h0 o3 "com/example/eventloom/eventloom/net/MarkingStore" "starts" "Lcom/example/eventloom/eventloom/net/IntList;" (.ref o5)) (F_o3_hashes : Fld Z h0 o3 "com/example/eventloom/eventloom/net/MarkingStore" "hashes" "Lcom/example/eventloom/eventloom/net/IntList;" (.ref o8)) (F_o3_table : Fld Z h0 o3 "com/example/eventloom/eventloom/net/MarkingStore" "table" "[I" (.ref o11)) (F_o3_encoded : Fld Z h0 o3 "com/example/eventloom/eventloom/net/MarkingStore" "encoded" "[B" (.ref o31)) (F_o3_encodedLength : Fld Z h0 o3 "com/example/eventloom/eventloom/net/MarkingStore" "encodedLength" "I" (.int (2 : Int32))) (F_o3_encodedHash : Fld Z h0 o3 "com/example/eventloom/eventloom/net/MarkingStore" "encodedHash" "I" (.int (962 : Int32))) (F_o3_length : Fld Z h0 o3 "com/example/eventloom/eventloom/net/MarkingStore" "length" "I" (.int (2 : Int32))) (F_o3_position : Fld Z h0 o3 "com/example/eventloom/eventloom/net/MarkingStore" "position" "I" (.int (2 : Int32))) (ne_o2_o3 : o2 ≠ o3) (g_o3 : n0 ≤ o3) (ne_o3_o4 : o3 ≠ o4) (ne_o3_o5 : o3 ≠ o5) (ne_o3_o6 : o3 ≠ o6) :
    Met l Z (⟨"com/example/eventloom/eventloom/net/MarkingStore", "uncovered", "(I[J[I)I"⟩ : MethodName) prog_86_method_7_code 11 (some .int) { frames := 3, cells := 0, slots := 0, locals := 38 } [] #[(.ref o3), (.int (0 : Int32)), (.ref o2), (.ref o81)] h0 n0 (fun v h => v = some (.int (-1 : Int32)) ∧ Keep h0 h [o3] ∧ Exa Z h o3 "com/example/eventloom/eventloom/net/MarkingStore" ∧ Fld Z h o3 "com/example/eventloom/eventloom/net/MarkingStore" "bytes" "[B" (.ref o4) ∧ Fld Z h o3 "com/example/eventloom/eventloom/net/MarkingStore" "starts" "Lcom/example/eventloom/eventloom/net/IntList;" (.ref o5) ∧ Fld Z h o3 "com/example/eventloom/eventloom/net/MarkingStore" "hashes" "Lcom/example/eventloom/eventloom/net/IntList;" (.ref o8) ∧ Fld Z h o3 "com/example/eventloom/eventloom/net/MarkingStore" "table" "[I" (.ref o11) ∧ Fld Z h o3 "com/example/eventloom/eventloom/net/MarkingStore" "encoded" "[B" (.ref o31) ∧ Fld Z h o3 "com/example/eventloom/eventloom/net/MarkingStore" "encodedLength" "I" (.int (2 : Int32)) ∧ Fld Z h o3 "com/example/eventloom/eventloom/net/MarkingStore" "encodedHash" "I" (.int (962 : Int32)) ∧ Fld Z h o3 "com/example/eventloom/eventloom/net/MarkingStore" "length" "I" (.int (2 : Int32)) ∧ Fld Z h o3 "com/example/eventloom/eventloom/net/MarkingStore" "position" "I" (.int (2 : Int32))) := by
  refine Met.mk (tabs := tables_1) (a0 := a0) (ls0 := #[.val (.ref o3), .val (.int (0 : Int32)), .val (.ref o2), .val (.ref o81), .unset, .unset, .unset, .unset, .unset, .unset, .unset]) (plainFor_of_name pn_com_example_eventloom_eventloom_net_MarkingStore) hw Z0 (fun m => by first | (simp [entryFrame, mkF, argsToLocals, Value.category]; done) | rfl) ?_
  intro p e s m below meth c T C X
  have Kp : Keep h0 h0 [o3] := Keep.refl _ _
  refine s_aloadN 1 C X d29_0 rfl rfl ?_
  refine s_aloadN 2 C X d29_1 rfl rfl ?_
  refine s_getfield 5 C X (host := "") d29_2 (Or.inl (mW 25 rfl)) Via.refl F_o3_starts (fun T X => ?_)
  refine s_iloadN 6 C X d29_5 rfl ?_
  refine s_callV 9 [(.int (0 : Int32))] [(.ref o3)] 1 C X d29_6 (mW 165 rfl) (mW 166 rfl) (notFace_of_selects (args := #[]) (mvT C.2.1 (C.w (mW 168 rfl)))) (mW 168 rfl) (mW 167 rfl) (mW 17 rfl) (mW 169 rfl) E_o5 (rm_a147 l Z a0 hw o5 o6 k_o6 _ n0 X.sz F_o5_values A_o6) (lenOf pd__I_I rfl) rfl rfl rfl (fun T v hh X q => ?_)
  obtain ⟨rfl, Kc⟩ := q
  have A_o2 := A_o2.keep Kc nin0
  have A_o4 := A_o4.keep Kc nin0
  have E_o5 := E_o5.keep Kc
  have F_o5_values := F_o5_values.keep Kc nin0
  have F_o5_size := F_o5_size.keep Kc nin0
  have A_o6 := A_o6.keep Kc nin0
  have E_o3 := E_o3.keep Kc
  have F_o3_bytes := F_o3_bytes.keep Kc nin0
  have F_o3_starts := F_o3_starts.keep Kc nin0
  have F_o3_hashes := F_o3_hashes.keep Kc nin0
  have F_o3_table := F_o3_table.keep Kc nin0
  have F_o3_encoded := F_o3_encoded.keep Kc nin0
  have F_o3_encodedLength := F_o3_encodedLength.keep Kc nin0
  have F_o3_encodedHash := F_o3_encodedHash.keep Kc nin0
  have F_o3_length := F_o3_length.keep Kc nin0
  have F_o3_position := F_o3_position.keep Kc nin0
  have Kp := Kp.trans Kc all0
  refine Run.cast (st' := [(.int (0 : Int32)), (.ref o3)]) rfl ?_
  refine s_putfield 12 C X (host := "") d29_9 (Or.inl (mW 170 rfl)) Via.refl F_o3_position E_o3 (Or.inl (mW 171 rfl)) (mW 4 rfl) (ty := .int) (by decide) rfl rfl g_o3 (fun T hh X W => ?_)
  have A_o2 := A_o2.other W ne_o2_o3
  have A_o4 := A_o4.other W (Ne.symm ne_o3_o4)
  have E_o5 := E_o5.wr W
  have F_o5_values := F_o5_values.other W (Or.inl (Ne.symm ne_o3_o5))
  have F_o5_size := F_o5_size.other W (Or.inl (Ne.symm ne_o3_o5))
  have A_o6 := A_o6.other W (Ne.symm ne_o3_o6)
  have E_o3 := E_o3.wr W
  have F_o3_bytes := oth F_o3_bytes W (Or.inl (hw _ (mW 14 rfl))) (Or.inl (hw _ (mW 171 rfl))) (by decide)
  have F_o3_starts := oth F_o3_starts W (Or.inr (hw _ (mW 26 rfl))) (Or.inl (hw _ (mW 171 rfl))) (by decide)
  have F_o3_hashes := oth F_o3_hashes W (Or.inr (hw _ (mW 28 rfl))) (Or.inl (hw _ (mW 171 rfl))) (by decide)
  have F_o3_table := oth F_o3_table W (Or.inl (hw _ (mW 37 rfl))) (Or.inl (hw _ (mW 171 rfl))) (by decide)
  have F_o3_encoded := oth F_o3_encoded W (Or.inl (hw _ (mW 39 rfl))) (Or.inl (hw _ (mW 171 rfl))) (by decide)
  have F_o3_encodedLength := oth F_o3_encodedLength W (Or.inl (hw _ (mW 50 rfl))) (Or.inl (hw _ (mW 171 rfl))) (by decide)
  have F_o3_encodedHash := oth F_o3_encodedHash W (Or.inl (hw _ (mW 57 rfl))) (Or.inl (hw _ (mW 171 rfl))) (by decide)
  have F_o3_length := oth F_o3_length W (Or.inl (hw _ (mW 80 rfl))) (Or.inl (hw _ (mW 171 rfl))) (by decide)
  have F_o3_position := F_o3_position.same W
  have Kp := Kp.wr W (Or.inl (by simp))
  refine s_aloadN 13 C X d29_12 rfl rfl ?_
  refine s_iloadN 14 C X d29_13 rfl ?_
  refine s_callPI 17 [(.int (0 : Int32))] [] 0 C X d29_14 (mW 172 rfl) (mW 173 rfl) (mW 4 rfl) (mW 174 rfl) (mW 5 rfl) (mW 175 rfl) E_o3 (rm_a151 l Z a0 hw o3 o5 _ n0 X.sz E_o3 F_o3_starts F_o3_length E_o5 F_o5_size) (lenOf pd__I_I rfl) rfl rfl rfl (fun T v hh X q => ?_)
  obtain ⟨rfl, Kc⟩ := q
  have A_o2 := A_o2.keep Kc nin0
  have A_o4 := A_o4.keep Kc nin0
  have E_o5 := E_o5.keep Kc
  have F_o5_values := F_o5_values.keep Kc nin0
  have F_o5_size := F_o5_size.keep Kc nin0
  have A_o6 := A_o6.keep Kc nin0
  have E_o3 := E_o3.keep Kc
  have F_o3_bytes := F_o3_bytes.keep Kc nin0
  have F_o3_starts := F_o3_starts.keep Kc nin0
  have F_o3_hashes := F_o3_hashes.keep Kc nin0
  have F_o3_table := F_o3_table.keep Kc nin0
  have F_o3_encoded := F_o3_encoded.keep Kc nin0
  have F_o3_encodedLength := F_o3_encodedLength.keep Kc nin0
  have F_o3_encodedHash := F_o3_encodedHash.keep Kc nin0
  have F_o3_length := F_o3_length.keep Kc nin0
  have F_o3_position := F_o3_position.keep Kc nin0
  have Kp := Kp.trans Kc all0
  refine Run.cast (st' := [(.int (2 : Int32))]) rfl ?_
  refine s_istore 19 C X (l' := #[.val (.ref o3), .val (.int (0 : Int32)), .val (.ref o2), .val (.ref o81), .val (.int (2 : Int32)), .unset, .unset, .unset, .unset, .unset, .unset]) d29_17 rfl ?_
  refine s_iconst 20 C X d29_19 kc_iconst_0 ?_
  refine s_istore 22 C X (l' := #[.val (.ref o3), .val (.int (0 : Int32)), .val (.ref o2), .val (.ref o81), .val (.int (2 : Int32)), .val (.int (0 : Int32)), .unset, .unset, .unset, .unset, .unset]) d29_20 rfl ?_
  refine s_iconst 23 C X d29_22 kc_iconst_1 ?_
  refine s_istore 25 C X (l' := #[.val (.ref o3), .val (.int (0 : Int32)), .val (.ref o2), .val (.ref o81), .val (.int (2 : Int32)), .val (.int (0 : Int32)), .val (.int (1 : Int32)), .unset, .unset, .unset, .unset]) d29_23 rfl ?_
  refine s_iconst 26 C X d29_25 kc_iconst_m1 ?_
  refine s_istore 28 C X (l' := #[.val (.ref o3), .val (.int (0 : Int32)), .val (.ref o2), .val (.ref o81), .val (.int (2 : Int32)), .val (.int (0 : Int32)), .val (.int (1 : Int32)), .val (.int (-1 : Int32)), .unset, .unset, .unset]) d29_26 rfl ?_
  refine s_iconst 29 C X d29_28 kc_iconst_0 ?_
  refine s_istore 31 C X (l' := #[.val (.ref o3), .val (.int (0 : Int32)), .val (.ref o2), .val (.ref o81), .val (.int (2 : Int32)), .val (.int (0 : Int32)), .val (.int (1 : Int32)), .val (.int (-1 : Int32)), .val (.int (0 : Int32)), .unset, .unset]) d29_29 rfl ?_
  refine s_aloadN 32 C X d29_31 rfl rfl ?_
  refine s_getfield 35 C X (host := "") d29_32 (Or.inl (mW 170 rfl)) Via.refl F_o3_position (fun T X => ?_)
  refine s_iload 37 C X d29_35 rfl ?_
  refine s_icmp_ge 101 40 C X d29_37 (fun c => absurd (by decide : (0 : Int32) < (2 : Int32)) c) (fun _ => ?_)
  refine s_iload 42 C X d29_40 rfl ?_
  refine s_aloadN 43 C X d29_42 rfl rfl ?_
  refine s_callPI 46 [] [(.int (-1 : Int32))] 1 C X d29_43 (mW 176 rfl) (mW 177 rfl) (mW 4 rfl) (mW 178 rfl) (mW 5 rfl) (mW 179 rfl) E_o3 (rm_a154 l Z a0 hw o3 o4 o5 k_o4 o8 o11 o31 _ n0 X.sz E_o3 F_o3_bytes F_o3_starts F_o3_hashes F_o3_table F_o3_encoded F_o3_encodedLength F_o3_encodedHash F_o3_length F_o3_position A_o4 g_o3 ne_o3_o4) (lenOf pd___J rfl) rfl rfl rfl (fun T v hh X q => ?_)
  obtain ⟨rfl, E_o3, F_o3_bytes, F_o3_starts, F_o3_hashes, F_o3_table, F_o3_encoded, F_o3_encodedLength, F_o3_encodedHash, F_o3_length, F_o3_position, Kc⟩ := q
  have A_o2 := A_o2.keep Kc (ninS ne_o2_o3 nin0)
  have A_o4 := A_o4.keep Kc (ninS (Ne.symm ne_o3_o4) nin0)
  have E_o5 := E_o5.keep Kc
  have F_o5_values := F_o5_values.keep Kc (ninS (Ne.symm ne_o3_o5) nin0)
  have F_o5_size := F_o5_size.keep Kc (ninS (Ne.symm ne_o3_o5) nin0)
  have A_o6 := A_o6.keep Kc (ninS (Ne.symm ne_o3_o6) nin0)
  have Kp := Kp.trans Kc (allS (Or.inl (by simp)) all0)
  refine Run.cast (st' := [(.long (0 : Int64)), (.int (-1 : Int32))]) rfl ?_
  refine s_l2i 47 C X d29_46 ?_
  refine Run.cast (st' := [(.int (0 : Int32)), (.int (-1 : Int32))]) (by rw [kf_8]) ?_
  refine s_iconst 48 C X d29_47 kc_iconst_1 ?_
  refine s_iadd 49 C X d29_48 ?_
  refine Run.cast (st' := [(.int (1 : Int32)), (.int (-1 : Int32))]) (by rw [kf_7]) ?_
  refine s_iadd 50 C X d29_49 ?_
  refine Run.cast (st' := [(.int (0 : Int32))]) (by rw [kf_36]) ?_
  refine s_istore 52 C X (l' := #[.val (.ref o3), .val (.int (0 : Int32)), .val (.ref o2), .val (.ref o81), .val (.int (2 : Int32)), .val (.int (0 : Int32)), .val (.int (1 : Int32)), .val (.int (0 : Int32)), .val (.int (0 : Int32)), .unset, .unset]) d29_50 rfl ?_
  refine s_aloadN 53 C X d29_52 rfl rfl ?_
  refine s_callPI 56 [] [] 0 C X d29_53 (mW 176 rfl) (mW 177 rfl) (mW 4 rfl) (mW 178 rfl) (mW 5 rfl) (mW 179 rfl) E_o3 (rm_a156 l Z a0 hw o3 o4 o5 k_o4 o8 o11 o31 _ n0 X.sz A_o4 E_o3 F_o3_bytes F_o3_starts F_o3_hashes F_o3_table F_o3_encoded F_o3_encodedLength F_o3_encodedHash F_o3_length F_o3_position g_o3 ne_o3_o4) (lenOf pd___J rfl) rfl rfl rfl (fun T v hh X q => ?_)
  obtain ⟨rfl, E_o3, F_o3_bytes, F_o3_starts, F_o3_hashes, F_o3_table, F_o3_encoded, F_o3_encodedLength, F_o3_encodedHash, F_o3_length, F_o3_position, Kc⟩ := q
  have A_o2 := A_o2.keep Kc (ninS ne_o2_o3 nin0)
  have A_o4 := A_o4.keep Kc (ninS (Ne.symm ne_o3_o4) nin0)
  have E_o5 := E_o5.keep Kc
  have F_o5_values := F_o5_values.keep Kc (ninS (Ne.symm ne_o3_o5) nin0)
  have F_o5_size := F_o5_size.keep Kc (ninS (Ne.symm ne_o3_o5) nin0)
  have A_o6 := A_o6.keep Kc (ninS (Ne.symm ne_o3_o6) nin0)
  have Kp := Kp.trans Kc (allS (Or.inl (by simp)) all0)
  refine Run.cast (st' := [(.long (1 : Int64))]) rfl ?_
  refine s_lstore 58 C X (l' := #[.val (.ref o3), .val (.int (0 : Int32)), .val (.ref o2), .val (.ref o81), .val (.int (2 : Int32)), .val (.int (0 : Int32)), .val (.int (1 : Int32)), .val (.int (0 : Int32)), .val (.int (0 : Int32)), .val (.long (1 : Int64)), .second]) d29_56 rfl ?_
  refine s_aloadN 59 C X d29_58 rfl rfl ?_
  refine s_iload 61 C X d29_59 rfl ?_
  refine s_laload 62 C X d29_61 A_o2 ⟨by decide, by decide⟩ (v := (.long (2 : Int64))) rfl ?_
  refine s_lconst 63 C X (z := (0 : Int64)) d29_62 rfl ?_
  refine s_lcmp 64 C X d29_63 ?_
  refine Run.cast (st' := [(.int (1 : Int32))]) (by rw [kf_47]) ?_
  refine s_if_ne 82 67 C X d29_64 (fun _ => ?_) (fun c => absurd c (by decide))
  refine s_aloadN 83 C X d29_82 rfl rfl ?_
  refine s_iload 85 C X d29_83 rfl ?_
  refine s_laload 86 C X d29_85 A_o2 ⟨by decide, by decide⟩ (v := (.long (2 : Int64))) rfl ?_
  refine s_lload 88 C X d29_86 rfl ?_
  refine s_lcmp 89 C X d29_88 ?_
  refine Run.cast (st' := [(.int (1 : Int32))]) (by rw [kf_48]) ?_
  refine s_if_ge 95 92 C X d29_89 (fun _ => ?_) (fun c => absurd c (by decide))
  refine s_iinc 98 C X (l' := #[.val (.ref o3), .val (.int (0 : Int32)), .val (.ref o2), .val (.ref o81), .val (.int (2 : Int32)), .val (.int (0 : Int32)), .val (.int (1 : Int32)), .val (.int (0 : Int32)), .val (.int (1 : Int32)), .val (.long (1 : Int64)), .second]) d29_95 kc_iconst_1 rfl rfl ?_
  refine s_goto 31 C X d29_98 ?_
  refine s_aloadN 32 C X d29_31 rfl rfl ?_
  refine s_getfield 35 C X (host := "") d29_32 (Or.inl (mW 170 rfl)) Via.refl F_o3_position (fun T X => ?_)
  refine s_iload 37 C X d29_35 rfl ?_
  refine s_icmp_ge 101 40 C X d29_37 (fun _ => ?_) (fun c => absurd c (by decide))
  refine s_iload 103 C X d29_101 rfl ?_
  refine s_if_eq 110 106 C X d29_103 (fun c => absurd c (by decide)) (fun _ => ?_)
  refine s_iconst 107 C X d29_106 kc_iconst_m1 ?_
  refine s_goto 112 C X d29_107 ?_
  refine s_ireturn C X d29_112 rfl ?_
  exact ⟨rfl, Kp, E_o3, F_o3_bytes, F_o3_starts, F_o3_hashes, F_o3_table, F_o3_encoded, F_o3_encodedLength, F_o3_encodedHash, F_o3_length, F_o3_position⟩
set_option maxRecDepth 65536 in
set_option maxHeartbeats 40000000 in
theorem rm_a235 (l : Launch) (Z : State) (a0 : Array Value) (hw : ∀ d ∈ tables_1, d.before a0 Z = true) (x0 : Int32) (o2 : Addr) (o3 : Addr) (k_o2 : ClassId) (o4 : Addr) (o5 : Addr) (k_o4 : ClassId) (o6 : Addr) (k_o6 : ClassId) (o8 : Addr) (o11 : Addr) (o31 : Addr) (o60 : Addr) (o65 : Addr) (o66 : Addr) (o67 : Addr) (k_o66 : ClassId) (o70 : Addr) (o73 : Addr) (o76 : Addr) (o77 : Addr) (o78 : Addr) (o79 : Addr) (o80 : Addr) (o81 : Addr) (gst : Int64) (gst : Int64) (h0 : Heap) (n0 : Nat) (Z0 : n0 ≤ h0.size) (A_o2 : Arv Z h0 o2 k_o2 .long (1 : Int32) [(.long (2 : Int64))] (.long (0 : Int64))) (A_o4 : Arv Z h0 o4 k_o4 .byte (4096 : Int32) [(.int (0 : Int32)), (.int (1 : Int32)), (.int (0 : Int32)), (.int (0 : Int32)), (.int (0 : Int32)), (.int (0 : Int32))] (.int (0 : Int32))) (E_o5 : Exa Z h0 o5 "com/example/eventloom/eventloom/net/IntList") (F_o5_values : Fld Z h0 o5 "com/example/eventloom/eventloom/net/IntList" "values" "[I" (.ref o6)) (F_o5_size : Fld Z h0 o5 "com/example/eventloom/eventloom/net/IntList" "size" "I" (.int (1 : Int32))) (A_o6 : Arv Z h0 o6 k_o6 .int (16 : Int32) [(.int (0 : Int32)), (.int (0 : Int32)), (.int (0 : Int32)), (.int (0 : Int32)), (.int (0 : Int32)), (.int (0 : Int32)), (.int (0 : Int32)), (.int (0 : Int32)), (.int (0 : Int32)), (.int (0 : Int32)), (.int (0 : Int32)), (.int (0 : Int32)), (.int (0 : Int32)), (.int (0 : Int32)), (.int (0 : Int32)), (.int (0 : Int32))] (.int (0 : Int32))) (E_o65 : Exa Z h0 o65 "com/example/eventloom/eventloom/verification/CoverSearch") (F_o65_tokens : Fld Z h0 o65 "com/example/eventloom/eventloom/verification/CoverSearch" "tokens" "[J" (.ref o66)) (F_o65_nearestFewer : Fld Z h0 o65 "com/example/eventloom/eventloom/verification/CoverSearch" "nearestFewer" "Lcom/example/eventloom/eventloom/net/IntList;" (.ref o67)) (F_o65_nearestUnmarked : Fld Z h0 o65 "com/example/eventloom/eventloom/verification/CoverSearch" "nearestUnmarked" "Lcom/example/eventloom/eventloom/verification/IntBlockList;" (.ref o70)) (F_o65_firstNearestUnmarked : Fld Z h0 o65 "com/example/eventloom/eventloom/verification/CoverSearch" "firstNearestUnmarked" "Lcom/example/eventloom/eventloom/net/IntList;" (.ref o73)) (F_o65_markings : Fld Z h0 o65 "com/example/eventloom/eventloom/verification/CoverSearch" "markings" "Lcom/example/eventloom/eventloom/net/MarkingStore;" (.ref o3)) (F_o65_parents : Fld Z h0 o65 "com/example/eventloom/eventloom/verification/CoverSearch" "parents" "Lcom/example/eventloom/eventloom/net/IntList;" (.ref o60)) (F_o65_stepsPerMarking : Fld Z h0 o65 "com/example/eventloom/eventloom/verification/CoverSearch" "stepsPerMarking" "I" (.int x0)) (F_o65_searchedMarking : Fld Z h0 o65 "com/example/eventloom/eventloom/verification/CoverSearch" "searchedMarking" "[J" (.ref o76)) (F_o65_searchedPlaces : Fld Z h0 o65 "com/example/eventloom/eventloom/verification/CoverSearch" "searchedPlaces" "[I" (.ref o77)) (F_o65_searchedTokens : Fld Z h0 o65 "com/example/eventloom/eventloom/verification/CoverSearch" "searchedTokens" "[J" (.ref o78)) (F_o65_parentPlaces : Fld Z h0 o65 "com/example/eventloom/eventloom/verification/CoverSearch" "parentPlaces" "[I" (.ref o79)) (F_o65_parentTokens : Fld Z h0 o65 "com/example/eventloom/eventloom/verification/CoverSearch" "parentTokens" "[J" (.ref o80)) (F_o65_unmarkedRanks : Fld Z h0 o65 "com/example/eventloom/eventloom/verification/CoverSearch" "unmarkedRanks" "[I" (.ref o81)) (F_o65_searched : Fld Z h0 o65 "com/example/eventloom/eventloom/verification/CoverSearch" "searched" "I" (.int (1 : Int32))) (F_o65_steps : Fld Z h0 o65 "com/example/eventloom/eventloom/verification/CoverSearch" "steps" "J" (.long gst)) (A_o66 : Arv Z h0 o66 k_o66 .long (16 : Int32) [(.long (1 : Int64)), (.long (0 : Int64)), (.long (0 : Int64)), (.long (0 : Int64)), (.long (0 : Int64)), (.long (0 : Int64)), (.long (0 : Int64)), (.long (0 : Int64)), (.long (0 : Int64)), (.long (0 : Int64)), (.long (0 : Int64)), (.long (0 : Int64)), (.long (0 : Int64)), (.long (0 : Int64)), (.long (0 : Int64)), (.long (0 : Int64))] (.long (0 : Int64))) (E_o3 : Exa Z h0 o3 "com/example/eventloom/eventloom/net/MarkingStore") (F_o3_bytes : Fld Z h0 o3 "com/example/eventloom/eventloom/net/MarkingStore" "bytes" "[B" (.ref o4)) (F_o3_starts : Fld Z h0 o3 "com/example/eventloom/eventloom/net/MarkingStore" "starts" "Lcom/example/eventloom/eventloom/net/IntList;" (.ref o5)) (F_o3_hashes : Fld Z h0 o3 "com/example/eventloom/eventloom/net/MarkingStore" "hashes" "Lcom/example/eventloom/eventloom/net/IntList;" (.ref o8)) (F_o3_table : Fld Z h0 o3 "com/example/eventloom/eventloom/net/MarkingStore" "table" "[I" (.ref o11)) (F_o3_encoded : Fld Z h0 o3 "com/example/eventloom/eventloom/net/MarkingStore" "encoded" "[B" (.ref o31)) (F_o3_encodedLength : Fld Z h0 o3 "com/example/eventloom/eventloom/net/MarkingStore" "encodedLength" "I" (.int (2 : Int32))) (F_o3_encodedHash : Fld Z h0 o3 "com/example/eventloom/eventloom/net/MarkingStore" "encodedHash" "I" (.int (962 : Int32))) (F_o3_length : Fld Z h0 o3 "com/example/eventloom/eventloom/net/MarkingStore" "length" "I" (.int (2 : Int32))) (F_o3_position : Fld Z h0 o3 "com/example/eventloom/eventloom/net/MarkingStore" "position" "I" (.int (2 : Int32))) (ne_o2_o3 : o2 ≠ o3) (g_o3 : n0 ≤ o3) (ne_o3_o4 : o3 ≠ o4) (ne_o3_o5 : o3 ≠ o5) (ne_o3_o6 : o3 ≠ o6) (ne_o2_o65 : o2 ≠ o65) (ne_o3_o65 : o3 ≠ o65) (ne_o4_o65 : o4 ≠ o65) (ne_o5_o65 : o5 ≠ o65) (ne_o6_o65 : o6 ≠ o65) (g_o65 : n0 ≤ o65) (ne_o3_o66 : o3 ≠ o66) (ne_o65_o66 : o65 ≠ o66) :
    Met l Z (⟨"com/example/eventloom/eventloom/verification/CoverSearch", "walk", "([JJI)I"⟩ : MethodName) prog_117_method_6_code 11 (some .int) { frames := 4, cells := 0, slots := 0, locals := 60 } [] #[(.ref o65), (.ref o2), (.long (2 : Int64)), (.int (0 : Int32))] h0 n0 (fun v h => v = some (.int (-2 : Int32)) ∧ Exa Z h o65 "com/example/eventloom/eventloom/verification/CoverSearch" ∧ Fld Z h o65 "com/example/eventloom/eventloom/verification/CoverSearch" "tokens" "[J" (.ref o66) ∧ Fld Z h o65 "com/example/eventloom/eventloom/verification/CoverSearch" "nearestFewer" "Lcom/example/eventloom/eventloom/net/IntList;" (.ref o67) ∧ Fld Z h o65 "com/example/eventloom/eventloom/verification/CoverSearch" "nearestUnmarked" "Lcom/example/eventloom/eventloom/verification/IntBlockList;" (.ref o70) ∧ Fld Z h o65 "com/example/eventloom/eventloom/verification/CoverSearch" "firstNearestUnmarked" "Lcom/example/eventloom/eventloom/net/IntList;" (.ref o73) ∧ Fld Z h o65 "com/example/eventloom/eventloom/verification/CoverSearch" "markings" "Lcom/example/eventloom/eventloom/net/MarkingStore;" (.ref o3) ∧ Fld Z h o65 "com/example/eventloom/eventloom/verification/CoverSearch" "parents" "Lcom/example/eventloom/eventloom/net/IntList;" (.ref o60) ∧ Fld Z h o65 "com/example/eventloom/eventloom/verification/CoverSearch" "stepsPerMarking" "I" (.int x0) ∧ Fld Z h o65 "com/example/eventloom/eventloom/verification/CoverSearch" "searchedMarking" "[J" (.ref o76) ∧ Fld Z h o65 "com/example/eventloom/eventloom/verification/CoverSearch" "searchedPlaces" "[I" (.ref o77) ∧ Fld Z h o65 "com/example/eventloom/eventloom/verification/CoverSearch" "searchedTokens" "[J" (.ref o78) ∧ Fld Z h o65 "com/example/eventloom/eventloom/verification/CoverSearch" "parentPlaces" "[I" (.ref o79) ∧ Fld Z h o65 "com/example/eventloom/eventloom/verification/CoverSearch" "parentTokens" "[J" (.ref o80) ∧ Fld Z h o65 "com/example/eventloom/eventloom/verification/CoverSearch" "unmarkedRanks" "[I" (.ref o81) ∧ Fld Z h o65 "com/example/eventloom/eventloom/verification/CoverSearch" "searched" "I" (.int (1 : Int32)) ∧ Fld Z h o65 "com/example/eventloom/eventloom/verification/CoverSearch" "steps" "J" (.long ((gst - (1 : Int64)) - (2 : Int64))) ∧ Keep h0 h [o65, o3] ∧ Exa Z h o3 "com/example/eventloom/eventloom/net/MarkingStore" ∧ Fld Z h o3 "com/example/eventloom/eventloom/net/MarkingStore" "bytes" "[B" (.ref o4) ∧ Fld Z h o3 "com/example/eventloom/eventloom/net/MarkingStore" "starts" "Lcom/example/eventloom/eventloom/net/IntList;" (.ref o5) ∧ Fld Z h o3 "com/example/eventloom/eventloom/net/MarkingStore" "hashes" "Lcom/example/eventloom/eventloom/net/IntList;" (.ref o8) ∧ Fld Z h o3 "com/example/eventloom/eventloom/net/MarkingStore" "table" "[I" (.ref o11) ∧ Fld Z h o3 "com/example/eventloom/eventloom/net/MarkingStore" "encoded" "[B" (.ref o31) ∧ Fld Z h o3 "com/example/eventloom/eventloom/net/MarkingStore" "encodedLength" "I" (.int (2 : Int32)) ∧ Fld Z h o3 "com/example/eventloom/eventloom/net/MarkingStore" "encodedHash" "I" (.int (962 : Int32)) ∧ Fld Z h o3 "com/example/eventloom/eventloom/net/MarkingStore" "length" "I" (.int (2 : Int32)) ∧ Fld Z h o3 "com/example/eventloom/eventloom/net/MarkingStore" "position" "I" (.int (2 : Int32))) := by
  refine Met.mk (tabs := tables_1) (a0 := a0) (ls0 := #[.val (.ref o65), .val (.ref o2), .val (.long (2 : Int64)), .second, .val (.int (0 : Int32)), .unset, .unset, .unset, .unset, .unset, .unset]) (plainFor_of_name pn_com_example_eventloom_eventloom_verification_CoverSearch) hw Z0 (fun m => by first | (simp [entryFrame, mkF, argsToLocals, Value.category]; done) | rfl) ?_
  intro p e s m below meth c T C X
  have Kp : Keep h0 h0 [o65, o3] := Keep.refl _ _
  refine s_iconst 1 C X d23_0 kc_iconst_m1 ?_
  refine s_istore 3 C X (l' := #[.val (.ref o65), .val (.ref o2), .val (.long (2 : Int64)), .second, .val (.int (0 : Int32)), .val (.int (-1 : Int32)), .unset, .unset, .unset, .unset, .unset]) d23_1 rfl ?_
  refine s_iload 5 C X d23_3 rfl ?_
  refine s_istore 7 C X (l' := #[.val (.ref o65), .val (.ref o2), .val (.long (2 : Int64)), .second, .val (.int (0 : Int32)), .val (.int (-1 : Int32)), .val (.int (0 : Int32)), .unset, .unset, .unset, .unset]) d23_5 rfl ?_
  refine s_iload 9 C X d23_7 rfl ?_
  refine s_if_lt 169 12 C X d23_9 (fun c => absurd c (by decide)) (fun _ => ?_)
  refine s_aloadN 13 C X d23_12 rfl rfl ?_
  refine s_dup 14 C X d23_13 rfl ?_
  refine s_getfield 17 C X (host := "") d23_14 (Or.inl (mW 148 rfl)) Via.refl F_o65_steps (fun T X => ?_)
  refine s_lconst 18 C X (z := (1 : Int64)) d23_17 rfl ?_
  refine s_lsub 19 C X d23_18 ?_
  refine s_putfield 22 C X (host := "") d23_19 (Or.inl (mW 148 rfl)) Via.refl F_o65_steps E_o65 (Or.inl (mW 149 rfl)) (mW 95 rfl) (ty := .long) (by decide) rfl rfl g_o65 (fun T hh X W => ?_)
  have A_o2 := A_o2.other W ne_o2_o65
  have A_o4 := A_o4.other W ne_o4_o65
  have E_o5 := E_o5.wr W
  have F_o5_values := F_o5_values.other W (Or.inl ne_o5_o65)
  have F_o5_size := F_o5_size.other W (Or.inl ne_o5_o65)
  have A_o6 := A_o6.other W ne_o6_o65
  have E_o65 := E_o65.wr W
  have F_o65_tokens := oth F_o65_tokens W (Or.inl (hw _ (mW 102 rfl))) (Or.inl (hw _ (mW 149 rfl))) (by decide)
  have F_o65_nearestFewer := oth F_o65_nearestFewer W (Or.inr (hw _ (mW 106 rfl))) (Or.inl (hw _ (mW 149 rfl))) (by decide)
  have F_o65_nearestUnmarked := oth F_o65_nearestUnmarked W (Or.inr (hw _ (mW 119 rfl))) (Or.inl (hw _ (mW 149 rfl))) (by decide)
  have F_o65_firstNearestUnmarked := oth F_o65_firstNearestUnmarked W (Or.inr (hw _ (mW 121 rfl))) (Or.inl (hw _ (mW 149 rfl))) (by decide)
  have F_o65_markings := oth F_o65_markings W (Or.inr (hw _ (mW 123 rfl))) (Or.inl (hw _ (mW 149 rfl))) (by decide)
  have F_o65_parents := oth F_o65_parents W (Or.inr (hw _ (mW 125 rfl))) (Or.inl (hw _ (mW 149 rfl))) (by decide)
  have F_o65_stepsPerMarking := oth F_o65_stepsPerMarking W (Or.inr (hw _ (mW 127 rfl))) (Or.inl (hw _ (mW 149 rfl))) (by decide)
  have F_o65_searchedMarking := oth F_o65_searchedMarking W (Or.inr (hw _ (mW 129 rfl))) (Or.inl (hw _ (mW 149 rfl))) (by decide)
  have F_o65_searchedPlaces := oth F_o65_searchedPlaces W (Or.inr (hw _ (mW 131 rfl))) (Or.inl (hw _ (mW 149 rfl))) (by decide)
  have F_o65_searchedTokens := oth F_o65_searchedTokens W (Or.inr (hw _ (mW 133 rfl))) (Or.inl (hw _ (mW 149 rfl))) (by decide)
  have F_o65_parentPlaces := oth F_o65_parentPlaces W (Or.inr (hw _ (mW 135 rfl))) (Or.inl (hw _ (mW 149 rfl))) (by decide)
  have F_o65_parentTokens := oth F_o65_parentTokens W (Or.inr (hw _ (mW 137 rfl))) (Or.inl (hw _ (mW 149 rfl))) (by decide)
  have F_o65_unmarkedRanks := oth F_o65_unmarkedRanks W (Or.inr (hw _ (mW 139 rfl))) (Or.inl (hw _ (mW 149 rfl))) (by decide)
  have F_o65_searched := oth F_o65_searched W (Or.inl (hw _ (mW 146 rfl))) (Or.inl (hw _ (mW 149 rfl))) (by decide)
  have F_o65_steps := F_o65_steps.same W
  have A_o66 := A_o66.other W (Ne.symm ne_o65_o66)
  have E_o3 := E_o3.wr W
  have F_o3_bytes := F_o3_bytes.other W (Or.inl ne_o3_o65)
  have F_o3_starts := F_o3_starts.other W (Or.inl ne_o3_o65)
  have F_o3_hashes := F_o3_hashes.other W (Or.inl ne_o3_o65)
  have F_o3_table := F_o3_table.other W (Or.inl ne_o3_o65)
  have F_o3_encoded := F_o3_encoded.other W (Or.inl ne_o3_o65)
  have F_o3_encodedLength := F_o3_encodedLength.other W (Or.inl ne_o3_o65)
  have F_o3_encodedHash := F_o3_encodedHash.other W (Or.inl ne_o3_o65)
  have F_o3_length := F_o3_length.other W (Or.inl ne_o3_o65)
  have F_o3_position := F_o3_position.other W (Or.inl ne_o3_o65)
  have Kp := Kp.wr W (Or.inl (by simp))
  refine s_aloadN 23 C X d23_22 rfl rfl ?_
  refine s_getfield 26 C X (host := "") d23_23 (Or.inl (mW 101 rfl)) Via.refl F_o65_tokens (fun T X => ?_)
  refine s_iload 28 C X d23_26 rfl ?_
  refine s_laload 29 C X d23_28 A_o66 ⟨by decide, by decide⟩ (v := (.long (1 : Int64))) rfl ?_
  refine s_lloadN 30 C X d23_29 rfl ?_
  refine s_lcmp 31 C X d23_30 ?_
  refine Run.cast (st' := [(.int (-1 : Int32))]) (by rw [kf_44]) ?_
  refine s_if_lt 48 34 C X d23_31 (fun _ => ?_) (fun c => absurd (by decide : (-1 : Int32) < (0 : Int32)) c)
  refine s_iload 50 C X d23_48 rfl ?_
  refine s_if_ge 57 53 C X d23_50 (fun c => absurd (by decide : (-1 : Int32) < (0 : Int32)) c) (fun _ => ?_)
  refine s_iload 55 C X d23_53 rfl ?_
  refine s_istore 57 C X (l' := #[.val (.ref o65), .val (.ref o2), .val (.long (2 : Int64)), .second, .val (.int (0 : Int32)), .val (.int (0 : Int32)), .val (.int (0 : Int32)), .unset, .unset, .unset, .unset]) d23_55 rfl ?_
  refine s_aloadN 58 C X d23_57 rfl rfl ?_
  refine s_dup 59 C X d23_58 rfl ?_
  refine s_getfield 62 C X (host := "") d23_59 (Or.inl (mW 148 rfl)) Via.refl F_o65_steps (fun T X => ?_)
  refine s_aloadN 63 C X d23_62 rfl rfl ?_
  refine s_getfield 66 C X (host := "") d23_63 (Or.inl (mW 122 rfl)) Via.refl F_o65_markings (fun T X => ?_)
  refine s_iload 68 C X d23_66 rfl ?_
  refine s_callV 71 [(.int (0 : Int32))] [(.long (gst - (1 : Int64))), (.ref o65)] 3 C X d23_68 (mW 207 rfl) (mW 208 rfl) (notFace_of_selects (args := #[]) (mvT C.2.1 (C.w (mW 210 rfl)))) (mW 210 rfl) (mW 209 rfl) (mW 5 rfl) (mW 211 rfl) E_o3 (rm_a218 l Z a0 hw o3 o5 o6 k_o6 _ n0 X.sz E_o5 F_o5_values F_o5_size A_o6 E_o3 F_o3_starts F_o3_length) (lenOf pd__I_I rfl) rfl rfl rfl (fun T v hh X q => ?_)
  obtain ⟨rfl, Kc⟩ := q
  have A_o2 := A_o2.keep Kc nin0
  have A_o4 := A_o4.keep Kc nin0
  have E_o5 := E_o5.keep Kc
  have F_o5_values := F_o5_values.keep Kc nin0
  have F_o5_size := F_o5_size.keep Kc nin0
  have A_o6 := A_o6.keep Kc nin0
  have E_o65 := E_o65.keep Kc
  have F_o65_tokens := F_o65_tokens.keep Kc nin0
  have F_o65_nearestFewer := F_o65_nearestFewer.keep Kc nin0
  have F_o65_nearestUnmarked := F_o65_nearestUnmarked.keep Kc nin0
  have F_o65_firstNearestUnmarked := F_o65_firstNearestUnmarked.keep Kc nin0
  have F_o65_markings := F_o65_markings.keep Kc nin0
  have F_o65_parents := F_o65_parents.keep Kc nin0
  have F_o65_stepsPerMarking := F_o65_stepsPerMarking.keep Kc nin0
  have F_o65_searchedMarking := F_o65_searchedMarking.keep Kc nin0
  have F_o65_searchedPlaces := F_o65_searchedPlaces.keep Kc nin0
  have F_o65_searchedTokens := F_o65_searchedTokens.keep Kc nin0
  have F_o65_parentPlaces := F_o65_parentPlaces.keep Kc nin0
  have F_o65_parentTokens := F_o65_parentTokens.keep Kc nin0
  have F_o65_unmarkedRanks := F_o65_unmarkedRanks.keep Kc nin0
  have F_o65_searched := F_o65_searched.keep Kc nin0
  have F_o65_steps := F_o65_steps.keep Kc nin0
  have A_o66 := A_o66.keep Kc nin0
  have E_o3 := E_o3.keep Kc
  have F_o3_bytes := F_o3_bytes.keep Kc nin0
  have F_o3_starts := F_o3_starts.keep Kc nin0
  have F_o3_hashes := F_o3_hashes.keep Kc nin0
  have F_o3_table := F_o3_table.keep Kc nin0
  have F_o3_encoded := F_o3_encoded.keep Kc nin0
  have F_o3_encodedLength := F_o3_encodedLength.keep Kc nin0
  have F_o3_encodedHash := F_o3_encodedHash.keep Kc nin0
  have F_o3_length := F_o3_length.keep Kc nin0
  have F_o3_position := F_o3_position.keep Kc nin0
  have Kp := Kp.trans Kc all0
  refine Run.cast (st' := [(.int (2 : Int32)), (.long (gst - (1 : Int64))), (.ref o65)]) rfl ?_
  refine s_i2l 72 C X d23_71 ?_
  refine Run.cast (st' := [(.long (2 : Int64)), (.long (gst - (1 : Int64))), (.ref o65)]) (by rw [kf_46]) ?_
  refine s_lsub 73 C X d23_72 ?_
  refine s_putfield 76 C X (host := "") d23_73 (Or.inl (mW 148 rfl)) Via.refl F_o65_steps E_o65 (Or.inl (mW 149 rfl)) (mW 95 rfl) (ty := .long) (by decide) rfl rfl g_o65 (fun T hh X W => ?_)
  have A_o2 := A_o2.other W ne_o2_o65
  have A_o4 := A_o4.other W ne_o4_o65
  have E_o5 := E_o5.wr W
  have F_o5_values := F_o5_values.other W (Or.inl ne_o5_o65)
  have F_o5_size := F_o5_size.other W (Or.inl ne_o5_o65)
  have A_o6 := A_o6.other W ne_o6_o65
  have E_o65 := E_o65.wr W
  have F_o65_tokens := oth F_o65_tokens W (Or.inl (hw _ (mW 102 rfl))) (Or.inl (hw _ (mW 149 rfl))) (by decide)
  have F_o65_nearestFewer := oth F_o65_nearestFewer W (Or.inr (hw _ (mW 106 rfl))) (Or.inl (hw _ (mW 149 rfl))) (by decide)
  have F_o65_nearestUnmarked := oth F_o65_nearestUnmarked W (Or.inr (hw _ (mW 119 rfl))) (Or.inl (hw _ (mW 149 rfl))) (by decide)
  have F_o65_firstNearestUnmarked := oth F_o65_firstNearestUnmarked W (Or.inr (hw _ (mW 121 rfl))) (Or.inl (hw _ (mW 149 rfl))) (by decide)
  have F_o65_markings := oth F_o65_markings W (Or.inr (hw _ (mW 123 rfl))) (Or.inl (hw _ (mW 149 rfl))) (by decide)
  have F_o65_parents := oth F_o65_parents W (Or.inr (hw _ (mW 125 rfl))) (Or.inl (hw _ (mW 149 rfl))) (by decide)
  have F_o65_stepsPerMarking := oth F_o65_stepsPerMarking W (Or.inr (hw _ (mW 127 rfl))) (Or.inl (hw _ (mW 149 rfl))) (by decide)
  have F_o65_searchedMarking := oth F_o65_searchedMarking W (Or.inr (hw _ (mW 129 rfl))) (Or.inl (hw _ (mW 149 rfl))) (by decide)
  have F_o65_searchedPlaces := oth F_o65_searchedPlaces W (Or.inr (hw _ (mW 131 rfl))) (Or.inl (hw _ (mW 149 rfl))) (by decide)
  have F_o65_searchedTokens := oth F_o65_searchedTokens W (Or.inr (hw _ (mW 133 rfl))) (Or.inl (hw _ (mW 149 rfl))) (by decide)
  have F_o65_parentPlaces := oth F_o65_parentPlaces W (Or.inr (hw _ (mW 135 rfl))) (Or.inl (hw _ (mW 149 rfl))) (by decide)
  have F_o65_parentTokens := oth F_o65_parentTokens W (Or.inr (hw _ (mW 137 rfl))) (Or.inl (hw _ (mW 149 rfl))) (by decide)
  have F_o65_unmarkedRanks := oth F_o65_unmarkedRanks W (Or.inr (hw _ (mW 139 rfl))) (Or.inl (hw _ (mW 149 rfl))) (by decide)
  have F_o65_searched := oth F_o65_searched W (Or.inl (hw _ (mW 146 rfl))) (Or.inl (hw _ (mW 149 rfl))) (by decide)
  have F_o65_steps := F_o65_steps.same W
  have A_o66 := A_o66.other W (Ne.symm ne_o65_o66)
  have E_o3 := E_o3.wr W
  have F_o3_bytes := F_o3_bytes.other W (Or.inl ne_o3_o65)
  have F_o3_starts := F_o3_starts.other W (Or.inl ne_o3_o65)
  have F_o3_hashes := F_o3_hashes.other W (Or.inl ne_o3_o65)
  have F_o3_table := F_o3_table.other W (Or.inl ne_o3_o65)
  have F_o3_encoded := F_o3_encoded.other W (Or.inl ne_o3_o65)
  have F_o3_encodedLength := F_o3_encodedLength.other W (Or.inl ne_o3_o65)
  have F_o3_encodedHash := F_o3_encodedHash.other W (Or.inl ne_o3_o65)
  have F_o3_length := F_o3_length.other W (Or.inl ne_o3_o65)
  have F_o3_position := F_o3_position.other W (Or.inl ne_o3_o65)
  have Kp := Kp.wr W (Or.inl (by simp))
  refine s_aloadN 77 C X d23_76 rfl rfl ?_
  refine s_getfield 80 C X (host := "") d23_77 (Or.inl (mW 122 rfl)) Via.refl F_o65_markings (fun T X => ?_)
  refine s_iload 82 C X d23_80 rfl ?_
  refine s_aloadN 83 C X d23_82 rfl rfl ?_
  refine s_aloadN 84 C X d23_83 rfl rfl ?_
  refine s_getfield 87 C X (host := "") d23_84 (Or.inl (mW 138 rfl)) Via.refl F_o65_unmarkedRanks (fun T X => ?_)
  refine s_callV 90 [(.int (0 : Int32)), (.ref o2), (.ref o81)] [] 0 C X d23_87 (mW 212 rfl) (mW 213 rfl) (notFace_of_selects (args := #[]) (mvT C.2.1 (C.w (mW 215 rfl)))) (mW 215 rfl) (mW 214 rfl) (mW 5 rfl) (mW 216 rfl) E_o3 (rm_a233 l Z a0 hw o2 o3 k_o2 o4 o5 k_o4 o6 k_o6 o8 o11 o31 o81 _ n0 X.sz A_o2 A_o4 E_o5 F_o5_values F_o5_size A_o6 E_o3 F_o3_bytes F_o3_starts F_o3_hashes F_o3_table F_o3_encoded F_o3_encodedLength F_o3_encodedHash F_o3_length F_o3_position ne_o2_o3 g_o3 ne_o3_o4 ne_o3_o5 ne_o3_o6) (lenOf pd__I_J_I_I rfl) rfl rfl rfl (fun T v hh X q => ?_)
  obtain ⟨rfl, Kc, E_o3, F_o3_bytes, F_o3_starts, F_o3_hashes, F_o3_table, F_o3_encoded, F_o3_encodedLength, F_o3_encodedHash, F_o3_length, F_o3_position⟩ := q
  have A_o2 := A_o2.keep Kc (ninS ne_o2_o3 nin0)
  have A_o4 := A_o4.keep Kc (ninS (Ne.symm ne_o3_o4) nin0)
  have E_o5 := E_o5.keep Kc
  have F_o5_values := F_o5_values.keep Kc (ninS (Ne.symm ne_o3_o5) nin0)
  have F_o5_size := F_o5_size.keep Kc (ninS (Ne.symm ne_o3_o5) nin0)
  have A_o6 := A_o6.keep Kc (ninS (Ne.symm ne_o3_o6) nin0)
  have E_o65 := E_o65.keep Kc
  have F_o65_tokens := F_o65_tokens.keep Kc (ninS (Ne.symm ne_o3_o65) nin0)
  have F_o65_nearestFewer := F_o65_nearestFewer.keep Kc (ninS (Ne.symm ne_o3_o65) nin0)
  have F_o65_nearestUnmarked := F_o65_nearestUnmarked.keep Kc (ninS (Ne.symm ne_o3_o65) nin0)
  have F_o65_firstNearestUnmarked := F_o65_firstNearestUnmarked.keep Kc (ninS (Ne.symm ne_o3_o65) nin0)
  have F_o65_markings := F_o65_markings.keep Kc (ninS (Ne.symm ne_o3_o65) nin0)
  have F_o65_parents := F_o65_parents.keep Kc (ninS (Ne.symm ne_o3_o65) nin0)
  have F_o65_stepsPerMarking := F_o65_stepsPerMarking.keep Kc (ninS (Ne.symm ne_o3_o65) nin0)
  have F_o65_searchedMarking := F_o65_searchedMarking.keep Kc (ninS (Ne.symm ne_o3_o65) nin0)
  have F_o65_searchedPlaces := F_o65_searchedPlaces.keep Kc (ninS (Ne.symm ne_o3_o65) nin0)
  have F_o65_searchedTokens := F_o65_searchedTokens.keep Kc (ninS (Ne.symm ne_o3_o65) nin0)
  have F_o65_parentPlaces := F_o65_parentPlaces.keep Kc (ninS (Ne.symm ne_o3_o65) nin0)
  have F_o65_parentTokens := F_o65_parentTokens.keep Kc (ninS (Ne.symm ne_o3_o65) nin0)
  have F_o65_unmarkedRanks := F_o65_unmarkedRanks.keep Kc (ninS (Ne.symm ne_o3_o65) nin0)
  have F_o65_searched := F_o65_searched.keep Kc (ninS (Ne.symm ne_o3_o65) nin0)
  have F_o65_steps := F_o65_steps.keep Kc (ninS (Ne.symm ne_o3_o65) nin0)
  have A_o66 := A_o66.keep Kc (ninS (Ne.symm ne_o3_o66) nin0)
  have Kp := Kp.trans Kc (allS (Or.inl (by simp)) all0)
  refine Run.cast (st' := [(.int (-1 : Int32))]) rfl ?_
  refine s_istore 92 C X (l' := #[.val (.ref o65), .val (.ref o2), .val (.long (2 : Int64)), .second, .val (.int (0 : Int32)), .val (.int (0 : Int32)), .val (.int (0 : Int32)), .val (.int (-1 : Int32)), .unset, .unset, .unset]) d23_90 rfl ?_
  refine s_iload 94 C X d23_92 rfl ?_
  refine s_if_ge 100 97 C X d23_94 (fun c => absurd (by decide : (-1 : Int32) < (0 : Int32)) c) (fun _ => ?_)
  refine s_bipush 99 C X d23_97 kc_bipush_m2 ?_
  refine s_ireturn C X d23_99 rfl ?_
  exact ⟨rfl, E_o65, F_o65_tokens, F_o65_nearestFewer, F_o65_nearestUnmarked, F_o65_firstNearestUnmarked, F_o65_markings, F_o65_parents, F_o65_stepsPerMarking, F_o65_searchedMarking, F_o65_searchedPlaces, F_o65_searchedTokens, F_o65_parentPlaces, F_o65_parentTokens, F_o65_unmarkedRanks, F_o65_searched, F_o65_steps, Kp, E_o3, F_o3_bytes, F_o3_starts, F_o3_hashes, F_o3_table, F_o3_encoded, F_o3_encodedLength, F_o3_encodedHash, F_o3_length, F_o3_position⟩
set_option maxRecDepth 65536 in
set_option maxHeartbeats 40000000 in
theorem rm_a237 (l : Launch) (Z : State) (a0 : Array Value) (hw : ∀ d ∈ tables_1, d.before a0 Z = true) (x0 : Int32) (o2 : Addr) (o3 : Addr) (k_o2 : ClassId) (o4 : Addr) (o5 : Addr) (k_o4 : ClassId) (o6 : Addr) (k_o6 : ClassId) (o8 : Addr) (o11 : Addr) (o31 : Addr) (o60 : Addr) (o65 : Addr) (o66 : Addr) (o67 : Addr) (k_o66 : ClassId) (o70 : Addr) (o73 : Addr) (o76 : Addr) (o77 : Addr) (o78 : Addr) (o79 : Addr) (o80 : Addr) (o81 : Addr) (gst : Int64) (h0 : Heap) (n0 : Nat) (Z0 : n0 ≤ h0.size) (A_o2 : Arv Z h0 o2 k_o2 .long (1 : Int32) [(.long (2 : Int64))] (.long (0 : Int64))) (A_o4 : Arv Z h0 o4 k_o4 .byte (4096 : Int32) [(.int (0 : Int32)), (.int (1 : Int32)), (.int (0 : Int32)), (.int (0 : Int32)), (.int (0 : Int32)), (.int (0 : Int32))] (.int (0 : Int32))) (E_o5 : Exa Z h0 o5 "com/example/eventloom/eventloom/net/IntList") (F_o5_values : Fld Z h0 o5 "com/example/eventloom/eventloom/net/IntList" "values" "[I" (.ref o6)) (F_o5_size : Fld Z h0 o5 "com/example/eventloom/eventloom/net/IntList" "size" "I" (.int (1 : Int32))) (A_o6 : Arv Z h0 o6 k_o6 .int (16 : Int32) [(.int (0 : Int32)), (.int (0 : Int32)), (.int (0 : Int32)), (.int (0 : Int32)), (.int (0 : Int32)), (.int (0 : Int32)), (.int (0 : Int32)), (.int (0 : Int32)), (.int (0 : Int32)), (.int (0 : Int32)), (.int (0 : Int32)), (.int (0 : Int32)), (.int (0 : Int32)), (.int (0 : Int32)), (.int (0 : Int32)), (.int (0 : Int32))] (.int (0 : Int32))) (E_o65 : Exa Z h0 o65 "com/example/eventloom/eventloom/verification/CoverSearch") (F_o65_tokens : Fld Z h0 o65 "com/example/eventloom/eventloom/verification/CoverSearch" "tokens" "[J" (.ref o66)) (F_o65_nearestFewer : Fld Z h0 o65 "com/example/eventloom/eventloom/verification/CoverSearch" "nearestFewer" "Lcom/example/eventloom/eventloom/net/IntList;" (.ref o67)) (F_o65_nearestUnmarked : Fld Z h0 o65 "com/example/eventloom/eventloom/verification/CoverSearch" "nearestUnmarked" "Lcom/example/eventloom/eventloom/verification/IntBlockList;" (.ref o70)) (F_o65_firstNearestUnmarked : Fld Z h0 o65 "com/example/eventloom/eventloom/verification/CoverSearch" "firstNearestUnmarked" "Lcom/example/eventloom/eventloom/net/IntList;" (.ref o73)) (F_o65_markings : Fld Z h0 o65 "com/example/eventloom/eventloom/verification/CoverSearch" "markings" "Lcom/example/eventloom/eventloom/net/MarkingStore;" (.ref o3)) (F_o65_parents : Fld Z h0 o65 "com/example/eventloom/eventloom/verification/CoverSearch" "parents" "Lcom/example/eventloom/eventloom/net/IntList;" (.ref o60)) (F_o65_stepsPerMarking : Fld Z h0 o65 "com/example/eventloom/eventloom/verification/CoverSearch" "stepsPerMarking" "I" (.int x0)) (F_o65_searchedMarking : Fld Z h0 o65 "com/example/eventloom/eventloom/verification/CoverSearch" "searchedMarking" "[J" (.ref o76)) (F_o65_searchedPlaces : Fld Z h0 o65 "com/example/eventloom/eventloom/verification/CoverSearch" "searchedPlaces" "[I" (.ref o77)) (F_o65_searchedTokens : Fld Z h0 o65 "com/example/eventloom/eventloom/verification/CoverSearch" "searchedTokens" "[J" (.ref o78)) (F_o65_parentPlaces : Fld Z h0 o65 "com/example/eventloom/eventloom/verification/CoverSearch" "parentPlaces" "[I" (.ref o79)) (F_o65_parentTokens : Fld Z h0 o65 "com/example/eventloom/eventloom/verification/CoverSearch" "parentTokens" "[J" (.ref o80)) (F_o65_unmarkedRanks : Fld Z h0 o65 "com/example/eventloom/eventloom/verification/CoverSearch" "unmarkedRanks" "[I" (.ref o81)) (F_o65_searched : Fld Z h0 o65 "com/example/eventloom/eventloom/verification/CoverSearch" "searched" "I" (.int (1 : Int32))) (F_o65_steps : Fld Z h0 o65 "com/example/eventloom/eventloom/verification/CoverSearch" "steps" "J" (.long gst)) (A_o66 : Arv Z h0 o66 k_o66 .long (16 : Int32) [(.long (1 : Int64)), (.long (0 : Int64)), (.long (0 : Int64)), (.long (0 : Int64)), (.long (0 : Int64)), (.long (0 : Int64)), (.long (0 : Int64)), (.long (0 : Int64)), (.long (0 : Int64)), (.long (0 : Int64)), (.long (0 : Int64)), (.long (0 : Int64)), (.long (0 : Int64)), (.long (0 : Int64)), (.long (0 : Int64)), (.long (0 : Int64))] (.long (0 : Int64))) (E_o3 : Exa Z h0 o3 "com/example/eventloom/eventloom/net/MarkingStore") (F_o3_bytes : Fld Z h0 o3 "com/example/eventloom/eventloom/net/MarkingStore" "bytes" "[B" (.ref o4)) (F_o3_starts : Fld Z h0 o3 "com/example/eventloom/eventloom/net/MarkingStore" "starts" "Lcom/example/eventloom/eventloom/net/IntList;" (.ref o5)) (F_o3_hashes : Fld Z h0 o3 "com/example/eventloom/eventloom/net/MarkingStore" "hashes" "Lcom/example/eventloom/eventloom/net/IntList;" (.ref o8)) (F_o3_table : Fld Z h0 o3 "com/example/eventloom/eventloom/net/MarkingStore" "table" "[I" (.ref o11)) (F_o3_encoded : Fld Z h0 o3 "com/example/eventloom/eventloom/net/MarkingStore" "encoded" "[B" (.ref o31)) (F_o3_encodedLength : Fld Z h0 o3 "com/example/eventloom/eventloom/net/MarkingStore" "encodedLength" "I" (.int (2 : Int32))) (F_o3_encodedHash : Fld Z h0 o3 "com/example/eventloom/eventloom/net/MarkingStore" "encodedHash" "I" (.int (962 : Int32))) (F_o3_length : Fld Z h0 o3 "com/example/eventloom/eventloom/net/MarkingStore" "length" "I" (.int (2 : Int32))) (F_o3_position : Fld Z h0 o3 "com/example/eventloom/eventloom/net/MarkingStore" "position" "I" (.int (2 : Int32))) (ne_o2_o3 : o2 ≠ o3) (g_o3 : n0 ≤ o3) (ne_o3_o4 : o3 ≠ o4) (ne_o3_o5 : o3 ≠ o5) (ne_o3_o6 : o3 ≠ o6) (ne_o2_o65 : o2 ≠ o65) (ne_o3_o65 : o3 ≠ o65) (ne_o4_o65 : o4 ≠ o65) (ne_o5_o65 : o5 ≠ o65) (ne_o6_o65 : o6 ≠ o65) (g_o65 : n0 ≤ o65) (ne_o3_o66 : o3 ≠ o66) (ne_o65_o66 : o65 ≠ o66) :
    Met l Z (⟨"com/example/eventloom/eventloom/verification/CoverSearch", "covers", "([JI)Z"⟩ : MethodName) prog_117_method_5_code 3 (some .boolean) { frames := 5, cells := 0, slots := 0, locals := 82 } [] #[(.ref o65), (.ref o2), (.int (0 : Int32))] h0 n0 (fun v h => (v = some (.int (1 : Int32)) ∧ (0 : Int32) < (XT.cmpL gst (0 : Int64)) ∧ Keep h0 h [o65, o3] ∧ Exa Z h o65 "com/example/eventloom/eventloom/verification/CoverSearch" ∧ Fld Z h o65 "com/example/eventloom/eventloom/verification/CoverSearch" "tokens" "[J" (.ref o66) ∧ Fld Z h o65 "com/example/eventloom/eventloom/verification/CoverSearch" "nearestFewer" "Lcom/example/eventloom/eventloom/net/IntList;" (.ref o67) ∧ Fld Z h o65 "com/example/eventloom/eventloom/verification/CoverSearch" "nearestUnmarked" "Lcom/example/eventloom/eventloom/verification/IntBlockList;" (.ref o70) ∧ Fld Z h o65 "com/example/eventloom/eventloom/verification/CoverSearch" "firstNearestUnmarked" "Lcom/example/eventloom/eventloom/net/IntList;" (.ref o73) ∧ Fld Z h o65 "com/example/eventloom/eventloom/verification/CoverSearch" "markings" "Lcom/example/eventloom/eventloom/net/MarkingStore;" (.ref o3) ∧ Fld Z h o65 "com/example/eventloom/eventloom/verification/CoverSearch" "parents" "Lcom/example/eventloom/eventloom/net/IntList;" (.ref o60) ∧ Fld Z h o65 "com/example/eventloom/eventloom/verification/CoverSearch" "stepsPerMarking" "I" (.int x0) ∧ Fld Z h o65 "com/example/eventloom/eventloom/verification/CoverSearch" "searchedMarking" "[J" (.ref o76) ∧ Fld Z h o65 "com/example/eventloom/eventloom/verification/CoverSearch" "searchedPlaces" "[I" (.ref o77) ∧ Fld Z h o65 "com/example/eventloom/eventloom/verification/CoverSearch" "searchedTokens" "[J" (.ref o78) ∧ Fld Z h o65 "com/example/eventloom/eventloom/verification/CoverSearch" "parentPlaces" "[I" (.ref o79) ∧ Fld Z h o65 "com/example/eventloom/eventloom/verification/CoverSearch" "parentTokens" "[J" (.ref o80) ∧ Fld Z h o65 "com/example/eventloom/eventloom/verification/CoverSearch" "unmarkedRanks" "[I" (.ref o81) ∧ Fld Z h o65 "com/example/eventloom/eventloom/verification/CoverSearch" "searched" "I" (.int (1 : Int32)) ∧ Fld Z h o65 "com/example/eventloom/eventloom/verification/CoverSearch" "steps" "J" (.long ((gst - (1 : Int64)) - (2 : Int64))) ∧ Exa Z h o3 "com/example/eventloom/eventloom/net/MarkingStore" ∧ Fld Z h o3 "com/example/eventloom/eventloom/net/MarkingStore" "bytes" "[B" (.ref o4) ∧ Fld Z h o3 "com/example/eventloom/eventloom/net/MarkingStore" "starts" "Lcom/example/eventloom/eventloom/net/IntList;" (.ref o5) ∧ Fld Z h o3 "com/example/eventloom/eventloom/net/MarkingStore" "hashes" "Lcom/example/eventloom/eventloom/net/IntList;" (.ref o8) ∧ Fld Z h o3 "com/example/eventloom/eventloom/net/MarkingStore" "table" "[I" (.ref o11) ∧ Fld Z h o3 "com/example/eventloom/eventloom/net/MarkingStore" "encoded" "[B" (.ref o31) ∧ Fld Z h o3 "com/example/eventloom/eventloom/net/MarkingStore" "encodedLength" "I" (.int (2 : Int32)) ∧ Fld Z h o3 "com/example/eventloom/eventloom/net/MarkingStore" "encodedHash" "I" (.int (962 : Int32)) ∧ Fld Z h o3 "com/example/eventloom/eventloom/net/MarkingStore" "length" "I" (.int (2 : Int32)) ∧ Fld Z h o3 "com/example/eventloom/eventloom/net/MarkingStore" "position" "I" (.int (2 : Int32))) ∨ (v = some (.int (0 : Int32)) ∧ ¬ (0 : Int32) < (XT.cmpL gst (0 : Int64)) ∧ Exa Z h o65 "com/example/eventloom/eventloom/verification/CoverSearch" ∧ Fld Z h o65 "com/example/eventloom/eventloom/verification/CoverSearch" "tokens" "[J" (.ref o66) ∧ Fld Z h o65 "com/example/eventloom/eventloom/verification/CoverSearch" "nearestFewer" "Lcom/example/eventloom/eventloom/net/IntList;" (.ref o67) ∧ Fld Z h o65 "com/example/eventloom/eventloom/verification/CoverSearch" "nearestUnmarked" "Lcom/example/eventloom/eventloom/verification/IntBlockList;" (.ref o70) ∧ Fld Z h o65 "com/example/eventloom/eventloom/verification/CoverSearch" "firstNearestUnmarked" "Lcom/example/eventloom/eventloom/net/IntList;" (.ref o73) ∧ Fld Z h o65 "com/example/eventloom/eventloom/verification/CoverSearch" "markings" "Lcom/example/eventloom/eventloom/net/MarkingStore;" (.ref o3) ∧ Fld Z h o65 "com/example/eventloom/eventloom/verification/CoverSearch" "parents" "Lcom/example/eventloom/eventloom/net/IntList;" (.ref o60) ∧ Fld Z h o65 "com/example/eventloom/eventloom/verification/CoverSearch" "stepsPerMarking" "I" (.int x0) ∧ Fld Z h o65 "com/example/eventloom/eventloom/verification/CoverSearch" "searchedMarking" "[J" (.ref o76) ∧ Fld Z h o65 "com/example/eventloom/eventloom/verification/CoverSearch" "searchedPlaces" "[I" (.ref o77) ∧ Fld Z h o65 "com/example/eventloom/eventloom/verification/CoverSearch" "searchedTokens" "[J" (.ref o78) ∧ Fld Z h o65 "com/example/eventloom/eventloom/verification/CoverSearch" "parentPlaces" "[I" (.ref o79) ∧ Fld Z h o65 "com/example/eventloom/eventloom/verification/CoverSearch" "parentTokens" "[J" (.ref o80) ∧ Fld Z h o65 "com/example/eventloom/eventloom/verification/CoverSearch" "unmarkedRanks" "[I" (.ref o81) ∧ Fld Z h o65 "com/example/eventloom/eventloom/verification/CoverSearch" "searched" "I" (.int (1 : Int32)) ∧ Fld Z h o65 "com/example/eventloom/eventloom/verification/CoverSearch" "steps" "J" (.long gst) ∧ Exa Z h o3 "com/example/eventloom/eventloom/net/MarkingStore" ∧ Fld Z h o3 "com/example/eventloom/eventloom/net/MarkingStore" "bytes" "[B" (.ref o4) ∧ Fld Z h o3 "com/example/eventloom/eventloom/net/MarkingStore" "starts" "Lcom/example/eventloom/eventloom/net/IntList;" (.ref o5) ∧ Fld Z h o3 "com/example/eventloom/eventloom/net/MarkingStore" "hashes" "Lcom/example/eventloom/eventloom/net/IntList;" (.ref o8) ∧ Fld Z h o3 "com/example/eventloom/eventloom/net/MarkingStore" "table" "[I" (.ref o11) ∧ Fld Z h o3 "com/example/eventloom/eventloom/net/MarkingStore" "encoded" "[B" (.ref o31) ∧ Fld Z h o3 "com/example/eventloom/eventloom/net/MarkingStore" "encodedLength" "I" (.int (2 : Int32)) ∧ Fld Z h o3 "com/example/eventloom/eventloom/net/MarkingStore" "encodedHash" "I" (.int (962 : Int32)) ∧ Fld Z h o3 "com/example/eventloom/eventloom/net/MarkingStore" "length" "I" (.int (2 : Int32)) ∧ Fld Z h o3 "com/example/eventloom/eventloom/net/MarkingStore" "position" "I" (.int (2 : Int32)) ∧ Keep h0 h [o65, o3])) := by
  refine Met.mk (tabs := tables_1) (a0 := a0) (ls0 := #[.val (.ref o65), .val (.ref o2), .val (.int (0 : Int32))]) (plainFor_of_name pn_com_example_eventloom_eventloom_verification_CoverSearch) hw Z0 (fun m => by first | (simp [entryFrame, mkF, argsToLocals, Value.category]; done) | rfl) ?_
  intro p e s m below meth c T C X
  have Kp : Keep h0 h0 [o65, o3] := Keep.refl _ _
  refine s_aloadN 1 C X d17_0 rfl rfl ?_
  refine s_getfield 4 C X (host := "") d17_1 (Or.inl (mW 145 rfl)) Via.refl F_o65_searched (fun T X => ?_)
  refine s_aloadN 5 C X d17_4 rfl rfl ?_
  refine s_getfield 8 C X (host := "") d17_5 (Or.inl (mW 122 rfl)) Via.refl F_o65_markings (fun T X => ?_)
  refine s_callV 11 [] [(.int (1 : Int32))] 1 C X d17_8 (mW 147 rfl) (mW 68 rfl) (notFace_of_selects (args := #[]) (mvT C.2.1 (C.w (mW 70 rfl)))) (mW 70 rfl) (mW 69 rfl) (mW 5 rfl) (mW 71 rfl) E_o3 (rm_a57 l Z a0 hw o3 o5 _ n0 X.sz F_o3_starts E_o5 F_o5_size) (lenOf pd___I rfl) rfl rfl rfl (fun T v hh X q => ?_)
  obtain ⟨rfl, Kc⟩ := q
  have A_o2 := A_o2.keep Kc nin0
  have A_o4 := A_o4.keep Kc nin0
  have E_o5 := E_o5.keep Kc
  have F_o5_values := F_o5_values.keep Kc nin0
  have F_o5_size := F_o5_size.keep Kc nin0
  have A_o6 := A_o6.keep Kc nin0
  have E_o65 := E_o65.keep Kc
  have F_o65_tokens := F_o65_tokens.keep Kc nin0
  have F_o65_nearestFewer := F_o65_nearestFewer.keep Kc nin0
  have F_o65_nearestUnmarked := F_o65_nearestUnmarked.keep Kc nin0
  have F_o65_firstNearestUnmarked := F_o65_firstNearestUnmarked.keep Kc nin0
  have F_o65_markings := F_o65_markings.keep Kc nin0
  have F_o65_parents := F_o65_parents.keep Kc nin0
  have F_o65_stepsPerMarking := F_o65_stepsPerMarking.keep Kc nin0
  have F_o65_searchedMarking := F_o65_searchedMarking.keep Kc nin0
  have F_o65_searchedPlaces := F_o65_searchedPlaces.keep Kc nin0
  have F_o65_searchedTokens := F_o65_searchedTokens.keep Kc nin0
  have F_o65_parentPlaces := F_o65_parentPlaces.keep Kc nin0
  have F_o65_parentTokens := F_o65_parentTokens.keep Kc nin0
  have F_o65_unmarkedRanks := F_o65_unmarkedRanks.keep Kc nin0
  have F_o65_searched := F_o65_searched.keep Kc nin0
  have F_o65_steps := F_o65_steps.keep Kc nin0
  have A_o66 := A_o66.keep Kc nin0
  have E_o3 := E_o3.keep Kc
  have F_o3_bytes := F_o3_bytes.keep Kc nin0
  have F_o3_starts := F_o3_starts.keep Kc nin0
  have F_o3_hashes := F_o3_hashes.keep Kc nin0
  have F_o3_table := F_o3_table.keep Kc nin0
  have F_o3_encoded := F_o3_encoded.keep Kc nin0
  have F_o3_encodedLength := F_o3_encodedLength.keep Kc nin0
  have F_o3_encodedHash := F_o3_encodedHash.keep Kc nin0
  have F_o3_length := F_o3_length.keep Kc nin0
  have F_o3_position := F_o3_position.keep Kc nin0
  have Kp := Kp.trans Kc all0
  refine Run.cast (st' := [(.int (1 : Int32)), (.int (1 : Int32))]) rfl ?_
  refine s_icmp_lt 23 14 C X d17_11 (fun c => absurd c (by decide)) (fun _ => ?_)
  refine s_aloadN 15 C X d17_14 rfl rfl ?_
  refine s_getfield 18 C X (host := "") d17_15 (Or.inl (mW 148 rfl)) Via.refl F_o65_steps (fun T X => ?_)
  refine s_lconst 19 C X (z := (0 : Int64)) d17_18 rfl ?_
  refine s_lcmp 20 C X d17_19 ?_
  refine s_if_gt 25 23 C X d17_20 (fun c20_206 => ?_) (fun c20_206 => ?_)
  · have t_c20_206 : (0 : Int) < (gst).toInt := cl_gt.mp c20_206
    refine s_aloadN 26 C X d17_25 rfl rfl ?_
    refine s_aloadN 27 C X d17_26 rfl rfl ?_
    refine s_aloadN 28 C X d17_27 rfl rfl ?_
    refine s_callS 31 [(.ref o2)] [(.ref o2), (.ref o65)] 2 C X d17_28 (mW 204 rfl) (mW 205 rfl) (mW 96 rfl) (mW 206 rfl) (rm_a209 l Z a0 hw o2 k_o2 _ n0 X.sz A_o2) (lenOf pd___J_J rfl) rfl rfl rfl (fun T v hh X q => ?_)
    obtain ⟨rfl, Kc⟩ := q
    have A_o2 := A_o2.keep Kc nin0
    have A_o4 := A_o4.keep Kc nin0
    have E_o5 := E_o5.keep Kc
    have F_o5_values := F_o5_values.keep Kc nin0
    have F_o5_size := F_o5_size.keep Kc nin0
    have A_o6 := A_o6.keep Kc nin0
    have E_o65 := E_o65.keep Kc
    have F_o65_tokens := F_o65_tokens.keep Kc nin0
    have F_o65_nearestFewer := F_o65_nearestFewer.keep Kc nin0
    have F_o65_nearestUnmarked := F_o65_nearestUnmarked.keep Kc nin0
    have F_o65_firstNearestUnmarked := F_o65_firstNearestUnmarked.keep Kc nin0
    have F_o65_markings := F_o65_markings.keep Kc nin0
    have F_o65_parents := F_o65_parents.keep Kc nin0
    have F_o65_stepsPerMarking := F_o65_stepsPerMarking.keep Kc nin0
    have F_o65_searchedMarking := F_o65_searchedMarking.keep Kc nin0
    have F_o65_searchedPlaces := F_o65_searchedPlaces.keep Kc nin0
    have F_o65_searchedTokens := F_o65_searchedTokens.keep Kc nin0
    have F_o65_parentPlaces := F_o65_parentPlaces.keep Kc nin0
    have F_o65_parentTokens := F_o65_parentTokens.keep Kc nin0
    have F_o65_unmarkedRanks := F_o65_unmarkedRanks.keep Kc nin0
    have F_o65_searched := F_o65_searched.keep Kc nin0
    have F_o65_steps := F_o65_steps.keep Kc nin0
    have A_o66 := A_o66.keep Kc nin0
    have E_o3 := E_o3.keep Kc
    have F_o3_bytes := F_o3_bytes.keep Kc nin0
    have F_o3_starts := F_o3_starts.keep Kc nin0
    have F_o3_hashes := F_o3_hashes.keep Kc nin0
    have F_o3_table := F_o3_table.keep Kc nin0
    have F_o3_encoded := F_o3_encoded.keep Kc nin0
    have F_o3_encodedLength := F_o3_encodedLength.keep Kc nin0
    have F_o3_encodedHash := F_o3_encodedHash.keep Kc nin0
    have F_o3_length := F_o3_length.keep Kc nin0
    have F_o3_position := F_o3_position.keep Kc nin0
    have Kp := Kp.trans Kc all0
    refine Run.cast (st' := [(.long (2 : Int64)), (.ref o2), (.ref o65)]) rfl ?_
    refine s_iloadN 32 C X d17_31 rfl ?_
    refine s_callPI 35 [(.ref o2), (.long (2 : Int64)), (.int (0 : Int32))] [] 0 C X d17_32 (mW 181 rfl) (mW 182 rfl) (mW 95 rfl) (mW 183 rfl) (mW 96 rfl) (mW 184 rfl) E_o65 (rm_a235 l Z a0 hw x0 o2 o3 k_o2 o4 o5 k_o4 o6 k_o6 o8 o11 o31 o60 o65 o66 o67 k_o66 o70 o73 o76 o77 o78 o79 o80 o81 gst gst _ n0 X.sz A_o2 A_o4 E_o5 F_o5_values F_o5_size A_o6 E_o65 F_o65_tokens F_o65_nearestFewer F_o65_nearestUnmarked F_o65_firstNearestUnmarked F_o65_markings F_o65_parents F_o65_stepsPerMarking F_o65_searchedMarking F_o65_searchedPlaces F_o65_searchedTokens F_o65_parentPlaces F_o65_parentTokens F_o65_unmarkedRanks F_o65_searched F_o65_steps A_o66 E_o3 F_o3_bytes F_o3_starts F_o3_hashes F_o3_table F_o3_encoded F_o3_encodedLength F_o3_encodedHash F_o3_length F_o3_position ne_o2_o3 g_o3 ne_o3_o4 ne_o3_o5 ne_o3_o6 ne_o2_o65 ne_o3_o65 ne_o4_o65 ne_o5_o65 ne_o6_o65 g_o65 ne_o3_o66 ne_o65_o66) (lenOf pd___JJI_I rfl) rfl rfl rfl (fun T v hh X q => ?_)
    obtain ⟨rfl, E_o65, F_o65_tokens, F_o65_nearestFewer, F_o65_nearestUnmarked, F_o65_firstNearestUnmarked, F_o65_markings, F_o65_parents, F_o65_stepsPerMarking, F_o65_searchedMarking, F_o65_searchedPlaces, F_o65_searchedTokens, F_o65_parentPlaces, F_o65_parentTokens, F_o65_unmarkedRanks, F_o65_searched, F_o65_steps, Kc, E_o3, F_o3_bytes, F_o3_starts, F_o3_hashes, F_o3_table, F_o3_encoded, F_o3_encodedLength, F_o3_encodedHash, F_o3_length, F_o3_position⟩ := q
    have nn_o5 : o5 ∉ [o65, o3] := (ninS ne_o5_o65 (ninS (Ne.symm ne_o3_o5) nin0))
    have A_o2 := A_o2.keep Kc (ninS ne_o2_o65 (ninS ne_o2_o3 nin0))
    have A_o4 := A_o4.keep Kc (ninS ne_o4_o65 (ninS (Ne.symm ne_o3_o4) nin0))
    have E_o5 := E_o5.keep Kc
    have F_o5_values := F_o5_values.keep Kc nn_o5
    have F_o5_size := F_o5_size.keep Kc nn_o5
    have A_o6 := A_o6.keep Kc (ninS ne_o6_o65 (ninS (Ne.symm ne_o3_o6) nin0))
    have A_o66 := A_o66.keep Kc (ninS (Ne.symm ne_o65_o66) (ninS (Ne.symm ne_o3_o66) nin0))
    have Kp := Kp.trans Kc (allS (Or.inl (by simp)) (allS (Or.inl (by simp)) all0))
    refine Run.cast (st' := [(.int (-2 : Int32))]) rfl ?_
    refine s_bipush 37 C X d17_35 kc_bipush_m2 ?_
    refine s_icmp_ne 44 40 C X d17_37 (fun c => absurd (by decide : (-2 : Int32) = (-2 : Int32)) c) (fun _ => ?_)
    refine s_iconst 41 C X d17_40 kc_iconst_1 ?_
    refine s_goto 45 C X d17_41 ?_
    refine s_nreturn C X d17_45 rfl (by simp) rfl ?_
    exact (Or.inl ⟨rfl, c20_206, Kp, E_o65, F_o65_tokens, F_o65_nearestFewer, F_o65_nearestUnmarked, F_o65_firstNearestUnmarked, F_o65_markings, F_o65_parents, F_o65_stepsPerMarking, F_o65_searchedMarking, F_o65_searchedPlaces, F_o65_searchedTokens, F_o65_parentPlaces, F_o65_parentTokens, F_o65_unmarkedRanks, F_o65_searched, F_o65_steps, E_o3, F_o3_bytes, F_o3_starts, F_o3_hashes, F_o3_table, F_o3_encoded, F_o3_encodedLength, F_o3_encodedHash, F_o3_length, F_o3_position⟩)
  have t_c20_206 : ¬ ((0 : Int) < (gst).toInt) := fun q => c20_206 (cl_gt.mpr q)
  refine s_iconst 24 C X d17_23 kc_iconst_0 ?_
  refine s_nreturn C X d17_24 rfl (by simp) rfl ?_
  exact (Or.inr ⟨rfl, c20_206, E_o65, F_o65_tokens, F_o65_nearestFewer, F_o65_nearestUnmarked, F_o65_firstNearestUnmarked, F_o65_markings, F_o65_parents, F_o65_stepsPerMarking, F_o65_searchedMarking, F_o65_searchedPlaces, F_o65_searchedTokens, F_o65_parentPlaces, F_o65_parentTokens, F_o65_unmarkedRanks, F_o65_searched, F_o65_steps, E_o3, F_o3_bytes, F_o3_starts, F_o3_hashes, F_o3_table, F_o3_encoded, F_o3_encodedLength, F_o3_encodedHash, F_o3_length, F_o3_position, Kp⟩)
set_option maxRecDepth 65536 in
set_option maxHeartbeats 40000000 in
theorem rm_a274 (l : Launch) (Z : State) (a0 : Array Value) (hw : ∀ d ∈ tables_1, d.before a0 Z = true) (x0 : Int32) (o3 : Addr) (o60 : Addr) (o65 : Addr) (o66 : Addr) (o67 : Addr) (o70 : Addr) (o73 : Addr) (o76 : Addr) (o77 : Addr) (o78 : Addr) (o79 : Addr) (o80 : Addr) (o81 : Addr) (gst : Int64) (h0 : Heap) (n0 : Nat) (Z0 : n0 ≤ h0.size) (E_o65 : Exa Z h0 o65 "com/example/eventloom/eventloom/verification/CoverSearch") (F_o65_tokens : Fld Z h0 o65 "com/example/eventloom/eventloom/verification/CoverSearch" "tokens" "[J" (.ref o66)) (F_o65_nearestFewer : Fld Z h0 o65 "com/example/eventloom/eventloom/verification/CoverSearch" "nearestFewer" "Lcom/example/eventloom/eventloom/net/IntList;" (.ref o67)) (F_o65_nearestUnmarked : Fld Z h0 o65 "com/example/eventloom/eventloom/verification/CoverSearch" "nearestUnmarked" "Lcom/example/eventloom/eventloom/verification/IntBlockList;" (.ref o70)) (F_o65_firstNearestUnmarked : Fld Z h0 o65 "com/example/eventloom/eventloom/verification/CoverSearch" "firstNearestUnmarked" "Lcom/example/eventloom/eventloom/net/IntList;" (.ref o73)) (F_o65_markings : Fld Z h0 o65 "com/example/eventloom/eventloom/verification/CoverSearch" "markings" "Lcom/example/eventloom/eventloom/net/MarkingStore;" (.ref o3)) (F_o65_parents : Fld Z h0 o65 "com/example/eventloom/eventloom/verification/CoverSearch" "parents" "Lcom/example/eventloom/eventloom/net/IntList;" (.ref o60)) (F_o65_stepsPerMarking : Fld Z h0 o65 "com/example/eventloom/eventloom/verification/CoverSearch" "stepsPerMarking" "I" (.int x0)) (F_o65_searchedMarking : Fld Z h0 o65 "com/example/eventloom/eventloom/verification/CoverSearch" "searchedMarking" "[J" (.ref o76)) (F_o65_searchedPlaces : Fld Z h0 o65 "com/example/eventloom/eventloom/verification/CoverSearch" "searchedPlaces" "[I" (.ref o77)) (F_o65_searchedTokens : Fld Z h0 o65 "com/example/eventloom/eventloom/verification/CoverSearch" "searchedTokens" "[J" (.ref o78)) (F_o65_parentPlaces : Fld Z h0 o65 "com/example/eventloom/eventloom/verification/CoverSearch" "parentPlaces" "[I" (.ref o79)) (F_o65_parentTokens : Fld Z h0 o65 "com/example/eventloom/eventloom/verification/CoverSearch" "parentTokens" "[J" (.ref o80)) (F_o65_unmarkedRanks : Fld Z h0 o65 "com/example/eventloom/eventloom/verification/CoverSearch" "unmarkedRanks" "[I" (.ref o81)) (F_o65_searched : Fld Z h0 o65 "com/example/eventloom/eventloom/verification/CoverSearch" "searched" "I" (.int (1 : Int32))) (F_o65_steps : Fld Z h0 o65 "com/example/eventloom/eventloom/verification/CoverSearch" "steps" "J" (.long gst)) (g_o65 : n0 ≤ o65) :
    Met l Z (⟨"com/example/eventloom/eventloom/verification/CoverSearch", "grant", "()V"⟩ : MethodName) prog_117_method_2_code 1 none { frames := 0, cells := 0, slots := 0, locals := 0 } [] #[(.ref o65)] h0 n0 (fun v h => v = none ∧ Exa Z h o65 "com/example/eventloom/eventloom/verification/CoverSearch" ∧ Fld Z h o65 "com/example/eventloom/eventloom/verification/CoverSearch" "tokens" "[J" (.ref o66) ∧ Fld Z h o65 "com/example/eventloom/eventloom/verification/CoverSearch" "nearestFewer" "Lcom/example/eventloom/eventloom/net/IntList;" (.ref o67) ∧ Fld Z h o65 "com/example/eventloom/eventloom/verification/CoverSearch" "nearestUnmarked" "Lcom/example/eventloom/eventloom/verification/IntBlockList;" (.ref o70) ∧ Fld Z h o65 "com/example/eventloom/eventloom/verification/CoverSearch" "firstNearestUnmarked" "Lcom/example/eventloom/eventloom/net/IntList;" (.ref o73) ∧ Fld Z h o65 "com/example/eventloom/eventloom/verification/CoverSearch" "markings" "Lcom/example/eventloom/eventloom/net/MarkingStore;" (.ref o3) ∧ Fld Z h o65 "com/example/eventloom/eventloom/verification/CoverSearch" "parents" "Lcom/example/eventloom/eventloom/net/IntList;" (.ref o60) ∧ Fld Z h o65 "com/example/eventloom/eventloom/verification/CoverSearch" "stepsPerMarking" "I" (.int x0) ∧ Fld Z h o65 "com/example/eventloom/eventloom/verification/CoverSearch" "searchedMarking" "[J" (.ref o76) ∧ Fld Z h o65 "com/example/eventloom/eventloom/verification/CoverSearch" "searchedPlaces" "[I" (.ref o77) ∧ Fld Z h o65 "com/example/eventloom/eventloom/verification/CoverSearch" "searchedTokens" "[J" (.ref o78) ∧ Fld Z h o65 "com/example/eventloom/eventloom/verification/CoverSearch" "parentPlaces" "[I" (.ref o79) ∧ Fld Z h o65 "com/example/eventloom/eventloom/verification/CoverSearch" "parentTokens" "[J" (.ref o80) ∧ Fld Z h o65 "com/example/eventloom/eventloom/verification/CoverSearch" "unmarkedRanks" "[I" (.ref o81) ∧ Fld Z h o65 "com/example/eventloom/eventloom/verification/CoverSearch" "searched" "I" (.int (1 : Int32)) ∧ Fld Z h o65 "com/example/eventloom/eventloom/verification/CoverSearch" "steps" "J" (.long (gst + (x0).toInt64)) ∧ Keep h0 h [o65]) := by
  refine Met.mk (tabs := tables_1) (a0 := a0) (ls0 := #[.val (.ref o65)]) (plainFor_of_name pn_com_example_eventloom_eventloom_verification_CoverSearch) hw Z0 (fun m => by first | (simp [entryFrame, mkF, argsToLocals, Value.category]; done) | rfl) ?_
  intro p e s m below meth c T C X
  have Kp : Keep h0 h0 [o65] := Keep.refl _ _
  refine s_aloadN 1 C X d18_0 rfl rfl ?_
  refine s_dup 2 C X d18_1 rfl ?_
  refine s_getfield 5 C X (host := "") d18_2 (Or.inl (mW 148 rfl)) Via.refl F_o65_steps (fun T X => ?_)
  refine s_aloadN 6 C X d18_5 rfl rfl ?_
  refine s_getfield 9 C X (host := "") d18_6 (Or.inl (mW 126 rfl)) Via.refl F_o65_stepsPerMarking (fun T X => ?_)
  refine s_i2l 10 C X d18_9 ?_
  refine s_ladd 11 C X d18_10 ?_
  refine s_putfield 14 C X (host := "") d18_11 (Or.inl (mW 148 rfl)) Via.refl F_o65_steps E_o65 (Or.inl (mW 149 rfl)) (mW 95 rfl) (ty := .long) (by decide) rfl rfl g_o65 (fun T hh X W => ?_)
  have E_o65 := E_o65.wr W
  have F_o65_tokens := oth F_o65_tokens W (Or.inl (hw _ (mW 102 rfl))) (Or.inl (hw _ (mW 149 rfl))) (by decide)
  have F_o65_nearestFewer := oth F_o65_nearestFewer W (Or.inr (hw _ (mW 106 rfl))) (Or.inl (hw _ (mW 149 rfl))) (by decide)
  have F_o65_nearestUnmarked := oth F_o65_nearestUnmarked W (Or.inr (hw _ (mW 119 rfl))) (Or.inl (hw _ (mW 149 rfl))) (by decide)
  have F_o65_firstNearestUnmarked := oth F_o65_firstNearestUnmarked W (Or.inr (hw _ (mW 121 rfl))) (Or.inl (hw _ (mW 149 rfl))) (by decide)
  have F_o65_markings := oth F_o65_markings W (Or.inr (hw _ (mW 123 rfl))) (Or.inl (hw _ (mW 149 rfl))) (by decide)
  have F_o65_parents := oth F_o65_parents W (Or.inr (hw _ (mW 125 rfl))) (Or.inl (hw _ (mW 149 rfl))) (by decide)
  have F_o65_stepsPerMarking := oth F_o65_stepsPerMarking W (Or.inr (hw _ (mW 127 rfl))) (Or.inl (hw _ (mW 149 rfl))) (by decide)
  have F_o65_searchedMarking := oth F_o65_searchedMarking W (Or.inr (hw _ (mW 129 rfl))) (Or.inl (hw _ (mW 149 rfl))) (by decide)
  have F_o65_searchedPlaces := oth F_o65_searchedPlaces W (Or.inr (hw _ (mW 131 rfl))) (Or.inl (hw _ (mW 149 rfl))) (by decide)
  have F_o65_searchedTokens := oth F_o65_searchedTokens W (Or.inr (hw _ (mW 133 rfl))) (Or.inl (hw _ (mW 149 rfl))) (by decide)
  have F_o65_parentPlaces := oth F_o65_parentPlaces W (Or.inr (hw _ (mW 135 rfl))) (Or.inl (hw _ (mW 149 rfl))) (by decide)
  have F_o65_parentTokens := oth F_o65_parentTokens W (Or.inr (hw _ (mW 137 rfl))) (Or.inl (hw _ (mW 149 rfl))) (by decide)
  have F_o65_unmarkedRanks := oth F_o65_unmarkedRanks W (Or.inr (hw _ (mW 139 rfl))) (Or.inl (hw _ (mW 149 rfl))) (by decide)
  have F_o65_searched := oth F_o65_searched W (Or.inl (hw _ (mW 146 rfl))) (Or.inl (hw _ (mW 149 rfl))) (by decide)
  have F_o65_steps := F_o65_steps.same W
  have Kp := Kp.wr W (Or.inl (by simp))
  refine s_return C X d18_14 rfl ?_
  exact ⟨rfl, E_o65, F_o65_tokens, F_o65_nearestFewer, F_o65_nearestUnmarked, F_o65_firstNearestUnmarked, F_o65_markings, F_o65_parents, F_o65_stepsPerMarking, F_o65_searchedMarking, F_o65_searchedPlaces, F_o65_searchedTokens, F_o65_parentPlaces, F_o65_parentTokens, F_o65_unmarkedRanks, F_o65_searched, F_o65_steps, Kp⟩
set_option maxRecDepth 65536 in
set_option maxHeartbeats 40000000 in
theorem rm_a383 (l : Launch) (Z : State) (a0 : Array Value) (hw : ∀ d ∈ tables_1, d.before a0 Z = true) (x0 : Int32) (o3 : Addr) (o60 : Addr) (o65 : Addr) (o66 : Addr) (o67 : Addr) (o70 : Addr) (o73 : Addr) (o76 : Addr) (o77 : Addr) (o78 : Addr) (o79 : Addr) (o80 : Addr) (o81 : Addr) (h0 : Heap) (n0 : Nat) (Z0 : n0 ≤ h0.size) (E_o65 : Exa Z h0 o65 "com/example/eventloom/eventloom/verification/CoverSearch") (F_o65_tokens : Fld Z h0 o65 "com/example/eventloom/eventloom/verification/CoverSearch" "tokens" "[J" (.ref o66)) (F_o65_nearestFewer : Fld Z h0 o65 "com/example/eventloom/eventloom/verification/CoverSearch" "nearestFewer" "Lcom/example/eventloom/eventloom/net/IntList;" (.ref o67)) (F_o65_nearestUnmarked : Fld Z h0 o65 "com/example/eventloom/eventloom/verification/CoverSearch" "nearestUnmarked" "Lcom/example/eventloom/eventloom/verification/IntBlockList;" (.ref o70)) (F_o65_firstNearestUnmarked : Fld Z h0 o65 "com/example/eventloom/eventloom/verification/CoverSearch" "firstNearestUnmarked" "Lcom/example/eventloom/eventloom/net/IntList;" (.ref o73)) (F_o65_markings : Fld Z h0 o65 "com/example/eventloom/eventloom/verification/CoverSearch" "markings" "Lcom/example/eventloom/eventloom/net/MarkingStore;" (.ref o3)) (F_o65_parents : Fld Z h0 o65 "com/example/eventloom/eventloom/verification/CoverSearch" "parents" "Lcom/example/eventloom/eventloom/net/IntList;" (.ref o60)) (F_o65_stepsPerMarking : Fld Z h0 o65 "com/example/eventloom/eventloom/verification/CoverSearch" "stepsPerMarking" "I" (.int x0)) (F_o65_searchedMarking : Fld Z h0 o65 "com/example/eventloom/eventloom/verification/CoverSearch" "searchedMarking" "[J" (.ref o76)) (F_o65_searchedPlaces : Fld Z h0 o65 "com/example/eventloom/eventloom/verification/CoverSearch" "searchedPlaces" "[I" (.ref o77)) (F_o65_searchedTokens : Fld Z h0 o65 "com/example/eventloom/eventloom/verification/CoverSearch" "searchedTokens" "[J" (.ref o78)) (F_o65_parentPlaces : Fld Z h0 o65 "com/example/eventloom/eventloom/verification/CoverSearch" "parentPlaces" "[I" (.ref o79)) (F_o65_parentTokens : Fld Z h0 o65 "com/example/eventloom/eventloom/verification/CoverSearch" "parentTokens" "[J" (.ref o80)) (F_o65_unmarkedRanks : Fld Z h0 o65 "com/example/eventloom/eventloom/verification/CoverSearch" "unmarkedRanks" "[I" (.ref o81)) (F_o65_searched : Fld Z h0 o65 "com/example/eventloom/eventloom/verification/CoverSearch" "searched" "I" (.int (0 : Int32))) (F_o65_steps : Fld Z h0 o65 "com/example/eventloom/eventloom/verification/CoverSearch" "steps" "J" (.long (0 : Int64))) (g_o65 : n0 ≤ o65) :
    Met l Z (⟨"com/example/eventloom/eventloom/verification/CoverSearch", "grant", "()V"⟩ : MethodName) prog_117_method_2_code 1 none { frames := 0, cells := 0, slots := 0, locals := 0 } [] #[(.ref o65)] h0 n0 (fun v h => v = none ∧ Exa Z h o65 "com/example/eventloom/eventloom/verification/CoverSearch" ∧ Fld Z h o65 "com/example/eventloom/eventloom/verification/CoverSearch" "tokens" "[J" (.ref o66) ∧ Fld Z h o65 "com/example/eventloom/eventloom/verification/CoverSearch" "nearestFewer" "Lcom/example/eventloom/eventloom/net/IntList;" (.ref o67) ∧ Fld Z h o65 "com/example/eventloom/eventloom/verification/CoverSearch" "nearestUnmarked" "Lcom/example/eventloom/eventloom/verification/IntBlockList;" (.ref o70) ∧ Fld Z h o65 "com/example/eventloom/eventloom/verification/CoverSearch" "firstNearestUnmarked" "Lcom/example/eventloom/eventloom/net/IntList;" (.ref o73) ∧ Fld Z h o65 "com/example/eventloom/eventloom/verification/CoverSearch" "markings" "Lcom/example/eventloom/eventloom/net/MarkingStore;" (.ref o3) ∧ Fld Z h o65 "com/example/eventloom/eventloom/verification/CoverSearch" "parents" "Lcom/example/eventloom/eventloom/net/IntList;" (.ref o60) ∧ Fld Z h o65 "com/example/eventloom/eventloom/verification/CoverSearch" "stepsPerMarking" "I" (.int x0) ∧ Fld Z h o65 "com/example/eventloom/eventloom/verification/CoverSearch" "searchedMarking" "[J" (.ref o76) ∧ Fld Z h o65 "com/example/eventloom/eventloom/verification/CoverSearch" "searchedPlaces" "[I" (.ref o77) ∧ Fld Z h o65 "com/example/eventloom/eventloom/verification/CoverSearch" "searchedTokens" "[J" (.ref o78) ∧ Fld Z h o65 "com/example/eventloom/eventloom/verification/CoverSearch" "parentPlaces" "[I" (.ref o79) ∧ Fld Z h o65 "com/example/eventloom/eventloom/verification/CoverSearch" "parentTokens" "[J" (.ref o80) ∧ Fld Z h o65 "com/example/eventloom/eventloom/verification/CoverSearch" "unmarkedRanks" "[I" (.ref o81) ∧ Fld Z h o65 "com/example/eventloom/eventloom/verification/CoverSearch" "searched" "I" (.int (0 : Int32)) ∧ Fld Z h o65 "com/example/eventloom/eventloom/verification/CoverSearch" "steps" "J" (.long ((0 : Int64) + (x0).toInt64)) ∧ Keep h0 h [o65]) := by
  refine Met.mk (tabs := tables_1) (a0 := a0) (ls0 := #[.val (.ref o65)]) (plainFor_of_name pn_com_example_eventloom_eventloom_verification_CoverSearch) hw Z0 (fun m => by first | (simp [entryFrame, mkF, argsToLocals, Value.category]; done) | rfl) ?_
  intro p e s m below meth c T C X
  have Kp : Keep h0 h0 [o65] := Keep.refl _ _
  refine s_aloadN 1 C X d18_0 rfl rfl ?_
  refine s_dup 2 C X d18_1 rfl ?_
  refine s_getfield 5 C X (host := "") d18_2 (Or.inl (mW 148 rfl)) Via.refl F_o65_steps (fun T X => ?_)
  refine s_aloadN 6 C X d18_5 rfl rfl ?_
  refine s_getfield 9 C X (host := "") d18_6 (Or.inl (mW 126 rfl)) Via.refl F_o65_stepsPerMarking (fun T X => ?_)
  refine s_i2l 10 C X d18_9 ?_
  refine s_ladd 11 C X d18_10 ?_
  refine s_putfield 14 C X (host := "") d18_11 (Or.inl (mW 148 rfl)) Via.refl F_o65_steps E_o65 (Or.inl (mW 149 rfl)) (mW 95 rfl) (ty := .long) (by decide) rfl rfl g_o65 (fun T hh X W => ?_)
  have E_o65 := E_o65.wr W
  have F_o65_tokens := oth F_o65_tokens W (Or.inl (hw _ (mW 102 rfl))) (Or.inl (hw _ (mW 149 rfl))) (by decide)
  have F_o65_nearestFewer := oth F_o65_nearestFewer W (Or.inr (hw _ (mW 106 rfl))) (Or.inl (hw _ (mW 149 rfl))) (by decide)
  have F_o65_nearestUnmarked := oth F_o65_nearestUnmarked W (Or.inr (hw _ (mW 119 rfl))) (Or.inl (hw _ (mW 149 rfl))) (by decide)
  have F_o65_firstNearestUnmarked := oth F_o65_firstNearestUnmarked W (Or.inr (hw _ (mW 121 rfl))) (Or.inl (hw _ (mW 149 rfl))) (by decide)
  have F_o65_markings := oth F_o65_markings W (Or.inr (hw _ (mW 123 rfl))) (Or.inl (hw _ (mW 149 rfl))) (by decide)
  have F_o65_parents := oth F_o65_parents W (Or.inr (hw _ (mW 125 rfl))) (Or.inl (hw _ (mW 149 rfl))) (by decide)
  have F_o65_stepsPerMarking := oth F_o65_stepsPerMarking W (Or.inr (hw _ (mW 127 rfl))) (Or.inl (hw _ (mW 149 rfl))) (by decide)
  have F_o65_searchedMarking := oth F_o65_searchedMarking W (Or.inr (hw _ (mW 129 rfl))) (Or.inl (hw _ (mW 149 rfl))) (by decide)
  have F_o65_searchedPlaces := oth F_o65_searchedPlaces W (Or.inr (hw _ (mW 131 rfl))) (Or.inl (hw _ (mW 149 rfl))) (by decide)
  have F_o65_searchedTokens := oth F_o65_searchedTokens W (Or.inr (hw _ (mW 133 rfl))) (Or.inl (hw _ (mW 149 rfl))) (by decide)
  have F_o65_parentPlaces := oth F_o65_parentPlaces W (Or.inr (hw _ (mW 135 rfl))) (Or.inl (hw _ (mW 149 rfl))) (by decide)
  have F_o65_parentTokens := oth F_o65_parentTokens W (Or.inr (hw _ (mW 137 rfl))) (Or.inl (hw _ (mW 149 rfl))) (by decide)
  have F_o65_unmarkedRanks := oth F_o65_unmarkedRanks W (Or.inr (hw _ (mW 139 rfl))) (Or.inl (hw _ (mW 149 rfl))) (by decide)
  have F_o65_searched := oth F_o65_searched W (Or.inl (hw _ (mW 146 rfl))) (Or.inl (hw _ (mW 149 rfl))) (by decide)
  have F_o65_steps := F_o65_steps.same W
  have Kp := Kp.wr W (Or.inl (by simp))
  refine s_return C X d18_14 rfl ?_
  exact ⟨rfl, E_o65, F_o65_tokens, F_o65_nearestFewer, F_o65_nearestUnmarked, F_o65_firstNearestUnmarked, F_o65_markings, F_o65_parents, F_o65_stepsPerMarking, F_o65_searchedMarking, F_o65_searchedPlaces, F_o65_searchedTokens, F_o65_parentPlaces, F_o65_parentTokens, F_o65_unmarkedRanks, F_o65_searched, F_o65_steps, Kp⟩
set_option maxRecDepth 65536 in
set_option maxHeartbeats 40000000 in
theorem rm0 (l : Launch) (Z : State) (a0 : Array Value) (hw : ∀ d ∈ tables_1, d.before a0 Z = true) (x0 x1 x2 : Int32) (h0 : Heap) (n0 : Nat) (Z0 : n0 ≤ h0.size)  :
    Met l Z x code maxLocals ret room_1 tables_1 #[(.int x0), (.int x1), (.int x2)] h0 n0 (fun v h => v = some (.int 1)) := by
  refine Met.mk (tabs := tables_1) (a0 := a0) (ls0 := #[.val (.int x0), .val (.int x1), .val (.int x2), .unset, .unset, .unset, .unset, .unset, .unset, .unset, .unset, .unset, .unset, .unset, .unset, .unset, .unset, .unset, .unset, .unset, .unset]) (plainFor_of_name pn_com_example_eventloom_eventloom_verification_CoverSearchGrantPinLaw) hw Z0 (fun m => by first | (simp [entryFrame, mkF, argsToLocals, Value.category, maxLocals]; done) | rfl) ?_
  intro p e s m below meth c T C X
  refine s_iconst 1 C X at_0 kc_iconst_1 ?_
  refine s_newarray 3 1 C X at_1 (mW 0 rfl) (by decide) (by decide) (fun T hh o1 k_o1 hb_o1 X E A_o1 g_o1 => ?_)
  have A_o1 : Arv Z _ o1 k_o1 .long (1 : Int32) [(.long (0 : Int64))] (.long (0 : Int64)) := A_o1.pad (pad_rep [] _ 1)
  refine s_astoreN 4 C X (l' := #[.val (.int x0), .val (.int x1), .val (.int x2), .val (.ref o1), .unset, .unset, .unset, .unset, .unset, .unset, .unset, .unset, .unset, .unset, .unset, .unset, .unset, .unset, .unset, .unset, .unset]) at_3 rfl rfl ?_
  refine s_aloadN 5 C X at_4 rfl rfl ?_
  refine s_iconst 6 C X at_5 kc_iconst_0 ?_
  refine s_lconst 7 C X (z := (1 : Int64)) at_6 rfl ?_
  refine s_lastore 8 0 C X at_7 A_o1 g_o1 ⟨by decide, by decide⟩ rfl (Nat.le_of_ble_eq_true rfl) (fun T hh X W A_o1 => ?_)
  have A_o1 : Arv Z _ o1 k_o1 .long (1 : Int32) [(.long (1 : Int64))] (.long (0 : Int64)) := A_o1
  refine s_iconst 9 C X at_8 kc_iconst_1 ?_
  refine s_newarray 11 1 C X at_9 (mW 0 rfl) (by decide) (by decide) (fun T hh o2 k_o2 hb_o2 X E A_o2 g_o2 => ?_)
  have ne_o1_o2 : o1 ≠ o2 := Nat.ne_of_lt (Nat.lt_of_lt_of_le A_o1.lt (Nat.le_of_eq hb_o2))
  have A_o1 := A_o1.ext E
  have A_o2 : Arv Z _ o2 k_o2 .long (1 : Int32) [(.long (0 : Int64))] (.long (0 : Int64)) := A_o2.pad (pad_rep [] _ 1)
  refine s_astore 13 C X (l' := #[.val (.int x0), .val (.int x1), .val (.int x2), .val (.ref o1), .val (.ref o2), .unset, .unset, .unset, .unset, .unset, .unset, .unset, .unset, .unset, .unset, .unset, .unset, .unset, .unset, .unset, .unset]) at_11 rfl rfl ?_
  refine s_aload 15 C X at_13 rfl rfl ?_
  refine s_iconst 16 C X at_15 kc_iconst_0 ?_
  refine s_ldc2Long 19 C X at_16 (mW 1 rfl) ?_
  refine s_lastore 20 0 C X at_19 A_o2 g_o2 ⟨by decide, by decide⟩ rfl (Nat.le_of_ble_eq_true rfl) (fun T hh X W A_o2 => ?_)
  have A_o2 : Arv Z _ o2 k_o2 .long (1 : Int32) [(.long (2 : Int64))] (.long (0 : Int64)) := A_o2
  have A_o1 := A_o1.other W ne_o1_o2
  refine s_iloadN 21 C X at_20 rfl ?_
  refine s_ldcInt 23 C X at_21 (mW 2 rfl) ?_
  refine s_iand 24 C X at_23 ?_
  refine s_iconst 25 C X at_24 kc_iconst_3 ?_
  refine s_irem 26 C X at_25 (by decide) ?_
  obtain ⟨gg, e_gg⟩ : ∃ zz_ : Int32, zz_ = ((x1 &&& (2147483647 : Int32)) % (3 : Int32)) := ⟨_, rfl⟩
  refine Run.cast (st' := [(.int gg)]) (by subst e_gg; rfl) ?_
  have h3 := own_3 e_gg
  refine s_istore 28 C X (l' := #[.val (.int x0), .val (.int x1), .val (.int x2), .val (.ref o1), .val (.ref o2), .val (.int gg), .unset, .unset, .unset, .unset, .unset, .unset, .unset, .unset, .unset, .unset, .unset, .unset, .unset, .unset, .unset]) at_26 rfl ?_
  have J : ∀ (mm : Int32), (mm = 0 ∨ mm = 1) → Run p e below n0 (fun (v : Option Value) (h : Heap) => v = some (.int 1)) (fun o t L => FrameEnd s o t L room_1.cells room_1.slots) m T 39 #[.val (.int x0), .val (.int x1), .val (.int x2), .val (.ref o1), .val (.ref o2), .val (.int gg), .unset, .unset, .unset, .unset, .unset, .unset, .unset, .unset, .unset, .unset, .unset, .unset, .unset, .unset, .unset] [(.int mm)] := by
    intro mm hm
    refine s_istore 41 C X (l' := #[.val (.int x0), .val (.int x1), .val (.int x2), .val (.ref o1), .val (.ref o2), .val (.int gg), .val (.int mm), .unset, .unset, .unset, .unset, .unset, .unset, .unset, .unset, .unset, .unset, .unset, .unset, .unset, .unset]) at_39 rfl ?_
    refine s_new 44 C X at_41 (mW 3 rfl) (mW 4 rfl) (mW 5 rfl) (fun T hh o3 hb_o3 X E E_o3 D g_o3 => ?_)
    have ne_o1_o3 : o1 ≠ o3 := Nat.ne_of_lt (Nat.lt_of_lt_of_le A_o1.lt (Nat.le_of_eq hb_o3))
    have ne_o2_o3 : o2 ≠ o3 := Nat.ne_of_lt (Nat.lt_of_lt_of_le A_o2.lt (Nat.le_of_eq hb_o3))
    have A_o1 := A_o1.ext E
    have A_o2 := A_o2.ext E
    have F_o3_bytes : Fld Z _ o3 "com/example/eventloom/eventloom/net/MarkingStore" "bytes" "[B" .null := D (Or.inl (hw _ (mW 14 rfl))) (ty := (.array .byte)) (by decide)
    have F_o3_starts : Fld Z _ o3 "com/example/eventloom/eventloom/net/MarkingStore" "starts" "Lcom/example/eventloom/eventloom/net/IntList;" .null := D (Or.inr (hw _ (mW 26 rfl))) (ty := (.object "com/example/eventloom/eventloom/net/IntList")) (by decide)
    have F_o3_hashes : Fld Z _ o3 "com/example/eventloom/eventloom/net/MarkingStore" "hashes" "Lcom/example/eventloom/eventloom/net/IntList;" .null := D (Or.inr (hw _ (mW 28 rfl))) (ty := (.object "com/example/eventloom/eventloom/net/IntList")) (by decide)
    have F_o3_table : Fld Z _ o3 "com/example/eventloom/eventloom/net/MarkingStore" "table" "[I" .null := D (Or.inl (hw _ (mW 37 rfl))) (ty := (.array .int)) (by decide)
    have F_o3_encoded : Fld Z _ o3 "com/example/eventloom/eventloom/net/MarkingStore" "encoded" "[B" .null := D (Or.inl (hw _ (mW 39 rfl))) (ty := (.array .byte)) (by decide)
    have F_o3_encodedLength : Fld Z _ o3 "com/example/eventloom/eventloom/net/MarkingStore" "encodedLength" "I" (.int (0 : Int32)) := D (Or.inl (hw _ (mW 50 rfl))) (ty := .int) (by decide)
    have F_o3_encodedHash : Fld Z _ o3 "com/example/eventloom/eventloom/net/MarkingStore" "encodedHash" "I" (.int (0 : Int32)) := D (Or.inl (hw _ (mW 57 rfl))) (ty := .int) (by decide)
    have F_o3_length : Fld Z _ o3 "com/example/eventloom/eventloom/net/MarkingStore" "length" "I" (.int (0 : Int32)) := D (Or.inl (hw _ (mW 80 rfl))) (ty := .int) (by decide)
    have F_o3_position : Fld Z _ o3 "com/example/eventloom/eventloom/net/MarkingStore" "position" "I" (.int (0 : Int32)) := D (Or.inl (hw _ (mW 171 rfl))) (ty := .int) (by decide)
    refine s_dup 45 C X at_44 rfl ?_
    refine s_callC 48 [] [(.ref o3)] 1 C X at_45 rfl (mW 6 rfl) (mW 7 rfl) (mW 5 rfl) (mW 8 rfl) (rm_a32 l Z a0 hw o3 _ n0 X.sz E_o3 F_o3_bytes F_o3_starts F_o3_hashes F_o3_table F_o3_encoded F_o3_encodedLength F_o3_encodedHash F_o3_length F_o3_position g_o3) (lenOf pd___V rfl) rfl rfl rfl (fun T v hh X q => ?_)
    obtain ⟨o4, o5, k_o4, o6, k_o6, o8, o9, k_o9, o11, k_o11, o31, k_o31, rfl, E_o3, F_o3_bytes, F_o3_starts, F_o3_hashes, F_o3_table, F_o3_encoded, F_o3_encodedLength, F_o3_encodedHash, F_o3_length, F_o3_position, Kc, A_o4, E_o5, F_o5_values, F_o5_size, A_o6, E_o8, F_o8_values, F_o8_size, A_o9, A_o11, A_o31, ne_o3_o4, sz_o4', g_o4, ne_o3_o5, sz_o5', ne_o4_o5, g_o5, ne_o3_o6, ne_o4_o6, sz_o6', g_o6, ne_o5_o6, ne_o3_o8, sz_o8', ne_o4_o8, ne_o5_o8, ne_o6_o8, g_o8, ne_o3_o9, ne_o4_o9, ne_o5_o9, ne_o6_o9, sz_o9', g_o9, ne_o8_o9, ne_o3_o11, ne_o4_o11, ne_o5_o11, ne_o6_o11, ne_o8_o11, ne_o9_o11, sz_o11', g_o11, ne_o3_o31, sz_o31', ne_o4_o31, ne_o5_o31, ne_o6_o31, ne_o8_o31, ne_o9_o31, ne_o11_o31, g_o31⟩ := q
    have ne_o1_o4 : o1 ≠ o4 := Nat.ne_of_lt (Nat.lt_of_lt_of_le A_o1.lt sz_o4')
    have ne_o2_o4 : o2 ≠ o4 := Nat.ne_of_lt (Nat.lt_of_lt_of_le A_o2.lt sz_o4')
    have ne_o1_o5 : o1 ≠ o5 := Nat.ne_of_lt (Nat.lt_of_lt_of_le A_o1.lt sz_o5')
    have ne_o2_o5 : o2 ≠ o5 := Nat.ne_of_lt (Nat.lt_of_lt_of_le A_o2.lt sz_o5')
    have ne_o1_o6 : o1 ≠ o6 := Nat.ne_of_lt (Nat.lt_of_lt_of_le A_o1.lt sz_o6')
    have ne_o2_o6 : o2 ≠ o6 := Nat.ne_of_lt (Nat.lt_of_lt_of_le A_o2.lt sz_o6')
    have ne_o1_o8 : o1 ≠ o8 := Nat.ne_of_lt (Nat.lt_of_lt_of_le A_o1.lt sz_o8')
    have ne_o2_o8 : o2 ≠ o8 := Nat.ne_of_lt (Nat.lt_of_lt_of_le A_o2.lt sz_o8')
    have ne_o1_o9 : o1 ≠ o9 := Nat.ne_of_lt (Nat.lt_of_lt_of_le A_o1.lt sz_o9')
    have ne_o2_o9 : o2 ≠ o9 := Nat.ne_of_lt (Nat.lt_of_lt_of_le A_o2.lt sz_o9')
    have ne_o1_o11 : o1 ≠ o11 := Nat.ne_of_lt (Nat.lt_of_lt_of_le A_o1.lt sz_o11')
    have ne_o2_o11 : o2 ≠ o11 := Nat.ne_of_lt (Nat.lt_of_lt_of_le A_o2.lt sz_o11')
    have ne_o1_o31 : o1 ≠ o31 := Nat.ne_of_lt (Nat.lt_of_lt_of_le A_o1.lt sz_o31')
    have ne_o2_o31 : o2 ≠ o31 := Nat.ne_of_lt (Nat.lt_of_lt_of_le A_o2.lt sz_o31')
    have A_o1 := A_o1.keep Kc (ninS ne_o1_o3 nin0)
    have A_o2 := A_o2.keep Kc (ninS ne_o2_o3 nin0)
    refine Run.cast (st' := [(.ref o3)]) rfl ?_
    refine s_astore 50 C X (l' := #[.val (.int x0), .val (.int x1), .val (.int x2), .val (.ref o1), .val (.ref o2), .val (.int gg), .val (.int mm), .val (.ref o3), .unset, .unset, .unset, .unset, .unset, .unset, .unset, .unset, .unset, .unset, .unset, .unset, .unset]) at_48 rfl rfl ?_
    refine s_aload 52 C X at_50 rfl rfl ?_
    refine s_aloadN 53 C X at_52 rfl rfl ?_
    refine s_callV 56 [(.ref o1)] [] 0 C X at_53 (mW 40 rfl) (mW 41 rfl) (notFace_of_selects (args := #[]) (mvT C.2.1 (C.w (mW 43 rfl)))) (mW 43 rfl) (mW 42 rfl) (mW 5 rfl) (mW 44 rfl) E_o3 (rm_a59 l Z a0 hw o1 o3 k_o1 o4 o5 k_o4 o6 k_o6 o8 o9 k_o9 o11 k_o11 o31 k_o31 _ n0 X.sz A_o1 E_o3 F_o3_bytes F_o3_starts F_o3_hashes F_o3_table F_o3_encoded F_o3_encodedLength F_o3_encodedHash F_o3_length F_o3_position A_o4 E_o5 F_o5_values F_o5_size A_o6 E_o8 F_o8_values F_o8_size A_o9 A_o11 A_o31 ne_o1_o3 g_o3 ne_o1_o4 g_o4 ne_o1_o5 g_o5 ne_o1_o6 g_o6 ne_o1_o8 g_o8 ne_o1_o9 g_o9 ne_o1_o11 g_o11 ne_o1_o31 g_o31 ne_o3_o4 ne_o3_o5 ne_o4_o5 ne_o3_o6 ne_o4_o6 ne_o5_o6 ne_o3_o8 ne_o4_o8 ne_o5_o8 ne_o6_o8 ne_o3_o9 ne_o4_o9 ne_o5_o9 ne_o6_o9 ne_o8_o9 ne_o3_o11 ne_o4_o11 ne_o5_o11 ne_o6_o11 ne_o8_o11 ne_o9_o11 ne_o3_o31 ne_o4_o31 ne_o5_o31 ne_o6_o31 ne_o8_o31 ne_o9_o31 ne_o11_o31) (lenOf pd___J_I rfl) rfl rfl rfl (fun T v hh X q => ?_)
    obtain ⟨rfl, A_o11, Kc, E_o3, F_o3_bytes, F_o3_starts, F_o3_hashes, F_o3_table, F_o3_encoded, F_o3_encodedLength, F_o3_encodedHash, F_o3_length, F_o3_position, A_o31, A_o4, E_o5, F_o5_values, F_o5_size, A_o6, E_o8, F_o8_values, F_o8_size, A_o9⟩ := q
    have A_o1 := A_o1.keep Kc (ninS ne_o1_o3 (ninS ne_o1_o4 (ninS ne_o1_o5 (ninS ne_o1_o8 (ninS ne_o1_o11 (ninS ne_o1_o31 (ninS ne_o1_o6 (ninS ne_o1_o9 nin0))))))))
    have A_o2 := A_o2.keep Kc (ninS ne_o2_o3 (ninS ne_o2_o4 (ninS ne_o2_o5 (ninS ne_o2_o8 (ninS ne_o2_o11 (ninS ne_o2_o31 (ninS ne_o2_o6 (ninS ne_o2_o9 nin0))))))))
    refine Run.cast (st' := [(.int (0 : Int32))]) rfl ?_
    refine s_pop 57 C X at_56 rfl ?_
    refine s_new 60 C X at_57 (mW 91 rfl) (mW 16 rfl) (mW 17 rfl) (fun T hh o60 hb_o60 X E E_o60 D g_o60 => ?_)
    have ne_o1_o60 : o1 ≠ o60 := Nat.ne_of_lt (Nat.lt_of_lt_of_le A_o1.lt (Nat.le_of_eq hb_o60))
    have ne_o2_o60 : o2 ≠ o60 := Nat.ne_of_lt (Nat.lt_of_lt_of_le A_o2.lt (Nat.le_of_eq hb_o60))
    have ne_o11_o60 : o11 ≠ o60 := Nat.ne_of_lt (Nat.lt_of_lt_of_le A_o11.lt (Nat.le_of_eq hb_o60))
    have ne_o3_o60 : o3 ≠ o60 := Nat.ne_of_lt (Nat.lt_of_lt_of_le E_o3.lt (Nat.le_of_eq hb_o60))
    have ne_o31_o60 : o31 ≠ o60 := Nat.ne_of_lt (Nat.lt_of_lt_of_le A_o31.lt (Nat.le_of_eq hb_o60))
    have ne_o4_o60 : o4 ≠ o60 := Nat.ne_of_lt (Nat.lt_of_lt_of_le A_o4.lt (Nat.le_of_eq hb_o60))
    have ne_o5_o60 : o5 ≠ o60 := Nat.ne_of_lt (Nat.lt_of_lt_of_le E_o5.lt (Nat.le_of_eq hb_o60))
    have ne_o6_o60 : o6 ≠ o60 := Nat.ne_of_lt (Nat.lt_of_lt_of_le A_o6.lt (Nat.le_of_eq hb_o60))
    have ne_o8_o60 : o8 ≠ o60 := Nat.ne_of_lt (Nat.lt_of_lt_of_le E_o8.lt (Nat.le_of_eq hb_o60))
    have ne_o9_o60 : o9 ≠ o60 := Nat.ne_of_lt (Nat.lt_of_lt_of_le A_o9.lt (Nat.le_of_eq hb_o60))
    have A_o1 := A_o1.ext E
    have A_o2 := A_o2.ext E
    have A_o11 := A_o11.ext E
    have E_o3 := E_o3.ext E
    have F_o3_bytes := F_o3_bytes.ext E
    have F_o3_starts := F_o3_starts.ext E
    have F_o3_hashes := F_o3_hashes.ext E
    have F_o3_table := F_o3_table.ext E
    have F_o3_encoded := F_o3_encoded.ext E
    have F_o3_encodedLength := F_o3_encodedLength.ext E
    have F_o3_encodedHash := F_o3_encodedHash.ext E
    have F_o3_length := F_o3_length.ext E
    have F_o3_position := F_o3_position.ext E
    have A_o31 := A_o31.ext E
    have A_o4 := A_o4.ext E
    have E_o5 := E_o5.ext E
    have F_o5_values := F_o5_values.ext E
    have F_o5_size := F_o5_size.ext E
    have A_o6 := A_o6.ext E
    have E_o8 := E_o8.ext E
    have F_o8_values := F_o8_values.ext E
    have F_o8_size := F_o8_size.ext E
    have A_o9 := A_o9.ext E
    have F_o60_values : Fld Z _ o60 "com/example/eventloom/eventloom/net/IntList" "values" "[I" .null := D (Or.inl (hw _ (mW 24 rfl))) (ty := (.array .int)) (by decide)
    have F_o60_size : Fld Z _ o60 "com/example/eventloom/eventloom/net/IntList" "size" "I" (.int (0 : Int32)) := D (Or.inl (hw _ (mW 78 rfl))) (ty := .int) (by decide)
    refine s_dup 61 C X at_60 rfl ?_
    refine s_callC 64 [] [(.ref o60)] 1 C X at_61 rfl (mW 92 rfl) (mW 19 rfl) (mW 17 rfl) (mW 20 rfl) (rm_a62 l Z a0 hw o60 _ n0 X.sz E_o60 F_o60_values F_o60_size g_o60) (lenOf pd___V rfl) rfl rfl rfl (fun T v hh X q => ?_)
    obtain ⟨o61, k_o61, rfl, E_o60, F_o60_values, F_o60_size, Kc, A_o61, ne_o60_o61, sz_o61', g_o61⟩ := q
    have ne_o1_o61 : o1 ≠ o61 := Nat.ne_of_lt (Nat.lt_of_lt_of_le A_o1.lt sz_o61')
    have ne_o2_o61 : o2 ≠ o61 := Nat.ne_of_lt (Nat.lt_of_lt_of_le A_o2.lt sz_o61')
    have ne_o11_o61 : o11 ≠ o61 := Nat.ne_of_lt (Nat.lt_of_lt_of_le A_o11.lt sz_o61')
    have ne_o3_o61 : o3 ≠ o61 := Nat.ne_of_lt (Nat.lt_of_lt_of_le E_o3.lt sz_o61')
    have ne_o31_o61 : o31 ≠ o61 := Nat.ne_of_lt (Nat.lt_of_lt_of_le A_o31.lt sz_o61')
    have ne_o4_o61 : o4 ≠ o61 := Nat.ne_of_lt (Nat.lt_of_lt_of_le A_o4.lt sz_o61')
    have ne_o5_o61 : o5 ≠ o61 := Nat.ne_of_lt (Nat.lt_of_lt_of_le E_o5.lt sz_o61')
    have ne_o6_o61 : o6 ≠ o61 := Nat.ne_of_lt (Nat.lt_of_lt_of_le A_o6.lt sz_o61')
    have ne_o8_o61 : o8 ≠ o61 := Nat.ne_of_lt (Nat.lt_of_lt_of_le E_o8.lt sz_o61')
    have ne_o9_o61 : o9 ≠ o61 := Nat.ne_of_lt (Nat.lt_of_lt_of_le A_o9.lt sz_o61')
    have A_o1 := A_o1.keep Kc (ninS ne_o1_o60 nin0)
    have A_o2 := A_o2.keep Kc (ninS ne_o2_o60 nin0)
    have A_o11 := A_o11.keep Kc (ninS ne_o11_o60 nin0)
    have E_o3 := E_o3.keep Kc
    have F_o3_bytes := F_o3_bytes.keep Kc (ninS ne_o3_o60 nin0)
    have F_o3_starts := F_o3_starts.keep Kc (ninS ne_o3_o60 nin0)
    have F_o3_hashes := F_o3_hashes.keep Kc (ninS ne_o3_o60 nin0)
    have F_o3_table := F_o3_table.keep Kc (ninS ne_o3_o60 nin0)
    have F_o3_encoded := F_o3_encoded.keep Kc (ninS ne_o3_o60 nin0)
    have F_o3_encodedLength := F_o3_encodedLength.keep Kc (ninS ne_o3_o60 nin0)
    have F_o3_encodedHash := F_o3_encodedHash.keep Kc (ninS ne_o3_o60 nin0)
    have F_o3_length := F_o3_length.keep Kc (ninS ne_o3_o60 nin0)
    have F_o3_position := F_o3_position.keep Kc (ninS ne_o3_o60 nin0)
    have A_o31 := A_o31.keep Kc (ninS ne_o31_o60 nin0)
    have A_o4 := A_o4.keep Kc (ninS ne_o4_o60 nin0)
    have E_o5 := E_o5.keep Kc
    have F_o5_values := F_o5_values.keep Kc (ninS ne_o5_o60 nin0)
    have F_o5_size := F_o5_size.keep Kc (ninS ne_o5_o60 nin0)
    have A_o6 := A_o6.keep Kc (ninS ne_o6_o60 nin0)
    have E_o8 := E_o8.keep Kc
    have F_o8_values := F_o8_values.keep Kc (ninS ne_o8_o60 nin0)
    have F_o8_size := F_o8_size.keep Kc (ninS ne_o8_o60 nin0)
    have A_o9 := A_o9.keep Kc (ninS ne_o9_o60 nin0)
    refine Run.cast (st' := [(.ref o60)]) rfl ?_
    refine s_astore 66 C X (l' := #[.val (.int x0), .val (.int x1), .val (.int x2), .val (.ref o1), .val (.ref o2), .val (.int gg), .val (.int mm), .val (.ref o3), .val (.ref o60), .unset, .unset, .unset, .unset, .unset, .unset, .unset, .unset, .unset, .unset, .unset, .unset]) at_64 rfl rfl ?_
    refine s_aload 68 C X at_66 rfl rfl ?_
    refine s_iconst 69 C X at_68 kc_iconst_m1 ?_
    refine s_callV 72 [(.int (-1 : Int32))] [] 0 C X at_69 (mW 93 rfl) (mW 86 rfl) (notFace_of_selects (args := #[]) (mvT C.2.1 (C.w (mW 88 rfl)))) (mW 88 rfl) (mW 87 rfl) (mW 17 rfl) (mW 89 rfl) E_o60 (rm_a64 l Z a0 hw o60 o61 k_o61 _ n0 X.sz E_o60 F_o60_values F_o60_size A_o61 g_o60 g_o61 ne_o60_o61) (lenOf pd__I_V rfl) rfl rfl rfl (fun T v hh X q => ?_)
    obtain ⟨rfl, E_o60, F_o60_values, F_o60_size, A_o61, Kc⟩ := q
    have nn_o3 : o3 ∉ [o60, o61] := (ninS ne_o3_o60 (ninS ne_o3_o61 nin0))
    have nn_o5 : o5 ∉ [o60, o61] := (ninS ne_o5_o60 (ninS ne_o5_o61 nin0))
    have nn_o8 : o8 ∉ [o60, o61] := (ninS ne_o8_o60 (ninS ne_o8_o61 nin0))
    have A_o1 := A_o1.keep Kc (ninS ne_o1_o60 (ninS ne_o1_o61 nin0))
    have A_o2 := A_o2.keep Kc (ninS ne_o2_o60 (ninS ne_o2_o61 nin0))
    have A_o11 := A_o11.keep Kc (ninS ne_o11_o60 (ninS ne_o11_o61 nin0))
    have E_o3 := E_o3.keep Kc
    have F_o3_bytes := F_o3_bytes.keep Kc nn_o3
    have F_o3_starts := F_o3_starts.keep Kc nn_o3
    have F_o3_hashes := F_o3_hashes.keep Kc nn_o3
    have F_o3_table := F_o3_table.keep Kc nn_o3
    have F_o3_encoded := F_o3_encoded.keep Kc nn_o3
    have F_o3_encodedLength := F_o3_encodedLength.keep Kc nn_o3
    have F_o3_encodedHash := F_o3_encodedHash.keep Kc nn_o3
    have F_o3_length := F_o3_length.keep Kc nn_o3
    have F_o3_position := F_o3_position.keep Kc nn_o3
    have A_o31 := A_o31.keep Kc (ninS ne_o31_o60 (ninS ne_o31_o61 nin0))
    have A_o4 := A_o4.keep Kc (ninS ne_o4_o60 (ninS ne_o4_o61 nin0))
    have E_o5 := E_o5.keep Kc
    have F_o5_values := F_o5_values.keep Kc nn_o5
    have F_o5_size := F_o5_size.keep Kc nn_o5
    have A_o6 := A_o6.keep Kc (ninS ne_o6_o60 (ninS ne_o6_o61 nin0))
    have E_o8 := E_o8.keep Kc
    have F_o8_values := F_o8_values.keep Kc nn_o8
    have F_o8_size := F_o8_size.keep Kc nn_o8
    have A_o9 := A_o9.keep Kc (ninS ne_o9_o60 (ninS ne_o9_o61 nin0))
    refine Run.cast (st' := []) rfl ?_
    refine s_new 75 C X at_72 (mW 94 rfl) (mW 95 rfl) (mW 96 rfl) (fun T hh o65 hb_o65 X E E_o65 D g_o65 => ?_)
    have ne_o1_o65 : o1 ≠ o65 := Nat.ne_of_lt (Nat.lt_of_lt_of_le A_o1.lt (Nat.le_of_eq hb_o65))
    have ne_o2_o65 : o2 ≠ o65 := Nat.ne_of_lt (Nat.lt_of_lt_of_le A_o2.lt (Nat.le_of_eq hb_o65))
    have ne_o11_o65 : o11 ≠ o65 := Nat.ne_of_lt (Nat.lt_of_lt_of_le A_o11.lt (Nat.le_of_eq hb_o65))
    have ne_o3_o65 : o3 ≠ o65 := Nat.ne_of_lt (Nat.lt_of_lt_of_le E_o3.lt (Nat.le_of_eq hb_o65))
    have ne_o31_o65 : o31 ≠ o65 := Nat.ne_of_lt (Nat.lt_of_lt_of_le A_o31.lt (Nat.le_of_eq hb_o65))
    have ne_o4_o65 : o4 ≠ o65 := Nat.ne_of_lt (Nat.lt_of_lt_of_le A_o4.lt (Nat.le_of_eq hb_o65))
    have ne_o5_o65 : o5 ≠ o65 := Nat.ne_of_lt (Nat.lt_of_lt_of_le E_o5.lt (Nat.le_of_eq hb_o65))
    have ne_o6_o65 : o6 ≠ o65 := Nat.ne_of_lt (Nat.lt_of_lt_of_le A_o6.lt (Nat.le_of_eq hb_o65))
    have ne_o8_o65 : o8 ≠ o65 := Nat.ne_of_lt (Nat.lt_of_lt_of_le E_o8.lt (Nat.le_of_eq hb_o65))
    have ne_o9_o65 : o9 ≠ o65 := Nat.ne_of_lt (Nat.lt_of_lt_of_le A_o9.lt (Nat.le_of_eq hb_o65))
    have ne_o60_o65 : o60 ≠ o65 := Nat.ne_of_lt (Nat.lt_of_lt_of_le E_o60.lt (Nat.le_of_eq hb_o65))
    have ne_o61_o65 : o61 ≠ o65 := Nat.ne_of_lt (Nat.lt_of_lt_of_le A_o61.lt (Nat.le_of_eq hb_o65))
    have A_o1 := A_o1.ext E
    have A_o2 := A_o2.ext E
    have A_o11 := A_o11.ext E
    have E_o3 := E_o3.ext E
    have F_o3_bytes := F_o3_bytes.ext E
    have F_o3_starts := F_o3_starts.ext E
    have F_o3_hashes := F_o3_hashes.ext E
    have F_o3_table := F_o3_table.ext E
    have F_o3_encoded := F_o3_encoded.ext E
    have F_o3_encodedLength := F_o3_encodedLength.ext E
    have F_o3_encodedHash := F_o3_encodedHash.ext E
    have F_o3_length := F_o3_length.ext E
    have F_o3_position := F_o3_position.ext E
    have A_o31 := A_o31.ext E
    have A_o4 := A_o4.ext E
    have E_o5 := E_o5.ext E
    have F_o5_values := F_o5_values.ext E
    have F_o5_size := F_o5_size.ext E
    have A_o6 := A_o6.ext E
    have E_o8 := E_o8.ext E
    have F_o8_values := F_o8_values.ext E
    have F_o8_size := F_o8_size.ext E
    have A_o9 := A_o9.ext E
    have E_o60 := E_o60.ext E
    have F_o60_values := F_o60_values.ext E
    have F_o60_size := F_o60_size.ext E
    have A_o61 := A_o61.ext E
    have F_o65_tokens : Fld Z _ o65 "com/example/eventloom/eventloom/verification/CoverSearch" "tokens" "[J" .null := D (Or.inl (hw _ (mW 102 rfl))) (ty := (.array .long)) (by decide)
    have F_o65_nearestFewer : Fld Z _ o65 "com/example/eventloom/eventloom/verification/CoverSearch" "nearestFewer" "Lcom/example/eventloom/eventloom/net/IntList;" .null := D (Or.inr (hw _ (mW 106 rfl))) (ty := (.object "com/example/eventloom/eventloom/net/IntList")) (by decide)
    have F_o65_nearestUnmarked : Fld Z _ o65 "com/example/eventloom/eventloom/verification/CoverSearch" "nearestUnmarked" "Lcom/example/eventloom/eventloom/verification/IntBlockList;" .null := D (Or.inr (hw _ (mW 119 rfl))) (ty := (.object "com/example/eventloom/eventloom/verification/IntBlockList")) (by decide)
    have F_o65_firstNearestUnmarked : Fld Z _ o65 "com/example/eventloom/eventloom/verification/CoverSearch" "firstNearestUnmarked" "Lcom/example/eventloom/eventloom/net/IntList;" .null := D (Or.inr (hw _ (mW 121 rfl))) (ty := (.object "com/example/eventloom/eventloom/net/IntList")) (by decide)
    have F_o65_markings : Fld Z _ o65 "com/example/eventloom/eventloom/verification/CoverSearch" "markings" "Lcom/example/eventloom/eventloom/net/MarkingStore;" .null := D (Or.inr (hw _ (mW 123 rfl))) (ty := (.object "com/example/eventloom/eventloom/net/MarkingStore")) (by decide)
    have F_o65_parents : Fld Z _ o65 "com/example/eventloom/eventloom/verification/CoverSearch" "parents" "Lcom/example/eventloom/eventloom/net/IntList;" .null := D (Or.inr (hw _ (mW 125 rfl))) (ty := (.object "com/example/eventloom/eventloom/net/IntList")) (by decide)
    have F_o65_stepsPerMarking : Fld Z _ o65 "com/example/eventloom/eventloom/verification/CoverSearch" "stepsPerMarking" "I" (.int (0 : Int32)) := D (Or.inr (hw _ (mW 127 rfl))) (ty := .int) (by decide)
    have F_o65_searchedMarking : Fld Z _ o65 "com/example/eventloom/eventloom/verification/CoverSearch" "searchedMarking" "[J" .null := D (Or.inr (hw _ (mW 129 rfl))) (ty := (.array .long)) (by decide)
    have F_o65_searchedPlaces : Fld Z _ o65 "com/example/eventloom/eventloom/verification/CoverSearch" "searchedPlaces" "[I" .null := D (Or.inr (hw _ (mW 131 rfl))) (ty := (.array .int)) (by decide)
    have F_o65_searchedTokens : Fld Z _ o65 "com/example/eventloom/eventloom/verification/CoverSearch" "searchedTokens" "[J" .null := D (Or.inr (hw _ (mW 133 rfl))) (ty := (.array .long)) (by decide)
    have F_o65_parentPlaces : Fld Z _ o65 "com/example/eventloom/eventloom/verification/CoverSearch" "parentPlaces" "[I" .null := D (Or.inr (hw _ (mW 135 rfl))) (ty := (.array .int)) (by decide)
    have F_o65_parentTokens : Fld Z _ o65 "com/example/eventloom/eventloom/verification/CoverSearch" "parentTokens" "[J" .null := D (Or.inr (hw _ (mW 137 rfl))) (ty := (.array .long)) (by decide)
    have F_o65_unmarkedRanks : Fld Z _ o65 "com/example/eventloom/eventloom/verification/CoverSearch" "unmarkedRanks" "[I" .null := D (Or.inr (hw _ (mW 139 rfl))) (ty := (.array .int)) (by decide)
    have F_o65_searched : Fld Z _ o65 "com/example/eventloom/eventloom/verification/CoverSearch" "searched" "I" (.int (0 : Int32)) := D (Or.inl (hw _ (mW 146 rfl))) (ty := .int) (by decide)
    have F_o65_steps : Fld Z _ o65 "com/example/eventloom/eventloom/verification/CoverSearch" "steps" "J" (.long (0 : Int64)) := D (Or.inl (hw _ (mW 149 rfl))) (ty := .long) (by decide)
    refine s_dup 76 C X at_75 rfl ?_
    refine s_aload 78 C X at_76 rfl rfl ?_
    refine s_aload 80 C X at_78 rfl rfl ?_
    refine s_iconst 81 C X at_80 kc_iconst_1 ?_
    refine s_iloadN 82 C X at_81 rfl ?_
    refine s_callC 85 [(.ref o3), (.ref o60), (.int (1 : Int32)), (.int x0)] [(.ref o65)] 1 C X at_82 rfl (mW 97 rfl) (mW 98 rfl) (mW 96 rfl) (mW 99 rfl) (rm_a82 l Z a0 hw x0 o3 o60 o65 _ n0 X.sz E_o65 F_o65_tokens F_o65_nearestFewer F_o65_nearestUnmarked F_o65_firstNearestUnmarked F_o65_markings F_o65_parents F_o65_stepsPerMarking F_o65_searchedMarking F_o65_searchedPlaces F_o65_searchedTokens F_o65_parentPlaces F_o65_parentTokens F_o65_unmarkedRanks F_o65_searched F_o65_steps g_o65) (lenOf pd__Lcom_example_eventloom_eventloom_net_MarkingStore_Lcom_example_eventloom_eventloom_net_IntList_II_V rfl) rfl rfl rfl (fun T v hh X q => ?_)
    obtain ⟨o66, o67, k_o66, o68, k_o68, o70, o71, k_o71, o73, o74, k_o74, o76, o77, o78, o79, o80, o81, k_o76, k_o77, k_o78, k_o79, k_o80, k_o81, rfl, E_o65, F_o65_tokens, F_o65_nearestFewer, F_o65_nearestUnmarked, F_o65_firstNearestUnmarked, F_o65_markings, F_o65_parents, F_o65_stepsPerMarking, F_o65_searchedMarking, F_o65_searchedPlaces, F_o65_searchedTokens, F_o65_parentPlaces, F_o65_parentTokens, F_o65_unmarkedRanks, F_o65_searched, F_o65_steps, Kc, A_o66, E_o67, F_o67_values, F_o67_size, A_o68, E_o70, F_o70_blocks, F_o70_size, E_o71, A_o71, E_o73, F_o73_values, F_o73_size, A_o74, A_o76, A_o77, A_o78, A_o79, A_o80, A_o81, ne_o65_o66, sz_o66', g_o66, ne_o65_o67, sz_o67', ne_o66_o67, g_o67, ne_o65_o68, ne_o66_o68, sz_o68', g_o68, ne_o67_o68, ne_o65_o70, sz_o70', ne_o66_o70, ne_o67_o70, ne_o68_o70, g_o70, ne_o65_o71, ne_o66_o71, ne_o67_o71, ne_o68_o71, sz_o71', g_o71, ne_o70_o71, O_o71, ne_o65_o73, sz_o73', ne_o66_o73, ne_o67_o73, ne_o68_o73, ne_o70_o73, ne_o71_o73, g_o73, ne_o65_o74, ne_o66_o74, ne_o67_o74, ne_o68_o74, ne_o70_o74, ne_o71_o74, sz_o74', g_o74, ne_o73_o74, ne_o65_o76, sz_o76', ne_o66_o76, ne_o67_o76, ne_o68_o76, ne_o70_o76, ne_o71_o76, ne_o73_o76, ne_o74_o76, g_o76, ne_o65_o77, sz_o77', ne_o66_o77, ne_o67_o77, ne_o68_o77, ne_o70_o77, ne_o71_o77, ne_o73_o77, ne_o74_o77, ne_o76_o77, g_o77, ne_o65_o78, sz_o78', ne_o66_o78, ne_o67_o78, ne_o68_o78, ne_o70_o78, ne_o71_o78, ne_o73_o78, ne_o74_o78, ne_o76_o78, ne_o77_o78, g_o78, ne_o65_o79, sz_o79', ne_o66_o79, ne_o67_o79, ne_o68_o79, ne_o70_o79, ne_o71_o79, ne_o73_o79, ne_o74_o79, ne_o76_o79, ne_o77_o79, ne_o78_o79, g_o79, ne_o65_o80, sz_o80', ne_o66_o80, ne_o67_o80, ne_o68_o80, ne_o70_o80, ne_o71_o80, ne_o73_o80, ne_o74_o80, ne_o76_o80, ne_o77_o80, ne_o78_o80, ne_o79_o80, g_o80, ne_o65_o81, sz_o81', ne_o66_o81, ne_o67_o81, ne_o68_o81, ne_o70_o81, ne_o71_o81, ne_o73_o81, ne_o74_o81, ne_o76_o81, ne_o77_o81, ne_o78_o81, ne_o79_o81, ne_o80_o81, g_o81⟩ := q
    have ne_o1_o66 : o1 ≠ o66 := Nat.ne_of_lt (Nat.lt_of_lt_of_le A_o1.lt sz_o66')
    have ne_o2_o66 : o2 ≠ o66 := Nat.ne_of_lt (Nat.lt_of_lt_of_le A_o2.lt sz_o66')
    have ne_o11_o66 : o11 ≠ o66 := Nat.ne_of_lt (Nat.lt_of_lt_of_le A_o11.lt sz_o66')
    have ne_o3_o66 : o3 ≠ o66 := Nat.ne_of_lt (Nat.lt_of_lt_of_le E_o3.lt sz_o66')
    have ne_o31_o66 : o31 ≠ o66 := Nat.ne_of_lt (Nat.lt_of_lt_of_le A_o31.lt sz_o66')
    have ne_o4_o66 : o4 ≠ o66 := Nat.ne_of_lt (Nat.lt_of_lt_of_le A_o4.lt sz_o66')
    have ne_o5_o66 : o5 ≠ o66 := Nat.ne_of_lt (Nat.lt_of_lt_of_le E_o5.lt sz_o66')
    have ne_o6_o66 : o6 ≠ o66 := Nat.ne_of_lt (Nat.lt_of_lt_of_le A_o6.lt sz_o66')
    have ne_o8_o66 : o8 ≠ o66 := Nat.ne_of_lt (Nat.lt_of_lt_of_le E_o8.lt sz_o66')
    have ne_o9_o66 : o9 ≠ o66 := Nat.ne_of_lt (Nat.lt_of_lt_of_le A_o9.lt sz_o66')
    have ne_o60_o66 : o60 ≠ o66 := Nat.ne_of_lt (Nat.lt_of_lt_of_le E_o60.lt sz_o66')
    have ne_o61_o66 : o61 ≠ o66 := Nat.ne_of_lt (Nat.lt_of_lt_of_le A_o61.lt sz_o66')
    have ne_o1_o67 : o1 ≠ o67 := Nat.ne_of_lt (Nat.lt_of_lt_of_le A_o1.lt sz_o67')
    have ne_o2_o67 : o2 ≠ o67 := Nat.ne_of_lt (Nat.lt_of_lt_of_le A_o2.lt sz_o67')
    have ne_o11_o67 : o11 ≠ o67 := Nat.ne_of_lt (Nat.lt_of_lt_of_le A_o11.lt sz_o67')
    have ne_o3_o67 : o3 ≠ o67 := Nat.ne_of_lt (Nat.lt_of_lt_of_le E_o3.lt sz_o67')
    have ne_o31_o67 : o31 ≠ o67 := Nat.ne_of_lt (Nat.lt_of_lt_of_le A_o31.lt sz_o67')
    have ne_o4_o67 : o4 ≠ o67 := Nat.ne_of_lt (Nat.lt_of_lt_of_le A_o4.lt sz_o67')
    have ne_o5_o67 : o5 ≠ o67 := Nat.ne_of_lt (Nat.lt_of_lt_of_le E_o5.lt sz_o67')
    have ne_o6_o67 : o6 ≠ o67 := Nat.ne_of_lt (Nat.lt_of_lt_of_le A_o6.lt sz_o67')
    have ne_o8_o67 : o8 ≠ o67 := Nat.ne_of_lt (Nat.lt_of_lt_of_le E_o8.lt sz_o67')
    have ne_o9_o67 : o9 ≠ o67 := Nat.ne_of_lt (Nat.lt_of_lt_of_le A_o9.lt sz_o67')
    have ne_o60_o67 : o60 ≠ o67 := Nat.ne_of_lt (Nat.lt_of_lt_of_le E_o60.lt sz_o67')
    have ne_o61_o67 : o61 ≠ o67 := Nat.ne_of_lt (Nat.lt_of_lt_of_le A_o61.lt sz_o67')
    have ne_o1_o68 : o1 ≠ o68 := Nat.ne_of_lt (Nat.lt_of_lt_of_le A_o1.lt sz_o68')
    have ne_o2_o68 : o2 ≠ o68 := Nat.ne_of_lt (Nat.lt_of_lt_of_le A_o2.lt sz_o68')
    have ne_o11_o68 : o11 ≠ o68 := Nat.ne_of_lt (Nat.lt_of_lt_of_le A_o11.lt sz_o68')
    have ne_o3_o68 : o3 ≠ o68 := Nat.ne_of_lt (Nat.lt_of_lt_of_le E_o3.lt sz_o68')
    have ne_o31_o68 : o31 ≠ o68 := Nat.ne_of_lt (Nat.lt_of_lt_of_le A_o31.lt sz_o68')
    have ne_o4_o68 : o4 ≠ o68 := Nat.ne_of_lt (Nat.lt_of_lt_of_le A_o4.lt sz_o68')
    have ne_o5_o68 : o5 ≠ o68 := Nat.ne_of_lt (Nat.lt_of_lt_of_le E_o5.lt sz_o68')
    have ne_o6_o68 : o6 ≠ o68 := Nat.ne_of_lt (Nat.lt_of_lt_of_le A_o6.lt sz_o68')
    have ne_o8_o68 : o8 ≠ o68 := Nat.ne_of_lt (Nat.lt_of_lt_of_le E_o8.lt sz_o68')
    have ne_o9_o68 : o9 ≠ o68 := Nat.ne_of_lt (Nat.lt_of_lt_of_le A_o9.lt sz_o68')
    have ne_o60_o68 : o60 ≠ o68 := Nat.ne_of_lt (Nat.lt_of_lt_of_le E_o60.lt sz_o68')
    have ne_o61_o68 : o61 ≠ o68 := Nat.ne_of_lt (Nat.lt_of_lt_of_le A_o61.lt sz_o68')
    have ne_o1_o70 : o1 ≠ o70 := Nat.ne_of_lt (Nat.lt_of_lt_of_le A_o1.lt sz_o70')
    have ne_o2_o70 : o2 ≠ o70 := Nat.ne_of_lt (Nat.lt_of_lt_of_le A_o2.lt sz_o70')
    have ne_o11_o70 : o11 ≠ o70 := Nat.ne_of_lt (Nat.lt_of_lt_of_le A_o11.lt sz_o70')
    have ne_o3_o70 : o3 ≠ o70 := Nat.ne_of_lt (Nat.lt_of_lt_of_le E_o3.lt sz_o70')
    have ne_o31_o70 : o31 ≠ o70 := Nat.ne_of_lt (Nat.lt_of_lt_of_le A_o31.lt sz_o70')
    have ne_o4_o70 : o4 ≠ o70 := Nat.ne_of_lt (Nat.lt_of_lt_of_le A_o4.lt sz_o70')
    have ne_o5_o70 : o5 ≠ o70 := Nat.ne_of_lt (Nat.lt_of_lt_of_le E_o5.lt sz_o70')
    have ne_o6_o70 : o6 ≠ o70 := Nat.ne_of_lt (Nat.lt_of_lt_of_le A_o6.lt sz_o70')
    have ne_o8_o70 : o8 ≠ o70 := Nat.ne_of_lt (Nat.lt_of_lt_of_le E_o8.lt sz_o70')
    have ne_o9_o70 : o9 ≠ o70 := Nat.ne_of_lt (Nat.lt_of_lt_of_le A_o9.lt sz_o70')
    have ne_o60_o70 : o60 ≠ o70 := Nat.ne_of_lt (Nat.lt_of_lt_of_le E_o60.lt sz_o70')
    have ne_o61_o70 : o61 ≠ o70 := Nat.ne_of_lt (Nat.lt_of_lt_of_le A_o61.lt sz_o70')
    have ne_o1_o71 : o1 ≠ o71 := Nat.ne_of_lt (Nat.lt_of_lt_of_le A_o1.lt sz_o71')
    have ne_o2_o71 : o2 ≠ o71 := Nat.ne_of_lt (Nat.lt_of_lt_of_le A_o2.lt sz_o71')
    have ne_o11_o71 : o11 ≠ o71 := Nat.ne_of_lt (Nat.lt_of_lt_of_le A_o11.lt sz_o71')
    have ne_o3_o71 : o3 ≠ o71 := Nat.ne_of_lt (Nat.lt_of_lt_of_le E_o3.lt sz_o71')
    have ne_o31_o71 : o31 ≠ o71 := Nat.ne_of_lt (Nat.lt_of_lt_of_le A_o31.lt sz_o71')
    have ne_o4_o71 : o4 ≠ o71 := Nat.ne_of_lt (Nat.lt_of_lt_of_le A_o4.lt sz_o71')
    have ne_o5_o71 : o5 ≠ o71 := Nat.ne_of_lt (Nat.lt_of_lt_of_le E_o5.lt sz_o71')
    have ne_o6_o71 : o6 ≠ o71 := Nat.ne_of_lt (Nat.lt_of_lt_of_le A_o6.lt sz_o71')
    have ne_o8_o71 : o8 ≠ o71 := Nat.ne_of_lt (Nat.lt_of_lt_of_le E_o8.lt sz_o71')
    have ne_o9_o71 : o9 ≠ o71 := Nat.ne_of_lt (Nat.lt_of_lt_of_le A_o9.lt sz_o71')
    have ne_o60_o71 : o60 ≠ o71 := Nat.ne_of_lt (Nat.lt_of_lt_of_le E_o60.lt sz_o71')
    have ne_o61_o71 : o61 ≠ o71 := Nat.ne_of_lt (Nat.lt_of_lt_of_le A_o61.lt sz_o71')
    have ne_o1_o73 : o1 ≠ o73 := Nat.ne_of_lt (Nat.lt_of_lt_of_le A_o1.lt sz_o73')
    have ne_o2_o73 : o2 ≠ o73 := Nat.ne_of_lt (Nat.lt_of_lt_of_le A_o2.lt sz_o73')
    have ne_o11_o73 : o11 ≠ o73 := Nat.ne_of_lt (Nat.lt_of_lt_of_le A_o11.lt sz_o73')
    have ne_o3_o73 : o3 ≠ o73 := Nat.ne_of_lt (Nat.lt_of_lt_of_le E_o3.lt sz_o73')
    have ne_o31_o73 : o31 ≠ o73 := Nat.ne_of_lt (Nat.lt_of_lt_of_le A_o31.lt sz_o73')
    have ne_o4_o73 : o4 ≠ o73 := Nat.ne_of_lt (Nat.lt_of_lt_of_le A_o4.lt sz_o73')
    have ne_o5_o73 : o5 ≠ o73 := Nat.ne_of_lt (Nat.lt_of_lt_of_le E_o5.lt sz_o73')
    have ne_o6_o73 : o6 ≠ o73 := Nat.ne_of_lt (Nat.lt_of_lt_of_le A_o6.lt sz_o73')
    have ne_o8_o73 : o8 ≠ o73 := Nat.ne_of_lt (Nat.lt_of_lt_of_le E_o8.lt sz_o73')
    have ne_o9_o73 : o9 ≠ o73 := Nat.ne_of_lt (Nat.lt_of_lt_of_le A_o9.lt sz_o73')
    have ne_o60_o73 : o60 ≠ o73 := Nat.ne_of_lt (Nat.lt_of_lt_of_le E_o60.lt sz_o73')
    have ne_o61_o73 : o61 ≠ o73 := Nat.ne_of_lt (Nat.lt_of_lt_of_le A_o61.lt sz_o73')
    have ne_o1_o74 : o1 ≠ o74 := Nat.ne_of_lt (Nat.lt_of_lt_of_le A_o1.lt sz_o74')
    have ne_o2_o74 : o2 ≠ o74 := Nat.ne_of_lt (Nat.lt_of_lt_of_le A_o2.lt sz_o74')
    have ne_o11_o74 : o11 ≠ o74 := Nat.ne_of_lt (Nat.lt_of_lt_of_le A_o11.lt sz_o74')
    have ne_o3_o74 : o3 ≠ o74 := Nat.ne_of_lt (Nat.lt_of_lt_of_le E_o3.lt sz_o74')
    have ne_o31_o74 : o31 ≠ o74 := Nat.ne_of_lt (Nat.lt_of_lt_of_le A_o31.lt sz_o74')
    have ne_o4_o74 : o4 ≠ o74 := Nat.ne_of_lt (Nat.lt_of_lt_of_le A_o4.lt sz_o74')
    have ne_o5_o74 : o5 ≠ o74 := Nat.ne_of_lt (Nat.lt_of_lt_of_le E_o5.lt sz_o74')
    have ne_o6_o74 : o6 ≠ o74 := Nat.ne_of_lt (Nat.lt_of_lt_of_le A_o6.lt sz_o74')
    have ne_o8_o74 : o8 ≠ o74 := Nat.ne_of_lt (Nat.lt_of_lt_of_le E_o8.lt sz_o74')
    have ne_o9_o74 : o9 ≠ o74 := Nat.ne_of_lt (Nat.lt_of_lt_of_le A_o9.lt sz_o74')
    have ne_o60_o74 : o60 ≠ o74 := Nat.ne_of_lt (Nat.lt_of_lt_of_le E_o60.lt sz_o74')
    have ne_o61_o74 : o61 ≠ o74 := Nat.ne_of_lt (Nat.lt_of_lt_of_le A_o61.lt sz_o74')
    have ne_o1_o76 : o1 ≠ o76 := Nat.ne_of_lt (Nat.lt_of_lt_of_le A_o1.lt sz_o76')
    have ne_o2_o76 : o2 ≠ o76 := Nat.ne_of_lt (Nat.lt_of_lt_of_le A_o2.lt sz_o76')
    have ne_o11_o76 : o11 ≠ o76 := Nat.ne_of_lt (Nat.lt_of_lt_of_le A_o11.lt sz_o76')
    have ne_o3_o76 : o3 ≠ o76 := Nat.ne_of_lt (Nat.lt_of_lt_of_le E_o3.lt sz_o76')
    have ne_o31_o76 : o31 ≠ o76 := Nat.ne_of_lt (Nat.lt_of_lt_of_le A_o31.lt sz_o76')
    have ne_o4_o76 : o4 ≠ o76 := Nat.ne_of_lt (Nat.lt_of_lt_of_le A_o4.lt sz_o76')
    have ne_o5_o76 : o5 ≠ o76 := Nat.ne_of_lt (Nat.lt_of_lt_of_le E_o5.lt sz_o76')
    have ne_o6_o76 : o6 ≠ o76 := Nat.ne_of_lt (Nat.lt_of_lt_of_le A_o6.lt sz_o76')
    have ne_o8_o76 : o8 ≠ o76 := Nat.ne_of_lt (Nat.lt_of_lt_of_le E_o8.lt sz_o76')
    have ne_o9_o76 : o9 ≠ o76 := Nat.ne_of_lt (Nat.lt_of_lt_of_le A_o9.lt sz_o76')
    have ne_o60_o76 : o60 ≠ o76 := Nat.ne_of_lt (Nat.lt_of_lt_of_le E_o60.lt sz_o76')
    have ne_o61_o76 : o61 ≠ o76 := Nat.ne_of_lt (Nat.lt_of_lt_of_le A_o61.lt sz_o76')
    have ne_o1_o77 : o1 ≠ o77 := Nat.ne_of_lt (Nat.lt_of_lt_of_le A_o1.lt sz_o77')
    have ne_o2_o77 : o2 ≠ o77 := Nat.ne_of_lt (Nat.lt_of_lt_of_le A_o2.lt sz_o77')
    have ne_o11_o77 : o11 ≠ o77 := Nat.ne_of_lt (Nat.lt_of_lt_of_le A_o11.lt sz_o77')
    have ne_o3_o77 : o3 ≠ o77 := Nat.ne_of_lt (Nat.lt_of_lt_of_le E_o3.lt sz_o77')
    have ne_o31_o77 : o31 ≠ o77 := Nat.ne_of_lt (Nat.lt_of_lt_of_le A_o31.lt sz_o77')
    have ne_o4_o77 : o4 ≠ o77 := Nat.ne_of_lt (Nat.lt_of_lt_of_le A_o4.lt sz_o77')
    have ne_o5_o77 : o5 ≠ o77 := Nat.ne_of_lt (Nat.lt_of_lt_of_le E_o5.lt sz_o77')
    have ne_o6_o77 : o6 ≠ o77 := Nat.ne_of_lt (Nat.lt_of_lt_of_le A_o6.lt sz_o77')
    have ne_o8_o77 : o8 ≠ o77 := Nat.ne_of_lt (Nat.lt_of_lt_of_le E_o8.lt sz_o77')
    have ne_o9_o77 : o9 ≠ o77 := Nat.ne_of_lt (Nat.lt_of_lt_of_le A_o9.lt sz_o77')
    have ne_o60_o77 : o60 ≠ o77 := Nat.ne_of_lt (Nat.lt_of_lt_of_le E_o60.lt sz_o77')
    have ne_o61_o77 : o61 ≠ o77 := Nat.ne_of_lt (Nat.lt_of_lt_of_le A_o61.lt sz_o77')
    have ne_o1_o78 : o1 ≠ o78 := Nat.ne_of_lt (Nat.lt_of_lt_of_le A_o1.lt sz_o78')
    have ne_o2_o78 : o2 ≠ o78 := Nat.ne_of_lt (Nat.lt_of_lt_of_le A_o2.lt sz_o78')
    have ne_o11_o78 : o11 ≠ o78 := Nat.ne_of_lt (Nat.lt_of_lt_of_le A_o11.lt sz_o78')
    have ne_o3_o78 : o3 ≠ o78 := Nat.ne_of_lt (Nat.lt_of_lt_of_le E_o3.lt sz_o78')
    have ne_o31_o78 : o31 ≠ o78 := Nat.ne_of_lt (Nat.lt_of_lt_of_le A_o31.lt sz_o78')
    have ne_o4_o78 : o4 ≠ o78 := Nat.ne_of_lt (Nat.lt_of_lt_of_le A_o4.lt sz_o78')
    have ne_o5_o78 : o5 ≠ o78 := Nat.ne_of_lt (Nat.lt_of_lt_of_le E_o5.lt sz_o78')
    have ne_o6_o78 : o6 ≠ o78 := Nat.ne_of_lt (Nat.lt_of_lt_of_le A_o6.lt sz_o78')
    have ne_o8_o78 : o8 ≠ o78 := Nat.ne_of_lt (Nat.lt_of_lt_of_le E_o8.lt sz_o78')
    have ne_o9_o78 : o9 ≠ o78 := Nat.ne_of_lt (Nat.lt_of_lt_of_le A_o9.lt sz_o78')
    have ne_o60_o78 : o60 ≠ o78 := Nat.ne_of_lt (Nat.lt_of_lt_of_le E_o60.lt sz_o78')
    have ne_o61_o78 : o61 ≠ o78 := Nat.ne_of_lt (Nat.lt_of_lt_of_le A_o61.lt sz_o78')
    have ne_o1_o79 : o1 ≠ o79 := Nat.ne_of_lt (Nat.lt_of_lt_of_le A_o1.lt sz_o79')
    have ne_o2_o79 : o2 ≠ o79 := Nat.ne_of_lt (Nat.lt_of_lt_of_le A_o2.lt sz_o79')
    have ne_o11_o79 : o11 ≠ o79 := Nat.ne_of_lt (Nat.lt_of_lt_of_le A_o11.lt sz_o79')
    have ne_o3_o79 : o3 ≠ o79 := Nat.ne_of_lt (Nat.lt_of_lt_of_le E_o3.lt sz_o79')
    have ne_o31_o79 : o31 ≠ o79 := Nat.ne_of_lt (Nat.lt_of_lt_of_le A_o31.lt sz_o79')
    have ne_o4_o79 : o4 ≠ o79 := Nat.ne_of_lt (Nat.lt_of_lt_of_le A_o4.lt sz_o79')
    have ne_o5_o79 : o5 ≠ o79 := Nat.ne_of_lt (Nat.lt_of_lt_of_le E_o5.lt sz_o79')
    have ne_o6_o79 : o6 ≠ o79 := Nat.ne_of_lt (Nat.lt_of_lt_of_le A_o6.lt sz_o79')
    have ne_o8_o79 : o8 ≠ o79 := Nat.ne_of_lt (Nat.lt_of_lt_of_le E_o8.lt sz_o79')
    have ne_o9_o79 : o9 ≠ o79 := Nat.ne_of_lt (Nat.lt_of_lt_of_le A_o9.lt sz_o79')
    have ne_o60_o79 : o60 ≠ o79 := Nat.ne_of_lt (Nat.lt_of_lt_of_le E_o60.lt sz_o79')
    have ne_o61_o79 : o61 ≠ o79 := Nat.ne_of_lt (Nat.lt_of_lt_of_le A_o61.lt sz_o79')
    have ne_o1_o80 : o1 ≠ o80 := Nat.ne_of_lt (Nat.lt_of_lt_of_le A_o1.lt sz_o80')
    have ne_o2_o80 : o2 ≠ o80 := Nat.ne_of_lt (Nat.lt_of_lt_of_le A_o2.lt sz_o80')
    have ne_o11_o80 : o11 ≠ o80 := Nat.ne_of_lt (Nat.lt_of_lt_of_le A_o11.lt sz_o80')
    have ne_o3_o80 : o3 ≠ o80 := Nat.ne_of_lt (Nat.lt_of_lt_of_le E_o3.lt sz_o80')
    have ne_o31_o80 : o31 ≠ o80 := Nat.ne_of_lt (Nat.lt_of_lt_of_le A_o31.lt sz_o80')
    have ne_o4_o80 : o4 ≠ o80 := Nat.ne_of_lt (Nat.lt_of_lt_of_le A_o4.lt sz_o80')
    have ne_o5_o80 : o5 ≠ o80 := Nat.ne_of_lt (Nat.lt_of_lt_of_le E_o5.lt sz_o80')
    have ne_o6_o80 : o6 ≠ o80 := Nat.ne_of_lt (Nat.lt_of_lt_of_le A_o6.lt sz_o80')
    have ne_o8_o80 : o8 ≠ o80 := Nat.ne_of_lt (Nat.lt_of_lt_of_le E_o8.lt sz_o80')
    have ne_o9_o80 : o9 ≠ o80 := Nat.ne_of_lt (Nat.lt_of_lt_of_le A_o9.lt sz_o80')
    have ne_o60_o80 : o60 ≠ o80 := Nat.ne_of_lt (Nat.lt_of_lt_of_le E_o60.lt sz_o80')
    have ne_o61_o80 : o61 ≠ o80 := Nat.ne_of_lt (Nat.lt_of_lt_of_le A_o61.lt sz_o80')
    have ne_o1_o81 : o1 ≠ o81 := Nat.ne_of_lt (Nat.lt_of_lt_of_le A_o1.lt sz_o81')
    have ne_o2_o81 : o2 ≠ o81 := Nat.ne_of_lt (Nat.lt_of_lt_of_le A_o2.lt sz_o81')
    have ne_o11_o81 : o11 ≠ o81 := Nat.ne_of_lt (Nat.lt_of_lt_of_le A_o11.lt sz_o81')
    have ne_o3_o81 : o3 ≠ o81 := Nat.ne_of_lt (Nat.lt_of_lt_of_le E_o3.lt sz_o81')
    have ne_o31_o81 : o31 ≠ o81 := Nat.ne_of_lt (Nat.lt_of_lt_of_le A_o31.lt sz_o81')
    have ne_o4_o81 : o4 ≠ o81 := Nat.ne_of_lt (Nat.lt_of_lt_of_le A_o4.lt sz_o81')
    have ne_o5_o81 : o5 ≠ o81 := Nat.ne_of_lt (Nat.lt_of_lt_of_le E_o5.lt sz_o81')
    have ne_o6_o81 : o6 ≠ o81 := Nat.ne_of_lt (Nat.lt_of_lt_of_le A_o6.lt sz_o81')
    have ne_o8_o81 : o8 ≠ o81 := Nat.ne_of_lt (Nat.lt_of_lt_of_le E_o8.lt sz_o81')
    have ne_o9_o81 : o9 ≠ o81 := Nat.ne_of_lt (Nat.lt_of_lt_of_le A_o9.lt sz_o81')
    have ne_o60_o81 : o60 ≠ o81 := Nat.ne_of_lt (Nat.lt_of_lt_of_le E_o60.lt sz_o81')
    have ne_o61_o81 : o61 ≠ o81 := Nat.ne_of_lt (Nat.lt_of_lt_of_le A_o61.lt sz_o81')
    have A_o1 := A_o1.keep Kc (ninS ne_o1_o65 nin0)
    have A_o2 := A_o2.keep Kc (ninS ne_o2_o65 nin0)
    have A_o11 := A_o11.keep Kc (ninS ne_o11_o65 nin0)
    have E_o3 := E_o3.keep Kc
    have F_o3_bytes := F_o3_bytes.keep Kc (ninS ne_o3_o65 nin0)
    have F_o3_starts := F_o3_starts.keep Kc (ninS ne_o3_o65 nin0)
    have F_o3_hashes := F_o3_hashes.keep Kc (ninS ne_o3_o65 nin0)
    have F_o3_table := F_o3_table.keep Kc (ninS ne_o3_o65 nin0)
    have F_o3_encoded := F_o3_encoded.keep Kc (ninS ne_o3_o65 nin0)
    have F_o3_encodedLength := F_o3_encodedLength.keep Kc (ninS ne_o3_o65 nin0)
    have F_o3_encodedHash := F_o3_encodedHash.keep Kc (ninS ne_o3_o65 nin0)
    have F_o3_length := F_o3_length.keep Kc (ninS ne_o3_o65 nin0)
    have F_o3_position := F_o3_position.keep Kc (ninS ne_o3_o65 nin0)
    have A_o31 := A_o31.keep Kc (ninS ne_o31_o65 nin0)
    have A_o4 := A_o4.keep Kc (ninS ne_o4_o65 nin0)
    have E_o5 := E_o5.keep Kc
    have F_o5_values := F_o5_values.keep Kc (ninS ne_o5_o65 nin0)
    have F_o5_size := F_o5_size.keep Kc (ninS ne_o5_o65 nin0)
    have A_o6 := A_o6.keep Kc (ninS ne_o6_o65 nin0)
    have E_o8 := E_o8.keep Kc
    have F_o8_values := F_o8_values.keep Kc (ninS ne_o8_o65 nin0)
    have F_o8_size := F_o8_size.keep Kc (ninS ne_o8_o65 nin0)
    have A_o9 := A_o9.keep Kc (ninS ne_o9_o65 nin0)
    have E_o60 := E_o60.keep Kc
    have F_o60_values := F_o60_values.keep Kc (ninS ne_o60_o65 nin0)
    have F_o60_size := F_o60_size.keep Kc (ninS ne_o60_o65 nin0)
    have A_o61 := A_o61.keep Kc (ninS ne_o61_o65 nin0)
    refine Run.cast (st' := [(.ref o65)]) rfl ?_
    refine s_astore 87 C X (l' := #[.val (.int x0), .val (.int x1), .val (.int x2), .val (.ref o1), .val (.ref o2), .val (.int gg), .val (.int mm), .val (.ref o3), .val (.ref o60), .val (.ref o65), .unset, .unset, .unset, .unset, .unset, .unset, .unset, .unset, .unset, .unset, .unset]) at_85 rfl rfl ?_
    have TL : ∀ (T : State) (hh : Heap) (kk nn : Nat) (X : St p l e room_1 s m #[(.int x0), (.int x1), (.int x2)] below meth c n0 T hh kk nn) (gq b1 b2 : Int32) (ee : Int64) (w : Int), kk ≤ room_1.cells → nn ≤ room_1.slots → -10000000000 ≤ ee.toInt ∧ ee.toInt ≤ 10000000000 → (mm = 0 ∧ w = 0 ∨ mm = 1 ∧ w = x0.toInt) → (0 < ee.toInt ∧ 0 < ee.toInt - 3 + w ∧ b1 = 1 ∧ b2 = 1 ∨ 0 < ee.toInt ∧ ¬ 0 < ee.toInt - 3 + w ∧ b1 = 1 ∧ b2 = 0 ∨ ¬ 0 < ee.toInt ∧ b1 = 0 ∧ b2 = 0) → Run p e below n0 (fun (v : Option Value) (h : Heap) => v = some (.int 1)) (fun o t L => FrameEnd s o t L room_1.cells room_1.slots) m T 154 #[.val (.int x0), .val (.int x1), .val (.int x2), .val (.ref o1), .val (.ref o2), .val (.int gq), .val (.int mm), .val (.ref o3), .val (.ref o60), .val (.ref o65), .val (.long ee), .second, .val (.int (-1 : Int32)), .val (.int b1), .val (.int b2), .unset, .unset, .unset, .unset, .unset, .unset] [] := by
      intro T hh kk nn X gq b1 b2 ee w hkk hnn hee hmw hb
      have hx0 := rng32 x0
      rcases hmw with ⟨rfl, rfl⟩ | ⟨rfl, rfl⟩
      · rcases hb with ⟨k1, k2, rfl, rfl⟩ | ⟨k1, k2, rfl, rfl⟩ | ⟨k1, rfl, rfl⟩
        · have e2 : 0 < (((ee - (3 : Int64)) + (0 : Int64))).toInt := by
            have kl0 : (3 : Int64).toInt = 3 := by decide
            have kl1 : ((ee - (3 : Int64))).toInt = (ee).toInt - ((3 : Int64)).toInt := by have u := c_lsub ee (3 : Int64); have r := rng64 (ee - (3 : Int64)); omega
            have kl2 : (0 : Int64).toInt = 0 := by decide
            have kl3 : (((ee - (3 : Int64)) + (0 : Int64))).toInt = ((ee - (3 : Int64))).toInt + ((0 : Int64)).toInt := by have u := c_ladd (ee - (3 : Int64)) (0 : Int64); have r := rng64 ((ee - (3 : Int64)) + (0 : Int64)); omega
            omega
          refine s_iload 156 C X at_154 rfl ?_
          refine s_lload 158 C X at_156 rfl ?_
          refine s_lconst 159 C X (z := (0 : Int64)) at_158 rfl ?_
          refine s_lcmp 160 C X at_159 ?_
          refine s_if_le 167 163 C X at_160 (fun c => (c (cl_gt.mpr k1)).elim) (fun c160_83 => ?_)
          have t_c160_83 : (0 : Int) < (ee).toInt := cl_gt.mp c160_83
          refine s_iconst 164 C X at_163 kc_iconst_1 ?_
          refine s_goto 168 C X at_164 ?_
          refine s_icmp_ne 175 171 C X at_168 (fun c => absurd (by decide : (1 : Int32) = (1 : Int32)) c) (fun _ => ?_)
          refine s_iconst 172 C X at_171 kc_iconst_1 ?_
          refine s_goto 176 C X at_172 ?_
          refine s_istore 178 C X (l' := #[.val (.int x0), .val (.int x1), .val (.int x2), .val (.ref o1), .val (.ref o2), .val (.int gq), .val (.int (0 : Int32)), .val (.ref o3), .val (.ref o60), .val (.ref o65), .val (.long ee), .second, .val (.int (-1 : Int32)), .val (.int (1 : Int32)), .val (.int (1 : Int32)), .val (.int (1 : Int32)), .unset, .unset, .unset, .unset, .unset]) at_176 rfl ?_
          refine s_lload 180 C X at_178 rfl ?_
          refine s_lconst 181 C X (z := (0 : Int64)) at_180 rfl ?_
          refine s_lcmp 182 C X at_181 ?_
          refine s_if_le 194 185 C X at_182 (fun c => (c (cl_gt.mpr k1)).elim) (fun c182_85 => ?_)
          have t_c182_85 : (0 : Int) < (ee).toInt := cl_gt.mp c182_85
          refine s_lload 187 C X at_185 rfl ?_
          refine s_ldc2Long 190 C X at_187 (mW 217 rfl) ?_
          refine s_lsub 191 C X at_190 ?_
          refine s_goto 196 C X at_191 ?_
          refine s_lstore 198 C X (l' := #[.val (.int x0), .val (.int x1), .val (.int x2), .val (.ref o1), .val (.ref o2), .val (.int gq), .val (.int (0 : Int32)), .val (.ref o3), .val (.ref o60), .val (.ref o65), .val (.long ee), .second, .val (.int (-1 : Int32)), .val (.int (1 : Int32)), .val (.int (1 : Int32)), .val (.int (1 : Int32)), .val (.long (ee - (3 : Int64))), .second, .unset, .unset, .unset]) at_196 rfl ?_
          refine s_lload 200 C X at_198 rfl ?_
          refine s_iload 202 C X at_200 rfl ?_
          refine s_if_eq 210 205 C X at_202 (fun _ => ?_) (fun c => absurd (by decide : (0 : Int32) = (0 : Int32)) c)
          refine s_lconst 211 C X (z := (0 : Int64)) at_210 rfl ?_
          refine s_ladd 212 C X at_211 ?_
          refine s_lstore 214 C X (l' := #[.val (.int x0), .val (.int x1), .val (.int x2), .val (.ref o1), .val (.ref o2), .val (.int gq), .val (.int (0 : Int32)), .val (.ref o3), .val (.ref o60), .val (.ref o65), .val (.long ee), .second, .val (.int (-1 : Int32)), .val (.int (1 : Int32)), .val (.int (1 : Int32)), .val (.int (1 : Int32)), .val (.long (ee - (3 : Int64))), .second, .val (.long ((ee - (3 : Int64)) + (0 : Int64))), .second, .unset]) at_212 rfl ?_
          refine s_iload 216 C X at_214 rfl ?_
          refine s_lload 218 C X at_216 rfl ?_
          refine s_lconst 219 C X (z := (0 : Int64)) at_218 rfl ?_
          refine s_lcmp 220 C X at_219 ?_
          refine s_if_le 234 223 C X at_220 (fun c => (c (cl_gt.mpr k1)).elim) (fun c220_87 => ?_)
          have t_c220_87 : (0 : Int) < (ee).toInt := cl_gt.mp c220_87
          refine s_lload 225 C X at_223 rfl ?_
          refine s_lconst 226 C X (z := (0 : Int64)) at_225 rfl ?_
          refine s_lcmp 227 C X at_226 ?_
          refine s_if_le 234 230 C X at_227 (fun c => (c (cl_gt.mpr e2)).elim) (fun c227_88 => ?_)
          have t_c227_88 : (0 : Int) < (((ee - (3 : Int64)) + (0 : Int64))).toInt := cl_gt.mp c227_88
          refine s_iconst 231 C X at_230 kc_iconst_1 ?_
          refine s_goto 235 C X at_231 ?_
          refine s_icmp_ne 242 238 C X at_235 (fun c => absurd (by decide : (1 : Int32) = (1 : Int32)) c) (fun _ => ?_)
          refine s_iconst 239 C X at_238 kc_iconst_1 ?_
          refine s_goto 243 C X at_239 ?_
          refine s_istore 245 C X (l' := #[.val (.int x0), .val (.int x1), .val (.int x2), .val (.ref o1), .val (.ref o2), .val (.int gq), .val (.int (0 : Int32)), .val (.ref o3), .val (.ref o60), .val (.ref o65), .val (.long ee), .second, .val (.int (-1 : Int32)), .val (.int (1 : Int32)), .val (.int (1 : Int32)), .val (.int (1 : Int32)), .val (.long (ee - (3 : Int64))), .second, .val (.long ((ee - (3 : Int64)) + (0 : Int64))), .second, .val (.int (1 : Int32))]) at_243 rfl ?_
          refine s_iload 247 C X at_245 rfl ?_
          refine s_iconst 248 C X at_247 kc_iconst_m1 ?_
          refine s_icmp_ne 265 251 C X at_248 (fun c => absurd (by decide : (-1 : Int32) = (-1 : Int32)) c) (fun _ => ?_)
          refine s_iload 253 C X at_251 rfl ?_
          refine s_if_eq 265 256 C X at_253 (fun c => absurd c (by decide)) (fun _ => ?_)
          refine s_iload 258 C X at_256 rfl ?_
          refine s_if_eq 265 261 C X at_258 (fun c => absurd c (by decide)) (fun _ => ?_)
          refine s_iconst 262 C X at_261 kc_iconst_1 ?_
          refine s_goto 266 C X at_262 ?_
          refine s_nreturn C X at_266 rfl (by simp) rfl ?_ (FE_mono hkk hnn)
          rfl
        · have e2 : ¬ 0 < (((ee - (3 : Int64)) + (0 : Int64))).toInt := by
            have kl0 : (3 : Int64).toInt = 3 := by decide
            have kl1 : ((ee - (3 : Int64))).toInt = (ee).toInt - ((3 : Int64)).toInt := by have u := c_lsub ee (3 : Int64); have r := rng64 (ee - (3 : Int64)); omega
            have kl2 : (0 : Int64).toInt = 0 := by decide
            have kl3 : (((ee - (3 : Int64)) + (0 : Int64))).toInt = ((ee - (3 : Int64))).toInt + ((0 : Int64)).toInt := by have u := c_ladd (ee - (3 : Int64)) (0 : Int64); have r := rng64 ((ee - (3 : Int64)) + (0 : Int64)); omega
            omega
          refine s_iload 156 C X at_154 rfl ?_
          refine s_lload 158 C X at_156 rfl ?_
          refine s_lconst 159 C X (z := (0 : Int64)) at_158 rfl ?_
          refine s_lcmp 160 C X at_159 ?_
          refine s_if_le 167 163 C X at_160 (fun c => (c (cl_gt.mpr k1)).elim) (fun c160_93 => ?_)
          have t_c160_93 : (0 : Int) < (ee).toInt := cl_gt.mp c160_93
          refine s_iconst 164 C X at_163 kc_iconst_1 ?_
          refine s_goto 168 C X at_164 ?_
          refine s_icmp_ne 175 171 C X at_168 (fun c => absurd (by decide : (1 : Int32) = (1 : Int32)) c) (fun _ => ?_)
          refine s_iconst 172 C X at_171 kc_iconst_1 ?_
          refine s_goto 176 C X at_172 ?_
          refine s_istore 178 C X (l' := #[.val (.int x0), .val (.int x1), .val (.int x2), .val (.ref o1), .val (.ref o2), .val (.int gq), .val (.int (0 : Int32)), .val (.ref o3), .val (.ref o60), .val (.ref o65), .val (.long ee), .second, .val (.int (-1 : Int32)), .val (.int (1 : Int32)), .val (.int (0 : Int32)), .val (.int (1 : Int32)), .unset, .unset, .unset, .unset, .unset]) at_176 rfl ?_
          refine s_lload 180 C X at_178 rfl ?_
          refine s_lconst 181 C X (z := (0 : Int64)) at_180 rfl ?_
          refine s_lcmp 182 C X at_181 ?_
          refine s_if_le 194 185 C X at_182 (fun c => (c (cl_gt.mpr k1)).elim) (fun c182_95 => ?_)
          have t_c182_95 : (0 : Int) < (ee).toInt := cl_gt.mp c182_95
          refine s_lload 187 C X at_185 rfl ?_
          refine s_ldc2Long 190 C X at_187 (mW 217 rfl) ?_
          refine s_lsub 191 C X at_190 ?_
          refine s_goto 196 C X at_191 ?_
          refine s_lstore 198 C X (l' := #[.val (.int x0), .val (.int x1), .val (.int x2), .val (.ref o1), .val (.ref o2), .val (.int gq), .val (.int (0 : Int32)), .val (.ref o3), .val (.ref o60), .val (.ref o65), .val (.long ee), .second, .val (.int (-1 : Int32)), .val (.int (1 : Int32)), .val (.int (0 : Int32)), .val (.int (1 : Int32)), .val (.long (ee - (3 : Int64))), .second, .unset, .unset, .unset]) at_196 rfl ?_
          refine s_lload 200 C X at_198 rfl ?_
          refine s_iload 202 C X at_200 rfl ?_
          refine s_if_eq 210 205 C X at_202 (fun _ => ?_) (fun c => absurd (by decide : (0 : Int32) = (0 : Int32)) c)
          refine s_lconst 211 C X (z := (0 : Int64)) at_210 rfl ?_
          refine s_ladd 212 C X at_211 ?_
          refine s_lstore 214 C X (l' := #[.val (.int x0), .val (.int x1), .val (.int x2), .val (.ref o1), .val (.ref o2), .val (.int gq), .val (.int (0 : Int32)), .val (.ref o3), .val (.ref o60), .val (.ref o65), .val (.long ee), .second, .val (.int (-1 : Int32)), .val (.int (1 : Int32)), .val (.int (0 : Int32)), .val (.int (1 : Int32)), .val (.long (ee - (3 : Int64))), .second, .val (.long ((ee - (3 : Int64)) + (0 : Int64))), .second, .unset]) at_212 rfl ?_
          refine s_iload 216 C X at_214 rfl ?_
          refine s_lload 218 C X at_216 rfl ?_
          refine s_lconst 219 C X (z := (0 : Int64)) at_218 rfl ?_
          refine s_lcmp 220 C X at_219 ?_
          refine s_if_le 234 223 C X at_220 (fun c => (c (cl_gt.mpr k1)).elim) (fun c220_97 => ?_)
          have t_c220_97 : (0 : Int) < (ee).toInt := cl_gt.mp c220_97
          refine s_lload 225 C X at_223 rfl ?_
          refine s_lconst 226 C X (z := (0 : Int64)) at_225 rfl ?_
          refine s_lcmp 227 C X at_226 ?_
          refine s_if_le 234 230 C X at_227 (fun c227_98 => ?_) (fun c => (e2 (cl_gt.mp c)).elim)
          have t_c227_98 : ¬ ((0 : Int) < (((ee - (3 : Int64)) + (0 : Int64))).toInt) := fun q => c227_98 (cl_gt.mpr q)
          refine s_iconst 235 C X at_234 kc_iconst_0 ?_
          refine s_icmp_ne 242 238 C X at_235 (fun c => absurd (by decide : (0 : Int32) = (0 : Int32)) c) (fun _ => ?_)
          refine s_iconst 239 C X at_238 kc_iconst_1 ?_
          refine s_goto 243 C X at_239 ?_
          refine s_istore 245 C X (l' := #[.val (.int x0), .val (.int x1), .val (.int x2), .val (.ref o1), .val (.ref o2), .val (.int gq), .val (.int (0 : Int32)), .val (.ref o3), .val (.ref o60), .val (.ref o65), .val (.long ee), .second, .val (.int (-1 : Int32)), .val (.int (1 : Int32)), .val (.int (0 : Int32)), .val (.int (1 : Int32)), .val (.long (ee - (3 : Int64))), .second, .val (.long ((ee - (3 : Int64)) + (0 : Int64))), .second, .val (.int (1 : Int32))]) at_243 rfl ?_
          refine s_iload 247 C X at_245 rfl ?_
          refine s_iconst 248 C X at_247 kc_iconst_m1 ?_
          refine s_icmp_ne 265 251 C X at_248 (fun c => absurd (by decide : (-1 : Int32) = (-1 : Int32)) c) (fun _ => ?_)
          refine s_iload 253 C X at_251 rfl ?_
          refine s_if_eq 265 256 C X at_253 (fun c => absurd c (by decide)) (fun _ => ?_)
          refine s_iload 258 C X at_256 rfl ?_
          refine s_if_eq 265 261 C X at_258 (fun c => absurd c (by decide)) (fun _ => ?_)
          refine s_iconst 262 C X at_261 kc_iconst_1 ?_
          refine s_goto 266 C X at_262 ?_
          refine s_nreturn C X at_266 rfl (by simp) rfl ?_ (FE_mono hkk hnn)
          rfl
        · refine s_iload 156 C X at_154 rfl ?_
          refine s_lload 158 C X at_156 rfl ?_
          refine s_lconst 159 C X (z := (0 : Int64)) at_158 rfl ?_
          refine s_lcmp 160 C X at_159 ?_
          refine s_if_le 167 163 C X at_160 (fun c160_103 => ?_) (fun c => (k1 (cl_gt.mp c)).elim)
          have t_c160_103 : ¬ ((0 : Int) < (ee).toInt) := fun q => c160_103 (cl_gt.mpr q)
          refine s_iconst 168 C X at_167 kc_iconst_0 ?_
          refine s_icmp_ne 175 171 C X at_168 (fun c => absurd (by decide : (0 : Int32) = (0 : Int32)) c) (fun _ => ?_)
          refine s_iconst 172 C X at_171 kc_iconst_1 ?_
          refine s_goto 176 C X at_172 ?_
          refine s_istore 178 C X (l' := #[.val (.int x0), .val (.int x1), .val (.int x2), .val (.ref o1), .val (.ref o2), .val (.int gq), .val (.int (0 : Int32)), .val (.ref o3), .val (.ref o60), .val (.ref o65), .val (.long ee), .second, .val (.int (-1 : Int32)), .val (.int (0 : Int32)), .val (.int (0 : Int32)), .val (.int (1 : Int32)), .unset, .unset, .unset, .unset, .unset]) at_176 rfl ?_
          refine s_lload 180 C X at_178 rfl ?_
          refine s_lconst 181 C X (z := (0 : Int64)) at_180 rfl ?_
          refine s_lcmp 182 C X at_181 ?_
          refine s_if_le 194 185 C X at_182 (fun c182_105 => ?_) (fun c => (k1 (cl_gt.mp c)).elim)
          have t_c182_105 : ¬ ((0 : Int) < (ee).toInt) := fun q => c182_105 (cl_gt.mpr q)
          refine s_lload 196 C X at_194 rfl ?_
          refine s_lstore 198 C X (l' := #[.val (.int x0), .val (.int x1), .val (.int x2), .val (.ref o1), .val (.ref o2), .val (.int gq), .val (.int (0 : Int32)), .val (.ref o3), .val (.ref o60), .val (.ref o65), .val (.long ee), .second, .val (.int (-1 : Int32)), .val (.int (0 : Int32)), .val (.int (0 : Int32)), .val (.int (1 : Int32)), .val (.long ee), .second, .unset, .unset, .unset]) at_196 rfl ?_
          refine s_lload 200 C X at_198 rfl ?_
          refine s_iload 202 C X at_200 rfl ?_
          refine s_if_eq 210 205 C X at_202 (fun _ => ?_) (fun c => absurd (by decide : (0 : Int32) = (0 : Int32)) c)
          refine s_lconst 211 C X (z := (0 : Int64)) at_210 rfl ?_
          refine s_ladd 212 C X at_211 ?_
          refine s_lstore 214 C X (l' := #[.val (.int x0), .val (.int x1), .val (.int x2), .val (.ref o1), .val (.ref o2), .val (.int gq), .val (.int (0 : Int32)), .val (.ref o3), .val (.ref o60), .val (.ref o65), .val (.long ee), .second, .val (.int (-1 : Int32)), .val (.int (0 : Int32)), .val (.int (0 : Int32)), .val (.int (1 : Int32)), .val (.long ee), .second, .val (.long (ee + (0 : Int64))), .second, .unset]) at_212 rfl ?_
          refine s_iload 216 C X at_214 rfl ?_
          refine s_lload 218 C X at_216 rfl ?_
          refine s_lconst 219 C X (z := (0 : Int64)) at_218 rfl ?_
          refine s_lcmp 220 C X at_219 ?_
          refine s_if_le 234 223 C X at_220 (fun c220_107 => ?_) (fun c => (k1 (cl_gt.mp c)).elim)
          have t_c220_107 : ¬ ((0 : Int) < (ee).toInt) := fun q => c220_107 (cl_gt.mpr q)
          refine s_iconst 235 C X at_234 kc_iconst_0 ?_
          refine s_icmp_ne 242 238 C X at_235 (fun c => absurd (by decide : (0 : Int32) = (0 : Int32)) c) (fun _ => ?_)
          refine s_iconst 239 C X at_238 kc_iconst_1 ?_
          refine s_goto 243 C X at_239 ?_
          refine s_istore 245 C X (l' := #[.val (.int x0), .val (.int x1), .val (.int x2), .val (.ref o1), .val (.ref o2), .val (.int gq), .val (.int (0 : Int32)), .val (.ref o3), .val (.ref o60), .val (.ref o65), .val (.long ee), .second, .val (.int (-1 : Int32)), .val (.int (0 : Int32)), .val (.int (0 : Int32)), .val (.int (1 : Int32)), .val (.long ee), .second, .val (.long (ee + (0 : Int64))), .second, .val (.int (1 : Int32))]) at_243 rfl ?_
          refine s_iload 247 C X at_245 rfl ?_
          refine s_iconst 248 C X at_247 kc_iconst_m1 ?_
          refine s_icmp_ne 265 251 C X at_248 (fun c => absurd (by decide : (-1 : Int32) = (-1 : Int32)) c) (fun _ => ?_)
          refine s_iload 253 C X at_251 rfl ?_
          refine s_if_eq 265 256 C X at_253 (fun c => absurd c (by decide)) (fun _ => ?_)
          refine s_iload 258 C X at_256 rfl ?_
          refine s_if_eq 265 261 C X at_258 (fun c => absurd c (by decide)) (fun _ => ?_)
          refine s_iconst 262 C X at_261 kc_iconst_1 ?_
          refine s_goto 266 C X at_262 ?_
          refine s_nreturn C X at_266 rfl (by simp) rfl ?_ (FE_mono hkk hnn)
          rfl
      · rcases hb with ⟨k1, k2, rfl, rfl⟩ | ⟨k1, k2, rfl, rfl⟩ | ⟨k1, rfl, rfl⟩
        · have e2 : 0 < (((ee - (3 : Int64)) + (x0).toInt64)).toInt := by
            have kl0 : (3 : Int64).toInt = 3 := by decide
            have kl1 : ((ee - (3 : Int64))).toInt = (ee).toInt - ((3 : Int64)).toInt := by have u := c_lsub ee (3 : Int64); have r := rng64 (ee - (3 : Int64)); omega
            have kl2 := c_i2l x0
            have kl3 := rng32 x0
            have kl4 : (((ee - (3 : Int64)) + (x0).toInt64)).toInt = ((ee - (3 : Int64))).toInt + ((x0).toInt64).toInt := by have u := c_ladd (ee - (3 : Int64)) (x0).toInt64; have r := rng64 ((ee - (3 : Int64)) + (x0).toInt64); omega
            omega
          refine s_iload 156 C X at_154 rfl ?_
          refine s_lload 158 C X at_156 rfl ?_
          refine s_lconst 159 C X (z := (0 : Int64)) at_158 rfl ?_
          refine s_lcmp 160 C X at_159 ?_
          refine s_if_le 167 163 C X at_160 (fun c => (c (cl_gt.mpr k1)).elim) (fun c160_112 => ?_)
          have t_c160_112 : (0 : Int) < (ee).toInt := cl_gt.mp c160_112
          refine s_iconst 164 C X at_163 kc_iconst_1 ?_
          refine s_goto 168 C X at_164 ?_
          refine s_icmp_ne 175 171 C X at_168 (fun c => absurd (by decide : (1 : Int32) = (1 : Int32)) c) (fun _ => ?_)
          refine s_iconst 172 C X at_171 kc_iconst_1 ?_
          refine s_goto 176 C X at_172 ?_
          refine s_istore 178 C X (l' := #[.val (.int x0), .val (.int x1), .val (.int x2), .val (.ref o1), .val (.ref o2), .val (.int gq), .val (.int (1 : Int32)), .val (.ref o3), .val (.ref o60), .val (.ref o65), .val (.long ee), .second, .val (.int (-1 : Int32)), .val (.int (1 : Int32)), .val (.int (1 : Int32)), .val (.int (1 : Int32)), .unset, .unset, .unset, .unset, .unset]) at_176 rfl ?_
          refine s_lload 180 C X at_178 rfl ?_
          refine s_lconst 181 C X (z := (0 : Int64)) at_180 rfl ?_
          refine s_lcmp 182 C X at_181 ?_
          refine s_if_le 194 185 C X at_182 (fun c => (c (cl_gt.mpr k1)).elim) (fun c182_114 => ?_)
          have t_c182_114 : (0 : Int) < (ee).toInt := cl_gt.mp c182_114
          refine s_lload 187 C X at_185 rfl ?_
          refine s_ldc2Long 190 C X at_187 (mW 217 rfl) ?_
          refine s_lsub 191 C X at_190 ?_
          refine s_goto 196 C X at_191 ?_
          refine s_lstore 198 C X (l' := #[.val (.int x0), .val (.int x1), .val (.int x2), .val (.ref o1), .val (.ref o2), .val (.int gq), .val (.int (1 : Int32)), .val (.ref o3), .val (.ref o60), .val (.ref o65), .val (.long ee), .second, .val (.int (-1 : Int32)), .val (.int (1 : Int32)), .val (.int (1 : Int32)), .val (.int (1 : Int32)), .val (.long (ee - (3 : Int64))), .second, .unset, .unset, .unset]) at_196 rfl ?_
          refine s_lload 200 C X at_198 rfl ?_
          refine s_iload 202 C X at_200 rfl ?_
          refine s_if_eq 210 205 C X at_202 (fun c => absurd c (by decide)) (fun _ => ?_)
          refine s_iloadN 206 C X at_205 rfl ?_
          refine s_i2l 207 C X at_206 ?_
          refine s_goto 211 C X at_207 ?_
          refine s_ladd 212 C X at_211 ?_
          refine s_lstore 214 C X (l' := #[.val (.int x0), .val (.int x1), .val (.int x2), .val (.ref o1), .val (.ref o2), .val (.int gq), .val (.int (1 : Int32)), .val (.ref o3), .val (.ref o60), .val (.ref o65), .val (.long ee), .second, .val (.int (-1 : Int32)), .val (.int (1 : Int32)), .val (.int (1 : Int32)), .val (.int (1 : Int32)), .val (.long (ee - (3 : Int64))), .second, .val (.long ((ee - (3 : Int64)) + (x0).toInt64)), .second, .unset]) at_212 rfl ?_
          refine s_iload 216 C X at_214 rfl ?_
          refine s_lload 218 C X at_216 rfl ?_
          refine s_lconst 219 C X (z := (0 : Int64)) at_218 rfl ?_
          refine s_lcmp 220 C X at_219 ?_
          refine s_if_le 234 223 C X at_220 (fun c => (c (cl_gt.mpr k1)).elim) (fun c220_116 => ?_)
          have t_c220_116 : (0 : Int) < (ee).toInt := cl_gt.mp c220_116
          refine s_lload 225 C X at_223 rfl ?_
          refine s_lconst 226 C X (z := (0 : Int64)) at_225 rfl ?_
          refine s_lcmp 227 C X at_226 ?_
          refine s_if_le 234 230 C X at_227 (fun c => (c (cl_gt.mpr e2)).elim) (fun c227_117 => ?_)
          have t_c227_117 : (0 : Int) < (((ee - (3 : Int64)) + (x0).toInt64)).toInt := cl_gt.mp c227_117
          refine s_iconst 231 C X at_230 kc_iconst_1 ?_
          refine s_goto 235 C X at_231 ?_
          refine s_icmp_ne 242 238 C X at_235 (fun c => absurd (by decide : (1 : Int32) = (1 : Int32)) c) (fun _ => ?_)
          refine s_iconst 239 C X at_238 kc_iconst_1 ?_
          refine s_goto 243 C X at_239 ?_
          refine s_istore 245 C X (l' := #[.val (.int x0), .val (.int x1), .val (.int x2), .val (.ref o1), .val (.ref o2), .val (.int gq), .val (.int (1 : Int32)), .val (.ref o3), .val (.ref o60), .val (.ref o65), .val (.long ee), .second, .val (.int (-1 : Int32)), .val (.int (1 : Int32)), .val (.int (1 : Int32)), .val (.int (1 : Int32)), .val (.long (ee - (3 : Int64))), .second, .val (.long ((ee - (3 : Int64)) + (x0).toInt64)), .second, .val (.int (1 : Int32))]) at_243 rfl ?_
          refine s_iload 247 C X at_245 rfl ?_
          refine s_iconst 248 C X at_247 kc_iconst_m1 ?_
          refine s_icmp_ne 265 251 C X at_248 (fun c => absurd (by decide : (-1 : Int32) = (-1 : Int32)) c) (fun _ => ?_)
          refine s_iload 253 C X at_251 rfl ?_
          refine s_if_eq 265 256 C X at_253 (fun c => absurd c (by decide)) (fun _ => ?_)
          refine s_iload 258 C X at_256 rfl ?_
          refine s_if_eq 265 261 C X at_258 (fun c => absurd c (by decide)) (fun _ => ?_)
          refine s_iconst 262 C X at_261 kc_iconst_1 ?_
          refine s_goto 266 C X at_262 ?_
          refine s_nreturn C X at_266 rfl (by simp) rfl ?_ (FE_mono hkk hnn)
          rfl
        · have e2 : ¬ 0 < (((ee - (3 : Int64)) + (x0).toInt64)).toInt := by
            have kl0 : (3 : Int64).toInt = 3 := by decide
            have kl1 : ((ee - (3 : Int64))).toInt = (ee).toInt - ((3 : Int64)).toInt := by have u := c_lsub ee (3 : Int64); have r := rng64 (ee - (3 : Int64)); omega
            have kl2 := c_i2l x0
            have kl3 := rng32 x0
            have kl4 : (((ee - (3 : Int64)) + (x0).toInt64)).toInt = ((ee - (3 : Int64))).toInt + ((x0).toInt64).toInt := by have u := c_ladd (ee - (3 : Int64)) (x0).toInt64; have r := rng64 ((ee - (3 : Int64)) + (x0).toInt64); omega
            omega
          refine s_iload 156 C X at_154 rfl ?_
          refine s_lload 158 C X at_156 rfl ?_
          refine s_lconst 159 C X (z := (0 : Int64)) at_158 rfl ?_
          refine s_lcmp 160 C X at_159 ?_
          refine s_if_le 167 163 C X at_160 (fun c => (c (cl_gt.mpr k1)).elim) (fun c160_122 => ?_)
          have t_c160_122 : (0 : Int) < (ee).toInt := cl_gt.mp c160_122
          refine s_iconst 164 C X at_163 kc_iconst_1 ?_
          refine s_goto 168 C X at_164 ?_
          refine s_icmp_ne 175 171 C X at_168 (fun c => absurd (by decide : (1 : Int32) = (1 : Int32)) c) (fun _ => ?_)
          refine s_iconst 172 C X at_171 kc_iconst_1 ?_
          refine s_goto 176 C X at_172 ?_
          refine s_istore 178 C X (l' := #[.val (.int x0), .val (.int x1), .val (.int x2), .val (.ref o1), .val (.ref o2), .val (.int gq), .val (.int (1 : Int32)), .val (.ref o3), .val (.ref o60), .val (.ref o65), .val (.long ee), .second, .val (.int (-1 : Int32)), .val (.int (1 : Int32)), .val (.int (0 : Int32)), .val (.int (1 : Int32)), .unset, .unset, .unset, .unset, .unset]) at_176 rfl ?_
          refine s_lload 180 C X at_178 rfl ?_
          refine s_lconst 181 C X (z := (0 : Int64)) at_180 rfl ?_
          refine s_lcmp 182 C X at_181 ?_
          refine s_if_le 194 185 C X at_182 (fun c => (c (cl_gt.mpr k1)).elim) (fun c182_124 => ?_)
          have t_c182_124 : (0 : Int) < (ee).toInt := cl_gt.mp c182_124
          refine s_lload 187 C X at_185 rfl ?_
          refine s_ldc2Long 190 C X at_187 (mW 217 rfl) ?_
          refine s_lsub 191 C X at_190 ?_
          refine s_goto 196 C X at_191 ?_
          refine s_lstore 198 C X (l' := #[.val (.int x0), .val (.int x1), .val (.int x2), .val (.ref o1), .val (.ref o2), .val (.int gq), .val (.int (1 : Int32)), .val (.ref o3), .val (.ref o60), .val (.ref o65), .val (.long ee), .second, .val (.int (-1 : Int32)), .val (.int (1 : Int32)), .val (.int (0 : Int32)), .val (.int (1 : Int32)), .val (.long (ee - (3 : Int64))), .second, .unset, .unset, .unset]) at_196 rfl ?_
          refine s_lload 200 C X at_198 rfl ?_
          refine s_iload 202 C X at_200 rfl ?_
          refine s_if_eq 210 205 C X at_202 (fun c => absurd c (by decide)) (fun _ => ?_)
          refine s_iloadN 206 C X at_205 rfl ?_
          refine s_i2l 207 C X at_206 ?_
          refine s_goto 211 C X at_207 ?_
          refine s_ladd 212 C X at_211 ?_
          refine s_lstore 214 C X (l' := #[.val (.int x0), .val (.int x1), .val (.int x2), .val (.ref o1), .val (.ref o2), .val (.int gq), .val (.int (1 : Int32)), .val (.ref o3), .val (.ref o60), .val (.ref o65), .val (.long ee), .second, .val (.int (-1 : Int32)), .val (.int (1 : Int32)), .val (.int (0 : Int32)), .val (.int (1 : Int32)), .val (.long (ee - (3 : Int64))), .second, .val (.long ((ee - (3 : Int64)) + (x0).toInt64)), .second, .unset]) at_212 rfl ?_
          refine s_iload 216 C X at_214 rfl ?_
          refine s_lload 218 C X at_216 rfl ?_
          refine s_lconst 219 C X (z := (0 : Int64)) at_218 rfl ?_
          refine s_lcmp 220 C X at_219 ?_
          refine s_if_le 234 223 C X at_220 (fun c => (c (cl_gt.mpr k1)).elim) (fun c220_126 => ?_)
          have t_c220_126 : (0 : Int) < (ee).toInt := cl_gt.mp c220_126
          refine s_lload 225 C X at_223 rfl ?_
          refine s_lconst 226 C X (z := (0 : Int64)) at_225 rfl ?_
          refine s_lcmp 227 C X at_226 ?_
          refine s_if_le 234 230 C X at_227 (fun c227_127 => ?_) (fun c => (e2 (cl_gt.mp c)).elim)
          have t_c227_127 : ¬ ((0 : Int) < (((ee - (3 : Int64)) + (x0).toInt64)).toInt) := fun q => c227_127 (cl_gt.mpr q)
          refine s_iconst 235 C X at_234 kc_iconst_0 ?_
          refine s_icmp_ne 242 238 C X at_235 (fun c => absurd (by decide : (0 : Int32) = (0 : Int32)) c) (fun _ => ?_)
          refine s_iconst 239 C X at_238 kc_iconst_1 ?_
          refine s_goto 243 C X at_239 ?_
          refine s_istore 245 C X (l' := #[.val (.int x0), .val (.int x1), .val (.int x2), .val (.ref o1), .val (.ref o2), .val (.int gq), .val (.int (1 : Int32)), .val (.ref o3), .val (.ref o60), .val (.ref o65), .val (.long ee), .second, .val (.int (-1 : Int32)), .val (.int (1 : Int32)), .val (.int (0 : Int32)), .val (.int (1 : Int32)), .val (.long (ee - (3 : Int64))), .second, .val (.long ((ee - (3 : Int64)) + (x0).toInt64)), .second, .val (.int (1 : Int32))]) at_243 rfl ?_
          refine s_iload 247 C X at_245 rfl ?_
          refine s_iconst 248 C X at_247 kc_iconst_m1 ?_
          refine s_icmp_ne 265 251 C X at_248 (fun c => absurd (by decide : (-1 : Int32) = (-1 : Int32)) c) (fun _ => ?_)
          refine s_iload 253 C X at_251 rfl ?_
          refine s_if_eq 265 256 C X at_253 (fun c => absurd c (by decide)) (fun _ => ?_)
          refine s_iload 258 C X at_256 rfl ?_
          refine s_if_eq 265 261 C X at_258 (fun c => absurd c (by decide)) (fun _ => ?_)
          refine s_iconst 262 C X at_261 kc_iconst_1 ?_
          refine s_goto 266 C X at_262 ?_
          refine s_nreturn C X at_266 rfl (by simp) rfl ?_ (FE_mono hkk hnn)
          rfl
        · refine s_iload 156 C X at_154 rfl ?_
          refine s_lload 158 C X at_156 rfl ?_
          refine s_lconst 159 C X (z := (0 : Int64)) at_158 rfl ?_
          refine s_lcmp 160 C X at_159 ?_
          refine s_if_le 167 163 C X at_160 (fun c160_132 => ?_) (fun c => (k1 (cl_gt.mp c)).elim)
          have t_c160_132 : ¬ ((0 : Int) < (ee).toInt) := fun q => c160_132 (cl_gt.mpr q)
          refine s_iconst 168 C X at_167 kc_iconst_0 ?_
          refine s_icmp_ne 175 171 C X at_168 (fun c => absurd (by decide : (0 : Int32) = (0 : Int32)) c) (fun _ => ?_)
          refine s_iconst 172 C X at_171 kc_iconst_1 ?_
          refine s_goto 176 C X at_172 ?_
          refine s_istore 178 C X (l' := #[.val (.int x0), .val (.int x1), .val (.int x2), .val (.ref o1), .val (.ref o2), .val (.int gq), .val (.int (1 : Int32)), .val (.ref o3), .val (.ref o60), .val (.ref o65), .val (.long ee), .second, .val (.int (-1 : Int32)), .val (.int (0 : Int32)), .val (.int (0 : Int32)), .val (.int (1 : Int32)), .unset, .unset, .unset, .unset, .unset]) at_176 rfl ?_
          refine s_lload 180 C X at_178 rfl ?_
          refine s_lconst 181 C X (z := (0 : Int64)) at_180 rfl ?_
          refine s_lcmp 182 C X at_181 ?_
          refine s_if_le 194 185 C X at_182 (fun c182_134 => ?_) (fun c => (k1 (cl_gt.mp c)).elim)
          have t_c182_134 : ¬ ((0 : Int) < (ee).toInt) := fun q => c182_134 (cl_gt.mpr q)
          refine s_lload 196 C X at_194 rfl ?_
          refine s_lstore 198 C X (l' := #[.val (.int x0), .val (.int x1), .val (.int x2), .val (.ref o1), .val (.ref o2), .val (.int gq), .val (.int (1 : Int32)), .val (.ref o3), .val (.ref o60), .val (.ref o65), .val (.long ee), .second, .val (.int (-1 : Int32)), .val (.int (0 : Int32)), .val (.int (0 : Int32)), .val (.int (1 : Int32)), .val (.long ee), .second, .unset, .unset, .unset]) at_196 rfl ?_
          refine s_lload 200 C X at_198 rfl ?_
          refine s_iload 202 C X at_200 rfl ?_
          refine s_if_eq 210 205 C X at_202 (fun c => absurd c (by decide)) (fun _ => ?_)
          refine s_iloadN 206 C X at_205 rfl ?_
          refine s_i2l 207 C X at_206 ?_
          refine s_goto 211 C X at_207 ?_
          refine s_ladd 212 C X at_211 ?_
          refine s_lstore 214 C X (l' := #[.val (.int x0), .val (.int x1), .val (.int x2), .val (.ref o1), .val (.ref o2), .val (.int gq), .val (.int (1 : Int32)), .val (.ref o3), .val (.ref o60), .val (.ref o65), .val (.long ee), .second, .val (.int (-1 : Int32)), .val (.int (0 : Int32)), .val (.int (0 : Int32)), .val (.int (1 : Int32)), .val (.long ee), .second, .val (.long (ee + (x0).toInt64)), .second, .unset]) at_212 rfl ?_
          refine s_iload 216 C X at_214 rfl ?_
          refine s_lload 218 C X at_216 rfl ?_
          refine s_lconst 219 C X (z := (0 : Int64)) at_218 rfl ?_
          refine s_lcmp 220 C X at_219 ?_
          refine s_if_le 234 223 C X at_220 (fun c220_136 => ?_) (fun c => (k1 (cl_gt.mp c)).elim)
          have t_c220_136 : ¬ ((0 : Int) < (ee).toInt) := fun q => c220_136 (cl_gt.mpr q)
          refine s_iconst 235 C X at_234 kc_iconst_0 ?_
          refine s_icmp_ne 242 238 C X at_235 (fun c => absurd (by decide : (0 : Int32) = (0 : Int32)) c) (fun _ => ?_)
          refine s_iconst 239 C X at_238 kc_iconst_1 ?_
          refine s_goto 243 C X at_239 ?_
          refine s_istore 245 C X (l' := #[.val (.int x0), .val (.int x1), .val (.int x2), .val (.ref o1), .val (.ref o2), .val (.int gq), .val (.int (1 : Int32)), .val (.ref o3), .val (.ref o60), .val (.ref o65), .val (.long ee), .second, .val (.int (-1 : Int32)), .val (.int (0 : Int32)), .val (.int (0 : Int32)), .val (.int (1 : Int32)), .val (.long ee), .second, .val (.long (ee + (x0).toInt64)), .second, .val (.int (1 : Int32))]) at_243 rfl ?_
          refine s_iload 247 C X at_245 rfl ?_
          refine s_iconst 248 C X at_247 kc_iconst_m1 ?_
          refine s_icmp_ne 265 251 C X at_248 (fun c => absurd (by decide : (-1 : Int32) = (-1 : Int32)) c) (fun _ => ?_)
          refine s_iload 253 C X at_251 rfl ?_
          refine s_if_eq 265 256 C X at_253 (fun c => absurd c (by decide)) (fun _ => ?_)
          refine s_iload 258 C X at_256 rfl ?_
          refine s_if_eq 265 261 C X at_258 (fun c => absurd c (by decide)) (fun _ => ?_)
          refine s_iconst 262 C X at_261 kc_iconst_1 ?_
          refine s_goto 266 C X at_262 ?_
          refine s_nreturn C X at_266 rfl (by simp) rfl ?_ (FE_mono hkk hnn)
          rfl
    rcases h3 with rfl | rfl | rfl
    · refine s_iload 89 C X at_87 rfl ?_
      refine s_iconst 90 C X at_89 kc_iconst_1 ?_
      refine s_icmp_lt 98 93 C X at_90 (fun _ => ?_) (fun c => absurd (by decide : (0 : Int32) < (1 : Int32)) c)
      refine s_iload 100 C X at_98 rfl ?_
      refine s_iconst 101 C X at_100 kc_iconst_2 ?_
      refine s_icmp_lt 109 104 C X at_101 (fun _ => ?_) (fun c => absurd (by decide : (0 : Int32) < (2 : Int32)) c)
      refine s_iload 111 C X at_109 rfl ?_
      refine s_i2l 112 C X at_111 ?_
      refine Run.cast (st' := [(.long (0 : Int64))]) (by rw [kf_4]) ?_
      refine s_iloadN 113 C X at_112 rfl ?_
      refine s_i2l 114 C X at_113 ?_
      refine s_lmul 115 C X at_114 ?_
      refine s_lstore 117 C X (l' := #[.val (.int x0), .val (.int x1), .val (.int x2), .val (.ref o1), .val (.ref o2), .val (.int (0 : Int32)), .val (.int mm), .val (.ref o3), .val (.ref o60), .val (.ref o65), .val (.long ((0 : Int64) * (x0).toInt64)), .second, .unset, .unset, .unset, .unset, .unset, .unset, .unset, .unset, .unset]) at_115 rfl ?_
      obtain ⟨stp, e_stp⟩ : ∃ zz_ : Int64, zz_ = (0 : Int64) := ⟨_, rfl⟩
      rw [← e_stp] at F_o65_steps
      obtain ⟨hst, hee⟩ : stp.toInt = 0 * x0.toInt ∧ (((0 : Int64) * (x0).toInt64)).toInt = 0 * x0.toInt := by
        subst e_stp
        have kl0 : (0 : Int64).toInt = 0 := by decide
        have kl1 := c_i2l x0
        have kl2 := rng32 x0
        have kl3 := c_lmul (0 : Int64) (x0).toInt64
        rw [(by decide : (0 : Int64).toInt = 0)] at kl3
        have kl5 := rng64 ((0 : Int64) * (x0).toInt64)
        omega
      have hx0 := rng32 x0
      refine s_aload 119 C X at_117 rfl rfl ?_
      refine s_callV 122 [] [] 0 C X at_119 (mW 140 rfl) (mW 141 rfl) (notFace_of_selects (args := #[]) (mvT C.2.1 (C.w (mW 143 rfl)))) (mW 143 rfl) (mW 142 rfl) (mW 96 rfl) (mW 144 rfl) E_o65 (rm_a188 l Z a0 hw x0 o3 o4 o5 k_o4 o6 k_o6 o8 o11 o31 o60 o61 k_o61 o65 o66 o67 k_o66 o68 k_o68 o70 o71 k_o71 o73 o74 k_o74 o76 o77 o78 o79 o80 o81 k_o76 k_o77 k_o78 (stp) _ n0 X.sz E_o3 F_o3_bytes F_o3_starts F_o3_hashes F_o3_table F_o3_encoded F_o3_encodedLength F_o3_encodedHash F_o3_length F_o3_position A_o4 E_o5 F_o5_values F_o5_size A_o6 E_o60 F_o60_values A_o61 E_o65 F_o65_tokens F_o65_nearestFewer F_o65_nearestUnmarked F_o65_firstNearestUnmarked F_o65_markings F_o65_parents F_o65_stepsPerMarking F_o65_searchedMarking F_o65_searchedPlaces F_o65_searchedTokens F_o65_parentPlaces F_o65_parentTokens F_o65_unmarkedRanks F_o65_searched F_o65_steps A_o66 E_o67 F_o67_values F_o67_size A_o68 E_o70 F_o70_blocks F_o70_size E_o71 A_o71 E_o73 F_o73_values F_o73_size A_o74 A_o76 A_o77 A_o78 g_o3 ne_o3_o4 ne_o3_o5 ne_o3_o6 ne_o3_o60 ne_o3_o61 ne_o3_o65 ne_o4_o65 ne_o5_o65 ne_o6_o65 ne_o60_o65 ne_o61_o65 g_o65 ne_o3_o66 ne_o4_o66 ne_o5_o66 ne_o6_o66 ne_o60_o66 ne_o61_o66 g_o66 ne_o3_o67 ne_o4_o67 ne_o5_o67 ne_o6_o67 ne_o60_o67 ne_o61_o67 g_o67 ne_o3_o68 ne_o4_o68 ne_o5_o68 ne_o6_o68 ne_o60_o68 ne_o61_o68 g_o68 ne_o3_o70 ne_o4_o70 ne_o5_o70 ne_o6_o70 ne_o60_o70 ne_o61_o70 g_o70 ne_o3_o71 ne_o4_o71 ne_o5_o71 ne_o6_o71 ne_o60_o71 ne_o61_o71 g_o71 ne_o3_o73 ne_o4_o73 ne_o5_o73 ne_o6_o73 ne_o60_o73 ne_o61_o73 g_o73 ne_o3_o74 ne_o4_o74 ne_o5_o74 ne_o6_o74 ne_o60_o74 ne_o61_o74 g_o74 ne_o3_o76 ne_o4_o76 ne_o5_o76 ne_o6_o76 ne_o60_o76 ne_o61_o76 g_o76 ne_o3_o77 ne_o4_o77 ne_o5_o77 ne_o6_o77 ne_o60_o77 ne_o61_o77 g_o77 ne_o3_o78 ne_o4_o78 ne_o5_o78 ne_o6_o78 ne_o60_o78 ne_o61_o78 g_o78 ne_o65_o66 ne_o65_o67 ne_o66_o67 ne_o65_o68 ne_o66_o68 ne_o67_o68 ne_o65_o70 ne_o66_o70 ne_o67_o70 ne_o68_o70 ne_o65_o71 ne_o66_o71 ne_o67_o71 ne_o68_o71 ne_o70_o71 O_o71 ne_o65_o73 ne_o66_o73 ne_o67_o73 ne_o68_o73 ne_o70_o73 ne_o71_o73 ne_o65_o74 ne_o66_o74 ne_o67_o74 ne_o68_o74 ne_o70_o74 ne_o71_o74 ne_o73_o74 ne_o65_o76 ne_o66_o76 ne_o67_o76 ne_o68_o76 ne_o70_o76 ne_o71_o76 ne_o73_o76 ne_o74_o76 ne_o65_o77 ne_o66_o77 ne_o67_o77 ne_o68_o77 ne_o70_o77 ne_o71_o77 ne_o73_o77 ne_o74_o77 ne_o76_o77 ne_o65_o78 ne_o66_o78 ne_o67_o78 ne_o68_o78 ne_o70_o78 ne_o71_o78 ne_o73_o78 ne_o74_o78 ne_o76_o78 ne_o77_o78) (lenOf pd___I rfl) rfl rfl rfl (fun T v hh X q => ?_)
      obtain ⟨rfl, c20_146, E_o3, F_o3_bytes, F_o3_starts, F_o3_hashes, F_o3_table, F_o3_encoded, F_o3_encodedLength, F_o3_encodedHash, F_o3_length, F_o3_position, E_o65, F_o65_tokens, F_o65_nearestFewer, F_o65_nearestUnmarked, F_o65_firstNearestUnmarked, F_o65_markings, F_o65_parents, F_o65_stepsPerMarking, F_o65_searchedMarking, F_o65_searchedPlaces, F_o65_searchedTokens, F_o65_parentPlaces, F_o65_parentTokens, F_o65_unmarkedRanks, F_o65_searched, F_o65_steps, A_o66, E_o67, F_o67_values, F_o67_size, A_o68, E_o70, F_o70_blocks, F_o70_size, E_o71, A_o71, E_o73, F_o73_values, F_o73_size, A_o74, A_o76, A_o77, A_o78, Kc⟩ | ⟨o181, k_o181, rfl, c20_146, E_o65, F_o65_tokens, F_o65_nearestFewer, F_o65_nearestUnmarked, F_o65_firstNearestUnmarked, F_o65_markings, F_o65_parents, F_o65_stepsPerMarking, F_o65_searchedMarking, F_o65_searchedPlaces, F_o65_searchedTokens, F_o65_parentPlaces, F_o65_parentTokens, F_o65_unmarkedRanks, F_o65_searched, F_o65_steps, A_o66, A_o76, Kc, A_o77, A_o78, E_o3, F_o3_bytes, F_o3_starts, F_o3_hashes, F_o3_table, F_o3_encoded, F_o3_encodedLength, F_o3_encodedHash, F_o3_length, F_o3_position, E_o67, F_o67_values, F_o67_size, A_o68, E_o73, F_o73_values, F_o73_size, A_o74, E_o70, F_o70_blocks, F_o70_size, E_o71, A_o71, E_o181, A_o181, ne_o65_o181, ne_o66_o181, ne_o76_o181, ne_o77_o181, ne_o78_o181, ne_o3_o181, ne_o67_o181, ne_o68_o181, sz_o181', g_o181, ne_o73_o181, ne_o74_o181, ne_o70_o181, ne_o71_o181⟩ := q
      · have nn_o5 : o5 ∉ [o65, o66, o67, o70, o73, o3, o76, o77, o78, o68, o71, o74] := (ninS ne_o5_o65 (ninS ne_o5_o66 (ninS ne_o5_o67 (ninS ne_o5_o70 (ninS ne_o5_o73 (ninS (Ne.symm ne_o3_o5) (ninS ne_o5_o76 (ninS ne_o5_o77 (ninS ne_o5_o78 (ninS ne_o5_o68 (ninS ne_o5_o71 (ninS ne_o5_o74 nin0))))))))))))
        have nn_o8 : o8 ∉ [o65, o66, o67, o70, o73, o3, o76, o77, o78, o68, o71, o74] := (ninS ne_o8_o65 (ninS ne_o8_o66 (ninS ne_o8_o67 (ninS ne_o8_o70 (ninS ne_o8_o73 (ninS (Ne.symm ne_o3_o8) (ninS ne_o8_o76 (ninS ne_o8_o77 (ninS ne_o8_o78 (ninS ne_o8_o68 (ninS ne_o8_o71 (ninS ne_o8_o74 nin0))))))))))))
        have nn_o60 : o60 ∉ [o65, o66, o67, o70, o73, o3, o76, o77, o78, o68, o71, o74] := (ninS ne_o60_o65 (ninS ne_o60_o66 (ninS ne_o60_o67 (ninS ne_o60_o70 (ninS ne_o60_o73 (ninS (Ne.symm ne_o3_o60) (ninS ne_o60_o76 (ninS ne_o60_o77 (ninS ne_o60_o78 (ninS ne_o60_o68 (ninS ne_o60_o71 (ninS ne_o60_o74 nin0))))))))))))
        have A_o1 := A_o1.keep Kc (ninS ne_o1_o65 (ninS ne_o1_o66 (ninS ne_o1_o67 (ninS ne_o1_o70 (ninS ne_o1_o73 (ninS ne_o1_o3 (ninS ne_o1_o76 (ninS ne_o1_o77 (ninS ne_o1_o78 (ninS ne_o1_o68 (ninS ne_o1_o71 (ninS ne_o1_o74 nin0))))))))))))
        have A_o2 := A_o2.keep Kc (ninS ne_o2_o65 (ninS ne_o2_o66 (ninS ne_o2_o67 (ninS ne_o2_o70 (ninS ne_o2_o73 (ninS ne_o2_o3 (ninS ne_o2_o76 (ninS ne_o2_o77 (ninS ne_o2_o78 (ninS ne_o2_o68 (ninS ne_o2_o71 (ninS ne_o2_o74 nin0))))))))))))
        have A_o11 := A_o11.keep Kc (ninS ne_o11_o65 (ninS ne_o11_o66 (ninS ne_o11_o67 (ninS ne_o11_o70 (ninS ne_o11_o73 (ninS (Ne.symm ne_o3_o11) (ninS ne_o11_o76 (ninS ne_o11_o77 (ninS ne_o11_o78 (ninS ne_o11_o68 (ninS ne_o11_o71 (ninS ne_o11_o74 nin0))))))))))))
        have A_o31 := A_o31.keep Kc (ninS ne_o31_o65 (ninS ne_o31_o66 (ninS ne_o31_o67 (ninS ne_o31_o70 (ninS ne_o31_o73 (ninS (Ne.symm ne_o3_o31) (ninS ne_o31_o76 (ninS ne_o31_o77 (ninS ne_o31_o78 (ninS ne_o31_o68 (ninS ne_o31_o71 (ninS ne_o31_o74 nin0))))))))))))
        have A_o4 := A_o4.keep Kc (ninS ne_o4_o65 (ninS ne_o4_o66 (ninS ne_o4_o67 (ninS ne_o4_o70 (ninS ne_o4_o73 (ninS (Ne.symm ne_o3_o4) (ninS ne_o4_o76 (ninS ne_o4_o77 (ninS ne_o4_o78 (ninS ne_o4_o68 (ninS ne_o4_o71 (ninS ne_o4_o74 nin0))))))))))))
        have E_o5 := E_o5.keep Kc
        have F_o5_values := F_o5_values.keep Kc nn_o5
        have F_o5_size := F_o5_size.keep Kc nn_o5
        have A_o6 := A_o6.keep Kc (ninS ne_o6_o65 (ninS ne_o6_o66 (ninS ne_o6_o67 (ninS ne_o6_o70 (ninS ne_o6_o73 (ninS (Ne.symm ne_o3_o6) (ninS ne_o6_o76 (ninS ne_o6_o77 (ninS ne_o6_o78 (ninS ne_o6_o68 (ninS ne_o6_o71 (ninS ne_o6_o74 nin0))))))))))))
        have E_o8 := E_o8.keep Kc
        have F_o8_values := F_o8_values.keep Kc nn_o8
        have F_o8_size := F_o8_size.keep Kc nn_o8
        have A_o9 := A_o9.keep Kc (ninS ne_o9_o65 (ninS ne_o9_o66 (ninS ne_o9_o67 (ninS ne_o9_o70 (ninS ne_o9_o73 (ninS (Ne.symm ne_o3_o9) (ninS ne_o9_o76 (ninS ne_o9_o77 (ninS ne_o9_o78 (ninS ne_o9_o68 (ninS ne_o9_o71 (ninS ne_o9_o74 nin0))))))))))))
        have E_o60 := E_o60.keep Kc
        have F_o60_values := F_o60_values.keep Kc nn_o60
        have F_o60_size := F_o60_size.keep Kc nn_o60
        have A_o61 := A_o61.keep Kc (ninS ne_o61_o65 (ninS ne_o61_o66 (ninS ne_o61_o67 (ninS ne_o61_o70 (ninS ne_o61_o73 (ninS (Ne.symm ne_o3_o61) (ninS ne_o61_o76 (ninS ne_o61_o77 (ninS ne_o61_o78 (ninS ne_o61_o68 (ninS ne_o61_o71 (ninS ne_o61_o74 nin0))))))))))))
        have A_o79 := A_o79.keep Kc (ninS (Ne.symm ne_o65_o79) (ninS (Ne.symm ne_o66_o79) (ninS (Ne.symm ne_o67_o79) (ninS (Ne.symm ne_o70_o79) (ninS (Ne.symm ne_o73_o79) (ninS (Ne.symm ne_o3_o79) (ninS (Ne.symm ne_o76_o79) (ninS (Ne.symm ne_o77_o79) (ninS (Ne.symm ne_o78_o79) (ninS (Ne.symm ne_o68_o79) (ninS (Ne.symm ne_o71_o79) (ninS (Ne.symm ne_o74_o79) nin0))))))))))))
        have A_o80 := A_o80.keep Kc (ninS (Ne.symm ne_o65_o80) (ninS (Ne.symm ne_o66_o80) (ninS (Ne.symm ne_o67_o80) (ninS (Ne.symm ne_o70_o80) (ninS (Ne.symm ne_o73_o80) (ninS (Ne.symm ne_o3_o80) (ninS (Ne.symm ne_o76_o80) (ninS (Ne.symm ne_o77_o80) (ninS (Ne.symm ne_o78_o80) (ninS (Ne.symm ne_o68_o80) (ninS (Ne.symm ne_o71_o80) (ninS (Ne.symm ne_o74_o80) nin0))))))))))))
        have A_o81 := A_o81.keep Kc (ninS (Ne.symm ne_o65_o81) (ninS (Ne.symm ne_o66_o81) (ninS (Ne.symm ne_o67_o81) (ninS (Ne.symm ne_o70_o81) (ninS (Ne.symm ne_o73_o81) (ninS (Ne.symm ne_o3_o81) (ninS (Ne.symm ne_o76_o81) (ninS (Ne.symm ne_o77_o81) (ninS (Ne.symm ne_o78_o81) (ninS (Ne.symm ne_o68_o81) (ninS (Ne.symm ne_o71_o81) (ninS (Ne.symm ne_o74_o81) nin0))))))))))))
        have t_c20_146 : ¬ ((0 : Int) < (stp).toInt) := fun q => c20_146 (cl_gt.mpr q)
        refine Run.cast (st' := [(.int (-1 : Int32))]) rfl ?_
        refine s_istore 124 C X (l' := #[.val (.int x0), .val (.int x1), .val (.int x2), .val (.ref o1), .val (.ref o2), .val (.int (0 : Int32)), .val (.int mm), .val (.ref o3), .val (.ref o60), .val (.ref o65), .val (.long ((0 : Int64) * (x0).toInt64)), .second, .val (.int (-1 : Int32)), .unset, .unset, .unset, .unset, .unset, .unset, .unset, .unset]) at_122 rfl ?_
        refine s_aload 126 C X at_124 rfl rfl ?_
        refine s_aload 128 C X at_126 rfl rfl ?_
        refine s_iconst 129 C X at_128 kc_iconst_0 ?_
        refine s_callV 132 [(.ref o2), (.int (0 : Int32))] [] 0 C X at_129 (mW 150 rfl) (mW 151 rfl) (notFace_of_selects (args := #[]) (mvT C.2.1 (C.w (mW 153 rfl)))) (mW 153 rfl) (mW 152 rfl) (mW 96 rfl) (mW 154 rfl) E_o65 (rm_a192 l Z a0 hw o2 o3 o5 o65 _ n0 X.sz E_o5 F_o5_size E_o3 F_o3_starts F_o65_markings F_o65_searched) (lenOf pd___JI_Z rfl) rfl rfl rfl (fun T v hh X q => ?_)
        obtain ⟨rfl, Kc⟩ := q
        have A_o1 := A_o1.keep Kc nin0
        have A_o2 := A_o2.keep Kc nin0
        have A_o11 := A_o11.keep Kc nin0
        have A_o31 := A_o31.keep Kc nin0
        have A_o4 := A_o4.keep Kc nin0
        have E_o5 := E_o5.keep Kc
        have F_o5_values := F_o5_values.keep Kc nin0
        have F_o5_size := F_o5_size.keep Kc nin0
        have A_o6 := A_o6.keep Kc nin0
        have E_o8 := E_o8.keep Kc
        have F_o8_values := F_o8_values.keep Kc nin0
        have F_o8_size := F_o8_size.keep Kc nin0
        have A_o9 := A_o9.keep Kc nin0
        have E_o60 := E_o60.keep Kc
        have F_o60_values := F_o60_values.keep Kc nin0
        have F_o60_size := F_o60_size.keep Kc nin0
        have A_o61 := A_o61.keep Kc nin0
        have A_o79 := A_o79.keep Kc nin0
        have A_o80 := A_o80.keep Kc nin0
        have A_o81 := A_o81.keep Kc nin0
        have E_o3 := E_o3.keep Kc
        have F_o3_bytes := F_o3_bytes.keep Kc nin0
        have F_o3_starts := F_o3_starts.keep Kc nin0
        have F_o3_hashes := F_o3_hashes.keep Kc nin0
        have F_o3_table := F_o3_table.keep Kc nin0
        have F_o3_encoded := F_o3_encoded.keep Kc nin0
        have F_o3_encodedLength := F_o3_encodedLength.keep Kc nin0
        have F_o3_encodedHash := F_o3_encodedHash.keep Kc nin0
        have F_o3_length := F_o3_length.keep Kc nin0
        have F_o3_position := F_o3_position.keep Kc nin0
        have E_o65 := E_o65.keep Kc
        have F_o65_tokens := F_o65_tokens.keep Kc nin0
        have F_o65_nearestFewer := F_o65_nearestFewer.keep Kc nin0
        have F_o65_nearestUnmarked := F_o65_nearestUnmarked.keep Kc nin0
        have F_o65_firstNearestUnmarked := F_o65_firstNearestUnmarked.keep Kc nin0
        have F_o65_markings := F_o65_markings.keep Kc nin0
        have F_o65_parents := F_o65_parents.keep Kc nin0
        have F_o65_stepsPerMarking := F_o65_stepsPerMarking.keep Kc nin0
        have F_o65_searchedMarking := F_o65_searchedMarking.keep Kc nin0
        have F_o65_searchedPlaces := F_o65_searchedPlaces.keep Kc nin0
        have F_o65_searchedTokens := F_o65_searchedTokens.keep Kc nin0
        have F_o65_parentPlaces := F_o65_parentPlaces.keep Kc nin0
        have F_o65_parentTokens := F_o65_parentTokens.keep Kc nin0
        have F_o65_unmarkedRanks := F_o65_unmarkedRanks.keep Kc nin0
        have F_o65_searched := F_o65_searched.keep Kc nin0
        have F_o65_steps := F_o65_steps.keep Kc nin0
        have A_o66 := A_o66.keep Kc nin0
        have E_o67 := E_o67.keep Kc
        have F_o67_values := F_o67_values.keep Kc nin0
        have F_o67_size := F_o67_size.keep Kc nin0
        have A_o68 := A_o68.keep Kc nin0
        have E_o70 := E_o70.keep Kc
        have F_o70_blocks := F_o70_blocks.keep Kc nin0
        have F_o70_size := F_o70_size.keep Kc nin0
        have E_o71 := E_o71.keep Kc
        have A_o71 := A_o71.keep Kc nin0
        have E_o73 := E_o73.keep Kc
        have F_o73_values := F_o73_values.keep Kc nin0
        have F_o73_size := F_o73_size.keep Kc nin0
        have A_o74 := A_o74.keep Kc nin0
        have A_o76 := A_o76.keep Kc nin0
        have A_o77 := A_o77.keep Kc nin0
        have A_o78 := A_o78.keep Kc nin0
        refine Run.cast (st' := [(.int (0 : Int32))]) rfl ?_
        refine s_istore 134 C X (l' := #[.val (.int x0), .val (.int x1), .val (.int x2), .val (.ref o1), .val (.ref o2), .val (.int (0 : Int32)), .val (.int mm), .val (.ref o3), .val (.ref o60), .val (.ref o65), .val (.long ((0 : Int64) * (x0).toInt64)), .second, .val (.int (-1 : Int32)), .val (.int (0 : Int32)), .unset, .unset, .unset, .unset, .unset, .unset, .unset]) at_132 rfl ?_
        refine s_iload 136 C X at_134 rfl ?_
        refine s_if_eq 144 139 C X at_136 (fun c136_193 => ?_) (fun c136_193 => ?_)
        · have t_c136_193 : (mm).toInt = (0 : Int) := congrArg Int32.toInt c136_193
          refine s_aload 146 C X at_144 rfl rfl ?_
          refine s_aload 148 C X at_146 rfl rfl ?_
          refine s_iconst 149 C X at_148 kc_iconst_0 ?_
          refine s_callV 152 [(.ref o2), (.int (0 : Int32))] [] 0 C X at_149 (mW 150 rfl) (mW 151 rfl) (notFace_of_selects (args := #[]) (mvT C.2.1 (C.w (mW 153 rfl)))) (mW 153 rfl) (mW 152 rfl) (mW 96 rfl) (mW 154 rfl) E_o65 (rm_a192 l Z a0 hw o2 o3 o5 o65 _ n0 X.sz E_o5 F_o5_size E_o3 F_o3_starts F_o65_markings F_o65_searched) (lenOf pd___JI_Z rfl) rfl rfl rfl (fun T v hh X q => ?_)
          obtain ⟨rfl, Kc⟩ := q
          refine Run.cast (st' := [(.int (0 : Int32))]) rfl ?_
          refine s_istore 154 C X (l' := #[.val (.int x0), .val (.int x1), .val (.int x2), .val (.ref o1), .val (.ref o2), .val (.int (0 : Int32)), .val (.int mm), .val (.ref o3), .val (.ref o60), .val (.ref o65), .val (.long ((0 : Int64) * (x0).toInt64)), .second, .val (.int (-1 : Int32)), .val (.int (0 : Int32)), .val (.int (0 : Int32)), .unset, .unset, .unset, .unset, .unset, .unset]) at_152 rfl ?_
          have kl0 : (0 : Int64).toInt = 0 := by decide
          exact TL T _ _ _ X _ _ _ _ _ (by decide) (by decide) (by omega) (Or.inl ⟨c136_193, rfl⟩) (Or.inr (Or.inr ⟨by omega, rfl, rfl⟩))
        have t_c136_193 : ¬ ((mm).toInt = (0 : Int)) := fun q => c136_193 (Int32.toInt_inj.mp q)
        refine s_aload 141 C X at_139 rfl rfl ?_
        refine s_callV 144 [] [] 0 C X at_141 (mW 155 rfl) (mW 156 rfl) (notFace_of_selects (args := #[]) (mvT C.2.1 (C.w (mW 158 rfl)))) (mW 158 rfl) (mW 157 rfl) (mW 96 rfl) (mW 159 rfl) E_o65 (rm_a198 l Z a0 hw x0 o3 o60 o65 o66 o67 o70 o73 o76 o77 o78 o79 o80 o81 (stp) _ n0 X.sz E_o65 F_o65_tokens F_o65_nearestFewer F_o65_nearestUnmarked F_o65_firstNearestUnmarked F_o65_markings F_o65_parents F_o65_stepsPerMarking F_o65_searchedMarking F_o65_searchedPlaces F_o65_searchedTokens F_o65_parentPlaces F_o65_parentTokens F_o65_unmarkedRanks F_o65_searched F_o65_steps g_o65) (lenOf pd___V rfl) rfl rfl rfl (fun T v hh X q => ?_)
        obtain ⟨rfl, E_o65, F_o65_tokens, F_o65_nearestFewer, F_o65_nearestUnmarked, F_o65_firstNearestUnmarked, F_o65_markings, F_o65_parents, F_o65_stepsPerMarking, F_o65_searchedMarking, F_o65_searchedPlaces, F_o65_searchedTokens, F_o65_parentPlaces, F_o65_parentTokens, F_o65_unmarkedRanks, F_o65_searched, F_o65_steps, Kc⟩ := q
        have A_o1 := A_o1.keep Kc (ninS ne_o1_o65 nin0)
        have A_o2 := A_o2.keep Kc (ninS ne_o2_o65 nin0)
        have A_o11 := A_o11.keep Kc (ninS ne_o11_o65 nin0)
        have A_o31 := A_o31.keep Kc (ninS ne_o31_o65 nin0)
        have A_o4 := A_o4.keep Kc (ninS ne_o4_o65 nin0)
        have E_o5 := E_o5.keep Kc
        have F_o5_values := F_o5_values.keep Kc (ninS ne_o5_o65 nin0)
        have F_o5_size := F_o5_size.keep Kc (ninS ne_o5_o65 nin0)
        have A_o6 := A_o6.keep Kc (ninS ne_o6_o65 nin0)
        have E_o8 := E_o8.keep Kc
        have F_o8_values := F_o8_values.keep Kc (ninS ne_o8_o65 nin0)
        have F_o8_size := F_o8_size.keep Kc (ninS ne_o8_o65 nin0)
        have A_o9 := A_o9.keep Kc (ninS ne_o9_o65 nin0)
        have E_o60 := E_o60.keep Kc
        have F_o60_values := F_o60_values.keep Kc (ninS ne_o60_o65 nin0)
        have F_o60_size := F_o60_size.keep Kc (ninS ne_o60_o65 nin0)
        have A_o61 := A_o61.keep Kc (ninS ne_o61_o65 nin0)
        have A_o79 := A_o79.keep Kc (ninS (Ne.symm ne_o65_o79) nin0)
        have A_o80 := A_o80.keep Kc (ninS (Ne.symm ne_o65_o80) nin0)
        have A_o81 := A_o81.keep Kc (ninS (Ne.symm ne_o65_o81) nin0)
        have E_o3 := E_o3.keep Kc
        have F_o3_bytes := F_o3_bytes.keep Kc (ninS ne_o3_o65 nin0)
        have F_o3_starts := F_o3_starts.keep Kc (ninS ne_o3_o65 nin0)
        have F_o3_hashes := F_o3_hashes.keep Kc (ninS ne_o3_o65 nin0)
        have F_o3_table := F_o3_table.keep Kc (ninS ne_o3_o65 nin0)
        have F_o3_encoded := F_o3_encoded.keep Kc (ninS ne_o3_o65 nin0)
        have F_o3_encodedLength := F_o3_encodedLength.keep Kc (ninS ne_o3_o65 nin0)
        have F_o3_encodedHash := F_o3_encodedHash.keep Kc (ninS ne_o3_o65 nin0)
        have F_o3_length := F_o3_length.keep Kc (ninS ne_o3_o65 nin0)
        have F_o3_position := F_o3_position.keep Kc (ninS ne_o3_o65 nin0)
        have A_o66 := A_o66.keep Kc (ninS (Ne.symm ne_o65_o66) nin0)
        have E_o67 := E_o67.keep Kc
        have F_o67_values := F_o67_values.keep Kc (ninS (Ne.symm ne_o65_o67) nin0)
        have F_o67_size := F_o67_size.keep Kc (ninS (Ne.symm ne_o65_o67) nin0)
        have A_o68 := A_o68.keep Kc (ninS (Ne.symm ne_o65_o68) nin0)
        have E_o70 := E_o70.keep Kc
        have F_o70_blocks := F_o70_blocks.keep Kc (ninS (Ne.symm ne_o65_o70) nin0)
        have F_o70_size := F_o70_size.keep Kc (ninS (Ne.symm ne_o65_o70) nin0)
        have E_o71 := E_o71.keep Kc
        have A_o71 := A_o71.keep Kc (ninS (Ne.symm ne_o65_o71) nin0)
        have E_o73 := E_o73.keep Kc
        have F_o73_values := F_o73_values.keep Kc (ninS (Ne.symm ne_o65_o73) nin0)
        have F_o73_size := F_o73_size.keep Kc (ninS (Ne.symm ne_o65_o73) nin0)
        have A_o74 := A_o74.keep Kc (ninS (Ne.symm ne_o65_o74) nin0)
        have A_o76 := A_o76.keep Kc (ninS (Ne.symm ne_o65_o76) nin0)
        have A_o77 := A_o77.keep Kc (ninS (Ne.symm ne_o65_o77) nin0)
        have A_o78 := A_o78.keep Kc (ninS (Ne.symm ne_o65_o78) nin0)
        refine Run.cast (st' := []) rfl ?_
        refine s_aload 146 C X at_144 rfl rfl ?_
        refine s_aload 148 C X at_146 rfl rfl ?_
        refine s_iconst 149 C X at_148 kc_iconst_0 ?_
        refine s_callV 152 [(.ref o2), (.int (0 : Int32))] [] 0 C X at_149 (mW 150 rfl) (mW 151 rfl) (notFace_of_selects (args := #[]) (mvT C.2.1 (C.w (mW 153 rfl)))) (mW 153 rfl) (mW 152 rfl) (mW 96 rfl) (mW 154 rfl) E_o65 (rm_a192 l Z a0 hw o2 o3 o5 o65 _ n0 X.sz E_o5 F_o5_size E_o3 F_o3_starts F_o65_markings F_o65_searched) (lenOf pd___JI_Z rfl) rfl rfl rfl (fun T v hh X q => ?_)
        obtain ⟨rfl, Kc⟩ := q
        refine Run.cast (st' := [(.int (0 : Int32))]) rfl ?_
        refine s_istore 154 C X (l' := #[.val (.int x0), .val (.int x1), .val (.int x2), .val (.ref o1), .val (.ref o2), .val (.int (0 : Int32)), .val (.int mm), .val (.ref o3), .val (.ref o60), .val (.ref o65), .val (.long ((0 : Int64) * (x0).toInt64)), .second, .val (.int (-1 : Int32)), .val (.int (0 : Int32)), .val (.int (0 : Int32)), .unset, .unset, .unset, .unset, .unset, .unset]) at_152 rfl ?_
        have kl0 : (0 : Int64).toInt = 0 := by decide
        exact TL T _ _ _ X _ _ _ _ _ (by decide) (by decide) (by omega) (Or.inr ⟨hm.resolve_left c136_193, rfl⟩) (Or.inr (Or.inr ⟨by omega, rfl, rfl⟩))
      · have ne_o1_o181 : o1 ≠ o181 := Nat.ne_of_lt (Nat.lt_of_lt_of_le A_o1.lt sz_o181')
        have ne_o2_o181 : o2 ≠ o181 := Nat.ne_of_lt (Nat.lt_of_lt_of_le A_o2.lt sz_o181')
        have ne_o11_o181 : o11 ≠ o181 := Nat.ne_of_lt (Nat.lt_of_lt_of_le A_o11.lt sz_o181')
        have ne_o31_o181 : o31 ≠ o181 := Nat.ne_of_lt (Nat.lt_of_lt_of_le A_o31.lt sz_o181')
        have ne_o4_o181 : o4 ≠ o181 := Nat.ne_of_lt (Nat.lt_of_lt_of_le A_o4.lt sz_o181')
        have ne_o5_o181 : o5 ≠ o181 := Nat.ne_of_lt (Nat.lt_of_lt_of_le E_o5.lt sz_o181')
        have ne_o6_o181 : o6 ≠ o181 := Nat.ne_of_lt (Nat.lt_of_lt_of_le A_o6.lt sz_o181')
        have ne_o8_o181 : o8 ≠ o181 := Nat.ne_of_lt (Nat.lt_of_lt_of_le E_o8.lt sz_o181')
        have ne_o9_o181 : o9 ≠ o181 := Nat.ne_of_lt (Nat.lt_of_lt_of_le A_o9.lt sz_o181')
        have ne_o60_o181 : o60 ≠ o181 := Nat.ne_of_lt (Nat.lt_of_lt_of_le E_o60.lt sz_o181')
        have ne_o61_o181 : o61 ≠ o181 := Nat.ne_of_lt (Nat.lt_of_lt_of_le A_o61.lt sz_o181')
        have ne_o79_o181 : o79 ≠ o181 := Nat.ne_of_lt (Nat.lt_of_lt_of_le A_o79.lt sz_o181')
        have ne_o80_o181 : o80 ≠ o181 := Nat.ne_of_lt (Nat.lt_of_lt_of_le A_o80.lt sz_o181')
        have ne_o81_o181 : o81 ≠ o181 := Nat.ne_of_lt (Nat.lt_of_lt_of_le A_o81.lt sz_o181')
        have nn_o5 : o5 ∉ [o65, o66, o67, o70, o73, o3, o76, o77, o78, o68, o71, o74] := (ninS ne_o5_o65 (ninS ne_o5_o66 (ninS ne_o5_o67 (ninS ne_o5_o70 (ninS ne_o5_o73 (ninS (Ne.symm ne_o3_o5) (ninS ne_o5_o76 (ninS ne_o5_o77 (ninS ne_o5_o78 (ninS ne_o5_o68 (ninS ne_o5_o71 (ninS ne_o5_o74 nin0))))))))))))
        have nn_o8 : o8 ∉ [o65, o66, o67, o70, o73, o3, o76, o77, o78, o68, o71, o74] := (ninS ne_o8_o65 (ninS ne_o8_o66 (ninS ne_o8_o67 (ninS ne_o8_o70 (ninS ne_o8_o73 (ninS (Ne.symm ne_o3_o8) (ninS ne_o8_o76 (ninS ne_o8_o77 (ninS ne_o8_o78 (ninS ne_o8_o68 (ninS ne_o8_o71 (ninS ne_o8_o74 nin0))))))))))))
        have nn_o60 : o60 ∉ [o65, o66, o67, o70, o73, o3, o76, o77, o78, o68, o71, o74] := (ninS ne_o60_o65 (ninS ne_o60_o66 (ninS ne_o60_o67 (ninS ne_o60_o70 (ninS ne_o60_o73 (ninS (Ne.symm ne_o3_o60) (ninS ne_o60_o76 (ninS ne_o60_o77 (ninS ne_o60_o78 (ninS ne_o60_o68 (ninS ne_o60_o71 (ninS ne_o60_o74 nin0))))))))))))
        have A_o1 := A_o1.keep Kc (ninS ne_o1_o65 (ninS ne_o1_o66 (ninS ne_o1_o67 (ninS ne_o1_o70 (ninS ne_o1_o73 (ninS ne_o1_o3 (ninS ne_o1_o76 (ninS ne_o1_o77 (ninS ne_o1_o78 (ninS ne_o1_o68 (ninS ne_o1_o71 (ninS ne_o1_o74 nin0))))))))))))
        have A_o2 := A_o2.keep Kc (ninS ne_o2_o65 (ninS ne_o2_o66 (ninS ne_o2_o67 (ninS ne_o2_o70 (ninS ne_o2_o73 (ninS ne_o2_o3 (ninS ne_o2_o76 (ninS ne_o2_o77 (ninS ne_o2_o78 (ninS ne_o2_o68 (ninS ne_o2_o71 (ninS ne_o2_o74 nin0))))))))))))
        have A_o11 := A_o11.keep Kc (ninS ne_o11_o65 (ninS ne_o11_o66 (ninS ne_o11_o67 (ninS ne_o11_o70 (ninS ne_o11_o73 (ninS (Ne.symm ne_o3_o11) (ninS ne_o11_o76 (ninS ne_o11_o77 (ninS ne_o11_o78 (ninS ne_o11_o68 (ninS ne_o11_o71 (ninS ne_o11_o74 nin0))))))))))))
        have A_o31 := A_o31.keep Kc (ninS ne_o31_o65 (ninS ne_o31_o66 (ninS ne_o31_o67 (ninS ne_o31_o70 (ninS ne_o31_o73 (ninS (Ne.symm ne_o3_o31) (ninS ne_o31_o76 (ninS ne_o31_o77 (ninS ne_o31_o78 (ninS ne_o31_o68 (ninS ne_o31_o71 (ninS ne_o31_o74 nin0))))))))))))
        have A_o4 := A_o4.keep Kc (ninS ne_o4_o65 (ninS ne_o4_o66 (ninS ne_o4_o67 (ninS ne_o4_o70 (ninS ne_o4_o73 (ninS (Ne.symm ne_o3_o4) (ninS ne_o4_o76 (ninS ne_o4_o77 (ninS ne_o4_o78 (ninS ne_o4_o68 (ninS ne_o4_o71 (ninS ne_o4_o74 nin0))))))))))))
        have E_o5 := E_o5.keep Kc
        have F_o5_values := F_o5_values.keep Kc nn_o5
        have F_o5_size := F_o5_size.keep Kc nn_o5
        have A_o6 := A_o6.keep Kc (ninS ne_o6_o65 (ninS ne_o6_o66 (ninS ne_o6_o67 (ninS ne_o6_o70 (ninS ne_o6_o73 (ninS (Ne.symm ne_o3_o6) (ninS ne_o6_o76 (ninS ne_o6_o77 (ninS ne_o6_o78 (ninS ne_o6_o68 (ninS ne_o6_o71 (ninS ne_o6_o74 nin0))))))))))))
        have E_o8 := E_o8.keep Kc
        have F_o8_values := F_o8_values.keep Kc nn_o8
        have F_o8_size := F_o8_size.keep Kc nn_o8
        have A_o9 := A_o9.keep Kc (ninS ne_o9_o65 (ninS ne_o9_o66 (ninS ne_o9_o67 (ninS ne_o9_o70 (ninS ne_o9_o73 (ninS (Ne.symm ne_o3_o9) (ninS ne_o9_o76 (ninS ne_o9_o77 (ninS ne_o9_o78 (ninS ne_o9_o68 (ninS ne_o9_o71 (ninS ne_o9_o74 nin0))))))))))))
        have E_o60 := E_o60.keep Kc
        have F_o60_values := F_o60_values.keep Kc nn_o60
        have F_o60_size := F_o60_size.keep Kc nn_o60
        have A_o61 := A_o61.keep Kc (ninS ne_o61_o65 (ninS ne_o61_o66 (ninS ne_o61_o67 (ninS ne_o61_o70 (ninS ne_o61_o73 (ninS (Ne.symm ne_o3_o61) (ninS ne_o61_o76 (ninS ne_o61_o77 (ninS ne_o61_o78 (ninS ne_o61_o68 (ninS ne_o61_o71 (ninS ne_o61_o74 nin0))))))))))))
        have A_o79 := A_o79.keep Kc (ninS (Ne.symm ne_o65_o79) (ninS (Ne.symm ne_o66_o79) (ninS (Ne.symm ne_o67_o79) (ninS (Ne.symm ne_o70_o79) (ninS (Ne.symm ne_o73_o79) (ninS (Ne.symm ne_o3_o79) (ninS (Ne.symm ne_o76_o79) (ninS (Ne.symm ne_o77_o79) (ninS (Ne.symm ne_o78_o79) (ninS (Ne.symm ne_o68_o79) (ninS (Ne.symm ne_o71_o79) (ninS (Ne.symm ne_o74_o79) nin0))))))))))))
        have A_o80 := A_o80.keep Kc (ninS (Ne.symm ne_o65_o80) (ninS (Ne.symm ne_o66_o80) (ninS (Ne.symm ne_o67_o80) (ninS (Ne.symm ne_o70_o80) (ninS (Ne.symm ne_o73_o80) (ninS (Ne.symm ne_o3_o80) (ninS (Ne.symm ne_o76_o80) (ninS (Ne.symm ne_o77_o80) (ninS (Ne.symm ne_o78_o80) (ninS (Ne.symm ne_o68_o80) (ninS (Ne.symm ne_o71_o80) (ninS (Ne.symm ne_o74_o80) nin0))))))))))))
        have A_o81 := A_o81.keep Kc (ninS (Ne.symm ne_o65_o81) (ninS (Ne.symm ne_o66_o81) (ninS (Ne.symm ne_o67_o81) (ninS (Ne.symm ne_o70_o81) (ninS (Ne.symm ne_o73_o81) (ninS (Ne.symm ne_o3_o81) (ninS (Ne.symm ne_o76_o81) (ninS (Ne.symm ne_o77_o81) (ninS (Ne.symm ne_o78_o81) (ninS (Ne.symm ne_o68_o81) (ninS (Ne.symm ne_o71_o81) (ninS (Ne.symm ne_o74_o81) nin0))))))))))))
        have t_c20_146 : (0 : Int) < (stp).toInt := cl_gt.mp c20_146
        refine Run.cast (st' := [(.int (-1 : Int32))]) rfl ?_
        refine s_istore 124 C X (l' := #[.val (.int x0), .val (.int x1), .val (.int x2), .val (.ref o1), .val (.ref o2), .val (.int (0 : Int32)), .val (.int mm), .val (.ref o3), .val (.ref o60), .val (.ref o65), .val (.long ((0 : Int64) * (x0).toInt64)), .second, .val (.int (-1 : Int32)), .unset, .unset, .unset, .unset, .unset, .unset, .unset, .unset]) at_122 rfl ?_
        refine s_aload 126 C X at_124 rfl rfl ?_
        refine s_aload 128 C X at_126 rfl rfl ?_
        refine s_iconst 129 C X at_128 kc_iconst_0 ?_
        refine s_callV 132 [(.ref o2), (.int (0 : Int32))] [] 0 C X at_129 (mW 150 rfl) (mW 151 rfl) (notFace_of_selects (args := #[]) (mvT C.2.1 (C.w (mW 153 rfl)))) (mW 153 rfl) (mW 152 rfl) (mW 96 rfl) (mW 154 rfl) E_o65 (rm_a237 l Z a0 hw x0 o2 o3 k_o2 o4 o5 k_o4 o6 k_o6 o8 o11 o31 o60 o65 o66 o67 k_o66 o70 o73 o76 o77 o78 o79 o80 o81 (stp) _ n0 X.sz A_o2 A_o4 E_o5 F_o5_values F_o5_size A_o6 E_o65 F_o65_tokens F_o65_nearestFewer F_o65_nearestUnmarked F_o65_firstNearestUnmarked F_o65_markings F_o65_parents F_o65_stepsPerMarking F_o65_searchedMarking F_o65_searchedPlaces F_o65_searchedTokens F_o65_parentPlaces F_o65_parentTokens F_o65_unmarkedRanks F_o65_searched F_o65_steps A_o66 E_o3 F_o3_bytes F_o3_starts F_o3_hashes F_o3_table F_o3_encoded F_o3_encodedLength F_o3_encodedHash F_o3_length F_o3_position ne_o2_o3 g_o3 ne_o3_o4 ne_o3_o5 ne_o3_o6 ne_o2_o65 ne_o3_o65 ne_o4_o65 ne_o5_o65 ne_o6_o65 g_o65 ne_o3_o66 ne_o65_o66) (lenOf pd___JI_Z rfl) rfl rfl rfl (fun T v hh X q => ?_)
        obtain ⟨rfl, c20_206, Kc, E_o65, F_o65_tokens, F_o65_nearestFewer, F_o65_nearestUnmarked, F_o65_firstNearestUnmarked, F_o65_markings, F_o65_parents, F_o65_stepsPerMarking, F_o65_searchedMarking, F_o65_searchedPlaces, F_o65_searchedTokens, F_o65_parentPlaces, F_o65_parentTokens, F_o65_unmarkedRanks, F_o65_searched, F_o65_steps, E_o3, F_o3_bytes, F_o3_starts, F_o3_hashes, F_o3_table, F_o3_encoded, F_o3_encodedLength, F_o3_encodedHash, F_o3_length, F_o3_position⟩ | ⟨rfl, c20_206, E_o65, F_o65_tokens, F_o65_nearestFewer, F_o65_nearestUnmarked, F_o65_firstNearestUnmarked, F_o65_markings, F_o65_parents, F_o65_stepsPerMarking, F_o65_searchedMarking, F_o65_searchedPlaces, F_o65_searchedTokens, F_o65_parentPlaces, F_o65_parentTokens, F_o65_unmarkedRanks, F_o65_searched, F_o65_steps, E_o3, F_o3_bytes, F_o3_starts, F_o3_hashes, F_o3_table, F_o3_encoded, F_o3_encodedLength, F_o3_encodedHash, F_o3_length, F_o3_position, Kc⟩ := q
        · have nn_o5 : o5 ∉ [o65, o3] := (ninS ne_o5_o65 (ninS (Ne.symm ne_o3_o5) nin0))
          have nn_o8 : o8 ∉ [o65, o3] := (ninS ne_o8_o65 (ninS (Ne.symm ne_o3_o8) nin0))
          have nn_o60 : o60 ∉ [o65, o3] := (ninS ne_o60_o65 (ninS (Ne.symm ne_o3_o60) nin0))
          have nn_o67 : o67 ∉ [o65, o3] := (ninS (Ne.symm ne_o65_o67) (ninS (Ne.symm ne_o3_o67) nin0))
          have nn_o73 : o73 ∉ [o65, o3] := (ninS (Ne.symm ne_o65_o73) (ninS (Ne.symm ne_o3_o73) nin0))
          have nn_o70 : o70 ∉ [o65, o3] := (ninS (Ne.symm ne_o65_o70) (ninS (Ne.symm ne_o3_o70) nin0))
          have A_o1 := A_o1.keep Kc (ninS ne_o1_o65 (ninS ne_o1_o3 nin0))
          have A_o2 := A_o2.keep Kc (ninS ne_o2_o65 (ninS ne_o2_o3 nin0))
          have A_o11 := A_o11.keep Kc (ninS ne_o11_o65 (ninS (Ne.symm ne_o3_o11) nin0))
          have A_o31 := A_o31.keep Kc (ninS ne_o31_o65 (ninS (Ne.symm ne_o3_o31) nin0))
          have A_o4 := A_o4.keep Kc (ninS ne_o4_o65 (ninS (Ne.symm ne_o3_o4) nin0))
          have E_o5 := E_o5.keep Kc
          have F_o5_values := F_o5_values.keep Kc nn_o5
          have F_o5_size := F_o5_size.keep Kc nn_o5
          have A_o6 := A_o6.keep Kc (ninS ne_o6_o65 (ninS (Ne.symm ne_o3_o6) nin0))
          have E_o8 := E_o8.keep Kc
          have F_o8_values := F_o8_values.keep Kc nn_o8
          have F_o8_size := F_o8_size.keep Kc nn_o8
          have A_o9 := A_o9.keep Kc (ninS ne_o9_o65 (ninS (Ne.symm ne_o3_o9) nin0))
          have E_o60 := E_o60.keep Kc
          have F_o60_values := F_o60_values.keep Kc nn_o60
          have F_o60_size := F_o60_size.keep Kc nn_o60
          have A_o61 := A_o61.keep Kc (ninS ne_o61_o65 (ninS (Ne.symm ne_o3_o61) nin0))
          have A_o79 := A_o79.keep Kc (ninS (Ne.symm ne_o65_o79) (ninS (Ne.symm ne_o3_o79) nin0))
          have A_o80 := A_o80.keep Kc (ninS (Ne.symm ne_o65_o80) (ninS (Ne.symm ne_o3_o80) nin0))
          have A_o81 := A_o81.keep Kc (ninS (Ne.symm ne_o65_o81) (ninS (Ne.symm ne_o3_o81) nin0))
          have A_o66 := A_o66.keep Kc (ninS (Ne.symm ne_o65_o66) (ninS (Ne.symm ne_o3_o66) nin0))
          have A_o76 := A_o76.keep Kc (ninS (Ne.symm ne_o65_o76) (ninS (Ne.symm ne_o3_o76) nin0))
          have A_o77 := A_o77.keep Kc (ninS (Ne.symm ne_o65_o77) (ninS (Ne.symm ne_o3_o77) nin0))
          have A_o78 := A_o78.keep Kc (ninS (Ne.symm ne_o65_o78) (ninS (Ne.symm ne_o3_o78) nin0))
          have E_o67 := E_o67.keep Kc
          have F_o67_values := F_o67_values.keep Kc nn_o67
          have F_o67_size := F_o67_size.keep Kc nn_o67
          have A_o68 := A_o68.keep Kc (ninS (Ne.symm ne_o65_o68) (ninS (Ne.symm ne_o3_o68) nin0))
          have E_o73 := E_o73.keep Kc
          have F_o73_values := F_o73_values.keep Kc nn_o73
          have F_o73_size := F_o73_size.keep Kc nn_o73
          have A_o74 := A_o74.keep Kc (ninS (Ne.symm ne_o65_o74) (ninS (Ne.symm ne_o3_o74) nin0))
          have E_o70 := E_o70.keep Kc
          have F_o70_blocks := F_o70_blocks.keep Kc nn_o70
          have F_o70_size := F_o70_size.keep Kc nn_o70
          have E_o71 := E_o71.keep Kc
          have A_o71 := A_o71.keep Kc (ninS (Ne.symm ne_o65_o71) (ninS (Ne.symm ne_o3_o71) nin0))
          have E_o181 := E_o181.keep Kc
          have A_o181 := A_o181.keep Kc (ninS (Ne.symm ne_o65_o181) (ninS (Ne.symm ne_o3_o181) nin0))
          have t_c20_206 : (0 : Int) < (stp).toInt := cl_gt.mp c20_206
          refine Run.cast (st' := [(.int (1 : Int32))]) rfl ?_
          refine s_istore 134 C X (l' := #[.val (.int x0), .val (.int x1), .val (.int x2), .val (.ref o1), .val (.ref o2), .val (.int (0 : Int32)), .val (.int mm), .val (.ref o3), .val (.ref o60), .val (.ref o65), .val (.long ((0 : Int64) * (x0).toInt64)), .second, .val (.int (-1 : Int32)), .val (.int (1 : Int32)), .unset, .unset, .unset, .unset, .unset, .unset, .unset]) at_132 rfl ?_
          refine s_iload 136 C X at_134 rfl ?_
          refine s_if_eq 144 139 C X at_136 (fun c136_238 => ?_) (fun c136_238 => ?_)
          · have t_c136_238 : (mm).toInt = (0 : Int) := congrArg Int32.toInt c136_238
            refine s_aload 146 C X at_144 rfl rfl ?_
            refine s_aload 148 C X at_146 rfl rfl ?_
            refine s_iconst 149 C X at_148 kc_iconst_0 ?_
            refine s_callV 152 [(.ref o2), (.int (0 : Int32))] [] 0 C X at_149 (mW 150 rfl) (mW 151 rfl) (notFace_of_selects (args := #[]) (mvT C.2.1 (C.w (mW 153 rfl)))) (mW 153 rfl) (mW 152 rfl) (mW 96 rfl) (mW 154 rfl) E_o65 (rm_a237 l Z a0 hw x0 o2 o3 k_o2 o4 o5 k_o4 o6 k_o6 o8 o11 o31 o60 o65 o66 o67 k_o66 o70 o73 o76 o77 o78 o79 o80 o81 ((stp - (1 : Int64)) - (2 : Int64)) _ n0 X.sz A_o2 A_o4 E_o5 F_o5_values F_o5_size A_o6 E_o65 F_o65_tokens F_o65_nearestFewer F_o65_nearestUnmarked F_o65_firstNearestUnmarked F_o65_markings F_o65_parents F_o65_stepsPerMarking F_o65_searchedMarking F_o65_searchedPlaces F_o65_searchedTokens F_o65_parentPlaces F_o65_parentTokens F_o65_unmarkedRanks F_o65_searched F_o65_steps A_o66 E_o3 F_o3_bytes F_o3_starts F_o3_hashes F_o3_table F_o3_encoded F_o3_encodedLength F_o3_encodedHash F_o3_length F_o3_position ne_o2_o3 g_o3 ne_o3_o4 ne_o3_o5 ne_o3_o6 ne_o2_o65 ne_o3_o65 ne_o4_o65 ne_o5_o65 ne_o6_o65 g_o65 ne_o3_o66 ne_o65_o66) (lenOf pd___JI_Z rfl) rfl rfl rfl (fun T v hh X q => ?_)
            obtain ⟨rfl, c20_206, Kc, E_o65, F_o65_tokens, F_o65_nearestFewer, F_o65_nearestUnmarked, F_o65_firstNearestUnmarked, F_o65_markings, F_o65_parents, F_o65_stepsPerMarking, F_o65_searchedMarking, F_o65_searchedPlaces, F_o65_searchedTokens, F_o65_parentPlaces, F_o65_parentTokens, F_o65_unmarkedRanks, F_o65_searched, F_o65_steps, E_o3, F_o3_bytes, F_o3_starts, F_o3_hashes, F_o3_table, F_o3_encoded, F_o3_encodedLength, F_o3_encodedHash, F_o3_length, F_o3_position⟩ | ⟨rfl, c20_206, E_o65, F_o65_tokens, F_o65_nearestFewer, F_o65_nearestUnmarked, F_o65_firstNearestUnmarked, F_o65_markings, F_o65_parents, F_o65_stepsPerMarking, F_o65_searchedMarking, F_o65_searchedPlaces, F_o65_searchedTokens, F_o65_parentPlaces, F_o65_parentTokens, F_o65_unmarkedRanks, F_o65_searched, F_o65_steps, E_o3, F_o3_bytes, F_o3_starts, F_o3_hashes, F_o3_table, F_o3_encoded, F_o3_encodedLength, F_o3_encodedHash, F_o3_length, F_o3_position, Kc⟩ := q
            · have t_c20_206 : (0 : Int) < (((stp - (1 : Int64)) - (2 : Int64))).toInt := cl_gt.mp c20_206
              refine Run.cast (st' := [(.int (1 : Int32))]) rfl ?_
              refine s_istore 154 C X (l' := #[.val (.int x0), .val (.int x1), .val (.int x2), .val (.ref o1), .val (.ref o2), .val (.int (0 : Int32)), .val (.int mm), .val (.ref o3), .val (.ref o60), .val (.ref o65), .val (.long ((0 : Int64) * (x0).toInt64)), .second, .val (.int (-1 : Int32)), .val (.int (1 : Int32)), .val (.int (1 : Int32)), .unset, .unset, .unset, .unset, .unset, .unset]) at_152 rfl ?_
              have kl0 : (0 : Int64).toInt = 0 := by decide
              have kl1 : (1 : Int64).toInt = 1 := by decide
              have kl2 : ((stp - (1 : Int64))).toInt = (stp).toInt - ((1 : Int64)).toInt := by have u := c_lsub stp (1 : Int64); have r := rng64 (stp - (1 : Int64)); omega
              have kl3 : (2 : Int64).toInt = 2 := by decide
              have kl4 : (((stp - (1 : Int64)) - (2 : Int64))).toInt = ((stp - (1 : Int64))).toInt - ((2 : Int64)).toInt := by have u := c_lsub (stp - (1 : Int64)) (2 : Int64); have r := rng64 ((stp - (1 : Int64)) - (2 : Int64)); omega
              exact TL T _ _ _ X _ _ _ _ _ (by decide) (by decide) (by omega) (Or.inl ⟨c136_238, rfl⟩) (Or.inl ⟨by omega, by omega, rfl, rfl⟩)
            · have t_c20_206 : ¬ ((0 : Int) < (((stp - (1 : Int64)) - (2 : Int64))).toInt) := fun q => c20_206 (cl_gt.mpr q)
              refine Run.cast (st' := [(.int (0 : Int32))]) rfl ?_
              refine s_istore 154 C X (l' := #[.val (.int x0), .val (.int x1), .val (.int x2), .val (.ref o1), .val (.ref o2), .val (.int (0 : Int32)), .val (.int mm), .val (.ref o3), .val (.ref o60), .val (.ref o65), .val (.long ((0 : Int64) * (x0).toInt64)), .second, .val (.int (-1 : Int32)), .val (.int (1 : Int32)), .val (.int (0 : Int32)), .unset, .unset, .unset, .unset, .unset, .unset]) at_152 rfl ?_
              have kl0 : (0 : Int64).toInt = 0 := by decide
              have kl1 : (1 : Int64).toInt = 1 := by decide
              have kl2 : ((stp - (1 : Int64))).toInt = (stp).toInt - ((1 : Int64)).toInt := by have u := c_lsub stp (1 : Int64); have r := rng64 (stp - (1 : Int64)); omega
              have kl3 : (2 : Int64).toInt = 2 := by decide
              have kl4 : (((stp - (1 : Int64)) - (2 : Int64))).toInt = ((stp - (1 : Int64))).toInt - ((2 : Int64)).toInt := by have u := c_lsub (stp - (1 : Int64)) (2 : Int64); have r := rng64 ((stp - (1 : Int64)) - (2 : Int64)); omega
              exact TL T _ _ _ X _ _ _ _ _ (by decide) (by decide) (by omega) (Or.inl ⟨c136_238, rfl⟩) (Or.inr (Or.inl ⟨by omega, by omega, rfl, rfl⟩))
          have t_c136_238 : ¬ ((mm).toInt = (0 : Int)) := fun q => c136_238 (Int32.toInt_inj.mp q)
          refine s_aload 141 C X at_139 rfl rfl ?_
          refine s_callV 144 [] [] 0 C X at_141 (mW 155 rfl) (mW 156 rfl) (notFace_of_selects (args := #[]) (mvT C.2.1 (C.w (mW 158 rfl)))) (mW 158 rfl) (mW 157 rfl) (mW 96 rfl) (mW 159 rfl) E_o65 (rm_a274 l Z a0 hw x0 o3 o60 o65 o66 o67 o70 o73 o76 o77 o78 o79 o80 o81 ((stp - (1 : Int64)) - (2 : Int64)) _ n0 X.sz E_o65 F_o65_tokens F_o65_nearestFewer F_o65_nearestUnmarked F_o65_firstNearestUnmarked F_o65_markings F_o65_parents F_o65_stepsPerMarking F_o65_searchedMarking F_o65_searchedPlaces F_o65_searchedTokens F_o65_parentPlaces F_o65_parentTokens F_o65_unmarkedRanks F_o65_searched F_o65_steps g_o65) (lenOf pd___V rfl) rfl rfl rfl (fun T v hh X q => ?_)
          obtain ⟨rfl, E_o65, F_o65_tokens, F_o65_nearestFewer, F_o65_nearestUnmarked, F_o65_firstNearestUnmarked, F_o65_markings, F_o65_parents, F_o65_stepsPerMarking, F_o65_searchedMarking, F_o65_searchedPlaces, F_o65_searchedTokens, F_o65_parentPlaces, F_o65_parentTokens, F_o65_unmarkedRanks, F_o65_searched, F_o65_steps, Kc⟩ := q
          have A_o1 := A_o1.keep Kc (ninS ne_o1_o65 nin0)
          have A_o2 := A_o2.keep Kc (ninS ne_o2_o65 nin0)
          have A_o11 := A_o11.keep Kc (ninS ne_o11_o65 nin0)
          have A_o31 := A_o31.keep Kc (ninS ne_o31_o65 nin0)
          have A_o4 := A_o4.keep Kc (ninS ne_o4_o65 nin0)
          have E_o5 := E_o5.keep Kc
          have F_o5_values := F_o5_values.keep Kc (ninS ne_o5_o65 nin0)
          have F_o5_size := F_o5_size.keep Kc (ninS ne_o5_o65 nin0)
          have A_o6 := A_o6.keep Kc (ninS ne_o6_o65 nin0)
          have E_o8 := E_o8.keep Kc
          have F_o8_values := F_o8_values.keep Kc (ninS ne_o8_o65 nin0)
          have F_o8_size := F_o8_size.keep Kc (ninS ne_o8_o65 nin0)
          have A_o9 := A_o9.keep Kc (ninS ne_o9_o65 nin0)
          have E_o60 := E_o60.keep Kc
          have F_o60_values := F_o60_values.keep Kc (ninS ne_o60_o65 nin0)
          have F_o60_size := F_o60_size.keep Kc (ninS ne_o60_o65 nin0)
          have A_o61 := A_o61.keep Kc (ninS ne_o61_o65 nin0)
          have A_o79 := A_o79.keep Kc (ninS (Ne.symm ne_o65_o79) nin0)
          have A_o80 := A_o80.keep Kc (ninS (Ne.symm ne_o65_o80) nin0)
          have A_o81 := A_o81.keep Kc (ninS (Ne.symm ne_o65_o81) nin0)
          have A_o66 := A_o66.keep Kc (ninS (Ne.symm ne_o65_o66) nin0)
          have A_o76 := A_o76.keep Kc (ninS (Ne.symm ne_o65_o76) nin0)
          have A_o77 := A_o77.keep Kc (ninS (Ne.symm ne_o65_o77) nin0)
          have A_o78 := A_o78.keep Kc (ninS (Ne.symm ne_o65_o78) nin0)
          have E_o67 := E_o67.keep Kc
          have F_o67_values := F_o67_values.keep Kc (ninS (Ne.symm ne_o65_o67) nin0)
          have F_o67_size := F_o67_size.keep Kc (ninS (Ne.symm ne_o65_o67) nin0)
          have A_o68 := A_o68.keep Kc (ninS (Ne.symm ne_o65_o68) nin0)
          have E_o73 := E_o73.keep Kc
          have F_o73_values := F_o73_values.keep Kc (ninS (Ne.symm ne_o65_o73) nin0)
          have F_o73_size := F_o73_size.keep Kc (ninS (Ne.symm ne_o65_o73) nin0)
          have A_o74 := A_o74.keep Kc (ninS (Ne.symm ne_o65_o74) nin0)
          have E_o70 := E_o70.keep Kc
          have F_o70_blocks := F_o70_blocks.keep Kc (ninS (Ne.symm ne_o65_o70) nin0)
          have F_o70_size := F_o70_size.keep Kc (ninS (Ne.symm ne_o65_o70) nin0)
          have E_o71 := E_o71.keep Kc
          have A_o71 := A_o71.keep Kc (ninS (Ne.symm ne_o65_o71) nin0)
          have E_o181 := E_o181.keep Kc
          have A_o181 := A_o181.keep Kc (ninS (Ne.symm ne_o65_o181) nin0)
          have E_o3 := E_o3.keep Kc
          have F_o3_bytes := F_o3_bytes.keep Kc (ninS ne_o3_o65 nin0)
          have F_o3_starts := F_o3_starts.keep Kc (ninS ne_o3_o65 nin0)
          have F_o3_hashes := F_o3_hashes.keep Kc (ninS ne_o3_o65 nin0)
          have F_o3_table := F_o3_table.keep Kc (ninS ne_o3_o65 nin0)
          have F_o3_encoded := F_o3_encoded.keep Kc (ninS ne_o3_o65 nin0)
          have F_o3_encodedLength := F_o3_encodedLength.keep Kc (ninS ne_o3_o65 nin0)
          have F_o3_encodedHash := F_o3_encodedHash.keep Kc (ninS ne_o3_o65 nin0)
          have F_o3_length := F_o3_length.keep Kc (ninS ne_o3_o65 nin0)
          have F_o3_position := F_o3_position.keep Kc (ninS ne_o3_o65 nin0)
          refine Run.cast (st' := []) rfl ?_
          refine s_aload 146 C X at_144 rfl rfl ?_
          refine s_aload 148 C X at_146 rfl rfl ?_
          refine s_iconst 149 C X at_148 kc_iconst_0 ?_
          refine s_callV 152 [(.ref o2), (.int (0 : Int32))] [] 0 C X at_149 (mW 150 rfl) (mW 151 rfl) (notFace_of_selects (args := #[]) (mvT C.2.1 (C.w (mW 153 rfl)))) (mW 153 rfl) (mW 152 rfl) (mW 96 rfl) (mW 154 rfl) E_o65 (rm_a237 l Z a0 hw x0 o2 o3 k_o2 o4 o5 k_o4 o6 k_o6 o8 o11 o31 o60 o65 o66 o67 k_o66 o70 o73 o76 o77 o78 o79 o80 o81 (((stp - (1 : Int64)) - (2 : Int64)) + (x0).toInt64) _ n0 X.sz A_o2 A_o4 E_o5 F_o5_values F_o5_size A_o6 E_o65 F_o65_tokens F_o65_nearestFewer F_o65_nearestUnmarked F_o65_firstNearestUnmarked F_o65_markings F_o65_parents F_o65_stepsPerMarking F_o65_searchedMarking F_o65_searchedPlaces F_o65_searchedTokens F_o65_parentPlaces F_o65_parentTokens F_o65_unmarkedRanks F_o65_searched F_o65_steps A_o66 E_o3 F_o3_bytes F_o3_starts F_o3_hashes F_o3_table F_o3_encoded F_o3_encodedLength F_o3_encodedHash F_o3_length F_o3_position ne_o2_o3 g_o3 ne_o3_o4 ne_o3_o5 ne_o3_o6 ne_o2_o65 ne_o3_o65 ne_o4_o65 ne_o5_o65 ne_o6_o65 g_o65 ne_o3_o66 ne_o65_o66) (lenOf pd___JI_Z rfl) rfl rfl rfl (fun T v hh X q => ?_)
          obtain ⟨rfl, c20_206, Kc, E_o65, F_o65_tokens, F_o65_nearestFewer, F_o65_nearestUnmarked, F_o65_firstNearestUnmarked, F_o65_markings, F_o65_parents, F_o65_stepsPerMarking, F_o65_searchedMarking, F_o65_searchedPlaces, F_o65_searchedTokens, F_o65_parentPlaces, F_o65_parentTokens, F_o65_unmarkedRanks, F_o65_searched, F_o65_steps, E_o3, F_o3_bytes, F_o3_starts, F_o3_hashes, F_o3_table, F_o3_encoded, F_o3_encodedLength, F_o3_encodedHash, F_o3_length, F_o3_position⟩ | ⟨rfl, c20_206, E_o65, F_o65_tokens, F_o65_nearestFewer, F_o65_nearestUnmarked, F_o65_firstNearestUnmarked, F_o65_markings, F_o65_parents, F_o65_stepsPerMarking, F_o65_searchedMarking, F_o65_searchedPlaces, F_o65_searchedTokens, F_o65_parentPlaces, F_o65_parentTokens, F_o65_unmarkedRanks, F_o65_searched, F_o65_steps, E_o3, F_o3_bytes, F_o3_starts, F_o3_hashes, F_o3_table, F_o3_encoded, F_o3_encodedLength, F_o3_encodedHash, F_o3_length, F_o3_position, Kc⟩ := q
          · have t_c20_206 : (0 : Int) < ((((stp - (1 : Int64)) - (2 : Int64)) + (x0).toInt64)).toInt := cl_gt.mp c20_206
            refine Run.cast (st' := [(.int (1 : Int32))]) rfl ?_
            refine s_istore 154 C X (l' := #[.val (.int x0), .val (.int x1), .val (.int x2), .val (.ref o1), .val (.ref o2), .val (.int (0 : Int32)), .val (.int mm), .val (.ref o3), .val (.ref o60), .val (.ref o65), .val (.long ((0 : Int64) * (x0).toInt64)), .second, .val (.int (-1 : Int32)), .val (.int (1 : Int32)), .val (.int (1 : Int32)), .unset, .unset, .unset, .unset, .unset, .unset]) at_152 rfl ?_
            have kl0 : (0 : Int64).toInt = 0 := by decide
            have kl1 : (1 : Int64).toInt = 1 := by decide
            have kl2 : ((stp - (1 : Int64))).toInt = (stp).toInt - ((1 : Int64)).toInt := by have u := c_lsub stp (1 : Int64); have r := rng64 (stp - (1 : Int64)); omega
            have kl3 : (2 : Int64).toInt = 2 := by decide
            have kl4 : (((stp - (1 : Int64)) - (2 : Int64))).toInt = ((stp - (1 : Int64))).toInt - ((2 : Int64)).toInt := by have u := c_lsub (stp - (1 : Int64)) (2 : Int64); have r := rng64 ((stp - (1 : Int64)) - (2 : Int64)); omega
            have kl5 := c_i2l x0
            have kl6 := rng32 x0
            have kl7 : ((((stp - (1 : Int64)) - (2 : Int64)) + (x0).toInt64)).toInt = (((stp - (1 : Int64)) - (2 : Int64))).toInt + ((x0).toInt64).toInt := by have u := c_ladd ((stp - (1 : Int64)) - (2 : Int64)) (x0).toInt64; have r := rng64 (((stp - (1 : Int64)) - (2 : Int64)) + (x0).toInt64); omega
            exact TL T _ _ _ X _ _ _ _ _ (by decide) (by decide) (by omega) (Or.inr ⟨hm.resolve_left c136_238, rfl⟩) (Or.inl ⟨by omega, by omega, rfl, rfl⟩)
          · have t_c20_206 : ¬ ((0 : Int) < ((((stp - (1 : Int64)) - (2 : Int64)) + (x0).toInt64)).toInt) := fun q => c20_206 (cl_gt.mpr q)
            refine Run.cast (st' := [(.int (0 : Int32))]) rfl ?_
            refine s_istore 154 C X (l' := #[.val (.int x0), .val (.int x1), .val (.int x2), .val (.ref o1), .val (.ref o2), .val (.int (0 : Int32)), .val (.int mm), .val (.ref o3), .val (.ref o60), .val (.ref o65), .val (.long ((0 : Int64) * (x0).toInt64)), .second, .val (.int (-1 : Int32)), .val (.int (1 : Int32)), .val (.int (0 : Int32)), .unset, .unset, .unset, .unset, .unset, .unset]) at_152 rfl ?_
            have kl0 : (0 : Int64).toInt = 0 := by decide
            have kl1 : (1 : Int64).toInt = 1 := by decide
            have kl2 : ((stp - (1 : Int64))).toInt = (stp).toInt - ((1 : Int64)).toInt := by have u := c_lsub stp (1 : Int64); have r := rng64 (stp - (1 : Int64)); omega
            have kl3 : (2 : Int64).toInt = 2 := by decide
            have kl4 : (((stp - (1 : Int64)) - (2 : Int64))).toInt = ((stp - (1 : Int64))).toInt - ((2 : Int64)).toInt := by have u := c_lsub (stp - (1 : Int64)) (2 : Int64); have r := rng64 ((stp - (1 : Int64)) - (2 : Int64)); omega
            have kl5 := c_i2l x0
            have kl6 := rng32 x0
            have kl7 : ((((stp - (1 : Int64)) - (2 : Int64)) + (x0).toInt64)).toInt = (((stp - (1 : Int64)) - (2 : Int64))).toInt + ((x0).toInt64).toInt := by have u := c_ladd ((stp - (1 : Int64)) - (2 : Int64)) (x0).toInt64; have r := rng64 (((stp - (1 : Int64)) - (2 : Int64)) + (x0).toInt64); omega
            exact TL T _ _ _ X _ _ _ _ _ (by decide) (by decide) (by omega) (Or.inr ⟨hm.resolve_left c136_238, rfl⟩) (Or.inr (Or.inl ⟨by omega, by omega, rfl, rfl⟩))
        · have nn_o5 : o5 ∉ [o65, o3] := (ninS ne_o5_o65 (ninS (Ne.symm ne_o3_o5) nin0))
          have nn_o8 : o8 ∉ [o65, o3] := (ninS ne_o8_o65 (ninS (Ne.symm ne_o3_o8) nin0))
          have nn_o60 : o60 ∉ [o65, o3] := (ninS ne_o60_o65 (ninS (Ne.symm ne_o3_o60) nin0))
          have nn_o67 : o67 ∉ [o65, o3] := (ninS (Ne.symm ne_o65_o67) (ninS (Ne.symm ne_o3_o67) nin0))
          have nn_o73 : o73 ∉ [o65, o3] := (ninS (Ne.symm ne_o65_o73) (ninS (Ne.symm ne_o3_o73) nin0))
          have nn_o70 : o70 ∉ [o65, o3] := (ninS (Ne.symm ne_o65_o70) (ninS (Ne.symm ne_o3_o70) nin0))
          have A_o1 := A_o1.keep Kc (ninS ne_o1_o65 (ninS ne_o1_o3 nin0))
          have A_o2 := A_o2.keep Kc (ninS ne_o2_o65 (ninS ne_o2_o3 nin0))
          have A_o11 := A_o11.keep Kc (ninS ne_o11_o65 (ninS (Ne.symm ne_o3_o11) nin0))
          have A_o31 := A_o31.keep Kc (ninS ne_o31_o65 (ninS (Ne.symm ne_o3_o31) nin0))
          have A_o4 := A_o4.keep Kc (ninS ne_o4_o65 (ninS (Ne.symm ne_o3_o4) nin0))
          have E_o5 := E_o5.keep Kc
          have F_o5_values := F_o5_values.keep Kc nn_o5
          have F_o5_size := F_o5_size.keep Kc nn_o5
          have A_o6 := A_o6.keep Kc (ninS ne_o6_o65 (ninS (Ne.symm ne_o3_o6) nin0))
          have E_o8 := E_o8.keep Kc
          have F_o8_values := F_o8_values.keep Kc nn_o8
          have F_o8_size := F_o8_size.keep Kc nn_o8
          have A_o9 := A_o9.keep Kc (ninS ne_o9_o65 (ninS (Ne.symm ne_o3_o9) nin0))
          have E_o60 := E_o60.keep Kc
          have F_o60_values := F_o60_values.keep Kc nn_o60
          have F_o60_size := F_o60_size.keep Kc nn_o60
          have A_o61 := A_o61.keep Kc (ninS ne_o61_o65 (ninS (Ne.symm ne_o3_o61) nin0))
          have A_o79 := A_o79.keep Kc (ninS (Ne.symm ne_o65_o79) (ninS (Ne.symm ne_o3_o79) nin0))
          have A_o80 := A_o80.keep Kc (ninS (Ne.symm ne_o65_o80) (ninS (Ne.symm ne_o3_o80) nin0))
          have A_o81 := A_o81.keep Kc (ninS (Ne.symm ne_o65_o81) (ninS (Ne.symm ne_o3_o81) nin0))
          have A_o66 := A_o66.keep Kc (ninS (Ne.symm ne_o65_o66) (ninS (Ne.symm ne_o3_o66) nin0))
          have A_o76 := A_o76.keep Kc (ninS (Ne.symm ne_o65_o76) (ninS (Ne.symm ne_o3_o76) nin0))
          have A_o77 := A_o77.keep Kc (ninS (Ne.symm ne_o65_o77) (ninS (Ne.symm ne_o3_o77) nin0))
          have A_o78 := A_o78.keep Kc (ninS (Ne.symm ne_o65_o78) (ninS (Ne.symm ne_o3_o78) nin0))
          have E_o67 := E_o67.keep Kc
          have F_o67_values := F_o67_values.keep Kc nn_o67
          have F_o67_size := F_o67_size.keep Kc nn_o67
          have A_o68 := A_o68.keep Kc (ninS (Ne.symm ne_o65_o68) (ninS (Ne.symm ne_o3_o68) nin0))
          have E_o73 := E_o73.keep Kc
          have F_o73_values := F_o73_values.keep Kc nn_o73
          have F_o73_size := F_o73_size.keep Kc nn_o73
          have A_o74 := A_o74.keep Kc (ninS (Ne.symm ne_o65_o74) (ninS (Ne.symm ne_o3_o74) nin0))
          have E_o70 := E_o70.keep Kc
          have F_o70_blocks := F_o70_blocks.keep Kc nn_o70
          have F_o70_size := F_o70_size.keep Kc nn_o70
          have E_o71 := E_o71.keep Kc
          have A_o71 := A_o71.keep Kc (ninS (Ne.symm ne_o65_o71) (ninS (Ne.symm ne_o3_o71) nin0))
          have E_o181 := E_o181.keep Kc
          have A_o181 := A_o181.keep Kc (ninS (Ne.symm ne_o65_o181) (ninS (Ne.symm ne_o3_o181) nin0))
          have t_c20_206 : ¬ ((0 : Int) < (stp).toInt) := fun q => c20_206 (cl_gt.mpr q)
          refine Run.cast (st' := [(.int (0 : Int32))]) rfl ?_
          refine s_istore 134 C X (l' := #[.val (.int x0), .val (.int x1), .val (.int x2), .val (.ref o1), .val (.ref o2), .val (.int (0 : Int32)), .val (.int mm), .val (.ref o3), .val (.ref o60), .val (.ref o65), .val (.long ((0 : Int64) * (x0).toInt64)), .second, .val (.int (-1 : Int32)), .val (.int (0 : Int32)), .unset, .unset, .unset, .unset, .unset, .unset, .unset]) at_132 rfl ?_
          refine s_iload 136 C X at_134 rfl ?_
          refine s_if_eq 144 139 C X at_136 (fun c136_310 => ?_) (fun c136_310 => ?_)
          · have t_c136_310 : (mm).toInt = (0 : Int) := congrArg Int32.toInt c136_310
            refine s_aload 146 C X at_144 rfl rfl ?_
            refine s_aload 148 C X at_146 rfl rfl ?_
            refine s_iconst 149 C X at_148 kc_iconst_0 ?_
            refine s_callV 152 [(.ref o2), (.int (0 : Int32))] [] 0 C X at_149 (mW 150 rfl) (mW 151 rfl) (notFace_of_selects (args := #[]) (mvT C.2.1 (C.w (mW 153 rfl)))) (mW 153 rfl) (mW 152 rfl) (mW 96 rfl) (mW 154 rfl) E_o65 (rm_a237 l Z a0 hw x0 o2 o3 k_o2 o4 o5 k_o4 o6 k_o6 o8 o11 o31 o60 o65 o66 o67 k_o66 o70 o73 o76 o77 o78 o79 o80 o81 (stp) _ n0 X.sz A_o2 A_o4 E_o5 F_o5_values F_o5_size A_o6 E_o65 F_o65_tokens F_o65_nearestFewer F_o65_nearestUnmarked F_o65_firstNearestUnmarked F_o65_markings F_o65_parents F_o65_stepsPerMarking F_o65_searchedMarking F_o65_searchedPlaces F_o65_searchedTokens F_o65_parentPlaces F_o65_parentTokens F_o65_unmarkedRanks F_o65_searched F_o65_steps A_o66 E_o3 F_o3_bytes F_o3_starts F_o3_hashes F_o3_table F_o3_encoded F_o3_encodedLength F_o3_encodedHash F_o3_length F_o3_position ne_o2_o3 g_o3 ne_o3_o4 ne_o3_o5 ne_o3_o6 ne_o2_o65 ne_o3_o65 ne_o4_o65 ne_o5_o65 ne_o6_o65 g_o65 ne_o3_o66 ne_o65_o66) (lenOf pd___JI_Z rfl) rfl rfl rfl (fun T v hh X q => ?_)
            obtain ⟨rfl, c20_206, Kc, E_o65, F_o65_tokens, F_o65_nearestFewer, F_o65_nearestUnmarked, F_o65_firstNearestUnmarked, F_o65_markings, F_o65_parents, F_o65_stepsPerMarking, F_o65_searchedMarking, F_o65_searchedPlaces, F_o65_searchedTokens, F_o65_parentPlaces, F_o65_parentTokens, F_o65_unmarkedRanks, F_o65_searched, F_o65_steps, E_o3, F_o3_bytes, F_o3_starts, F_o3_hashes, F_o3_table, F_o3_encoded, F_o3_encodedLength, F_o3_encodedHash, F_o3_length, F_o3_position⟩ | ⟨rfl, c20_206, E_o65, F_o65_tokens, F_o65_nearestFewer, F_o65_nearestUnmarked, F_o65_firstNearestUnmarked, F_o65_markings, F_o65_parents, F_o65_stepsPerMarking, F_o65_searchedMarking, F_o65_searchedPlaces, F_o65_searchedTokens, F_o65_parentPlaces, F_o65_parentTokens, F_o65_unmarkedRanks, F_o65_searched, F_o65_steps, E_o3, F_o3_bytes, F_o3_starts, F_o3_hashes, F_o3_table, F_o3_encoded, F_o3_encodedLength, F_o3_encodedHash, F_o3_length, F_o3_position, Kc⟩ := q
            · have t_c20_206 : (0 : Int) < (stp).toInt := cl_gt.mp c20_206
              refine Run.cast (st' := [(.int (1 : Int32))]) rfl ?_
              refine s_istore 154 C X (l' := #[.val (.int x0), .val (.int x1), .val (.int x2), .val (.ref o1), .val (.ref o2), .val (.int (0 : Int32)), .val (.int mm), .val (.ref o3), .val (.ref o60), .val (.ref o65), .val (.long ((0 : Int64) * (x0).toInt64)), .second, .val (.int (-1 : Int32)), .val (.int (0 : Int32)), .val (.int (1 : Int32)), .unset, .unset, .unset, .unset, .unset, .unset]) at_152 rfl ?_
              have kl0 : (0 : Int64).toInt = 0 := by decide
              exfalso
              omega
            · have t_c20_206 : ¬ ((0 : Int) < (stp).toInt) := fun q => c20_206 (cl_gt.mpr q)
              refine Run.cast (st' := [(.int (0 : Int32))]) rfl ?_
              refine s_istore 154 C X (l' := #[.val (.int x0), .val (.int x1), .val (.int x2), .val (.ref o1), .val (.ref o2), .val (.int (0 : Int32)), .val (.int mm), .val (.ref o3), .val (.ref o60), .val (.ref o65), .val (.long ((0 : Int64) * (x0).toInt64)), .second, .val (.int (-1 : Int32)), .val (.int (0 : Int32)), .val (.int (0 : Int32)), .unset, .unset, .unset, .unset, .unset, .unset]) at_152 rfl ?_
              have kl0 : (0 : Int64).toInt = 0 := by decide
              exact TL T _ _ _ X _ _ _ _ _ (by decide) (by decide) (by omega) (Or.inl ⟨c136_310, rfl⟩) (Or.inr (Or.inr ⟨by omega, rfl, rfl⟩))
          have t_c136_310 : ¬ ((mm).toInt = (0 : Int)) := fun q => c136_310 (Int32.toInt_inj.mp q)
          refine s_aload 141 C X at_139 rfl rfl ?_
          refine s_callV 144 [] [] 0 C X at_141 (mW 155 rfl) (mW 156 rfl) (notFace_of_selects (args := #[]) (mvT C.2.1 (C.w (mW 158 rfl)))) (mW 158 rfl) (mW 157 rfl) (mW 96 rfl) (mW 159 rfl) E_o65 (rm_a274 l Z a0 hw x0 o3 o60 o65 o66 o67 o70 o73 o76 o77 o78 o79 o80 o81 (stp) _ n0 X.sz E_o65 F_o65_tokens F_o65_nearestFewer F_o65_nearestUnmarked F_o65_firstNearestUnmarked F_o65_markings F_o65_parents F_o65_stepsPerMarking F_o65_searchedMarking F_o65_searchedPlaces F_o65_searchedTokens F_o65_parentPlaces F_o65_parentTokens F_o65_unmarkedRanks F_o65_searched F_o65_steps g_o65) (lenOf pd___V rfl) rfl rfl rfl (fun T v hh X q => ?_)
          obtain ⟨rfl, E_o65, F_o65_tokens, F_o65_nearestFewer, F_o65_nearestUnmarked, F_o65_firstNearestUnmarked, F_o65_markings, F_o65_parents, F_o65_stepsPerMarking, F_o65_searchedMarking, F_o65_searchedPlaces, F_o65_searchedTokens, F_o65_parentPlaces, F_o65_parentTokens, F_o65_unmarkedRanks, F_o65_searched, F_o65_steps, Kc⟩ := q
          have A_o1 := A_o1.keep Kc (ninS ne_o1_o65 nin0)
          have A_o2 := A_o2.keep Kc (ninS ne_o2_o65 nin0)
          have A_o11 := A_o11.keep Kc (ninS ne_o11_o65 nin0)
          have A_o31 := A_o31.keep Kc (ninS ne_o31_o65 nin0)
          have A_o4 := A_o4.keep Kc (ninS ne_o4_o65 nin0)
          have E_o5 := E_o5.keep Kc
          have F_o5_values := F_o5_values.keep Kc (ninS ne_o5_o65 nin0)
          have F_o5_size := F_o5_size.keep Kc (ninS ne_o5_o65 nin0)
          have A_o6 := A_o6.keep Kc (ninS ne_o6_o65 nin0)
          have E_o8 := E_o8.keep Kc
          have F_o8_values := F_o8_values.keep Kc (ninS ne_o8_o65 nin0)
          have F_o8_size := F_o8_size.keep Kc (ninS ne_o8_o65 nin0)
          have A_o9 := A_o9.keep Kc (ninS ne_o9_o65 nin0)
          have E_o60 := E_o60.keep Kc
          have F_o60_values := F_o60_values.keep Kc (ninS ne_o60_o65 nin0)
          have F_o60_size := F_o60_size.keep Kc (ninS ne_o60_o65 nin0)
          have A_o61 := A_o61.keep Kc (ninS ne_o61_o65 nin0)
          have A_o79 := A_o79.keep Kc (ninS (Ne.symm ne_o65_o79) nin0)
          have A_o80 := A_o80.keep Kc (ninS (Ne.symm ne_o65_o80) nin0)
          have A_o81 := A_o81.keep Kc (ninS (Ne.symm ne_o65_o81) nin0)
          have A_o66 := A_o66.keep Kc (ninS (Ne.symm ne_o65_o66) nin0)
          have A_o76 := A_o76.keep Kc (ninS (Ne.symm ne_o65_o76) nin0)
          have A_o77 := A_o77.keep Kc (ninS (Ne.symm ne_o65_o77) nin0)
          have A_o78 := A_o78.keep Kc (ninS (Ne.symm ne_o65_o78) nin0)
          have E_o67 := E_o67.keep Kc
          have F_o67_values := F_o67_values.keep Kc (ninS (Ne.symm ne_o65_o67) nin0)
          have F_o67_size := F_o67_size.keep Kc (ninS (Ne.symm ne_o65_o67) nin0)
          have A_o68 := A_o68.keep Kc (ninS (Ne.symm ne_o65_o68) nin0)
          have E_o73 := E_o73.keep Kc
          have F_o73_values := F_o73_values.keep Kc (ninS (Ne.symm ne_o65_o73) nin0)
          have F_o73_size := F_o73_size.keep Kc (ninS (Ne.symm ne_o65_o73) nin0)
          have A_o74 := A_o74.keep Kc (ninS (Ne.symm ne_o65_o74) nin0)
          have E_o70 := E_o70.keep Kc
          have F_o70_blocks := F_o70_blocks.keep Kc (ninS (Ne.symm ne_o65_o70) nin0)
          have F_o70_size := F_o70_size.keep Kc (ninS (Ne.symm ne_o65_o70) nin0)
          have E_o71 := E_o71.keep Kc
          have A_o71 := A_o71.keep Kc (ninS (Ne.symm ne_o65_o71) nin0)
          have E_o181 := E_o181.keep Kc
          have A_o181 := A_o181.keep Kc (ninS (Ne.symm ne_o65_o181) nin0)
          have E_o3 := E_o3.keep Kc
          have F_o3_bytes := F_o3_bytes.keep Kc (ninS ne_o3_o65 nin0)
          have F_o3_starts := F_o3_starts.keep Kc (ninS ne_o3_o65 nin0)
          have F_o3_hashes := F_o3_hashes.keep Kc (ninS ne_o3_o65 nin0)
          have F_o3_table := F_o3_table.keep Kc (ninS ne_o3_o65 nin0)
          have F_o3_encoded := F_o3_encoded.keep Kc (ninS ne_o3_o65 nin0)
          have F_o3_encodedLength := F_o3_encodedLength.keep Kc (ninS ne_o3_o65 nin0)
          have F_o3_encodedHash := F_o3_encodedHash.keep Kc (ninS ne_o3_o65 nin0)
          have F_o3_length := F_o3_length.keep Kc (ninS ne_o3_o65 nin0)
          have F_o3_position := F_o3_position.keep Kc (ninS ne_o3_o65 nin0)
          refine Run.cast (st' := []) rfl ?_
          refine s_aload 146 C X at_144 rfl rfl ?_
          refine s_aload 148 C X at_146 rfl rfl ?_
          refine s_iconst 149 C X at_148 kc_iconst_0 ?_
          refine s_callV 152 [(.ref o2), (.int (0 : Int32))] [] 0 C X at_149 (mW 150 rfl) (mW 151 rfl) (notFace_of_selects (args := #[]) (mvT C.2.1 (C.w (mW 153 rfl)))) (mW 153 rfl) (mW 152 rfl) (mW 96 rfl) (mW 154 rfl) E_o65 (rm_a237 l Z a0 hw x0 o2 o3 k_o2 o4 o5 k_o4 o6 k_o6 o8 o11 o31 o60 o65 o66 o67 k_o66 o70 o73 o76 o77 o78 o79 o80 o81 (stp + (x0).toInt64) _ n0 X.sz A_o2 A_o4 E_o5 F_o5_values F_o5_size A_o6 E_o65 F_o65_tokens F_o65_nearestFewer F_o65_nearestUnmarked F_o65_firstNearestUnmarked F_o65_markings F_o65_parents F_o65_stepsPerMarking F_o65_searchedMarking F_o65_searchedPlaces F_o65_searchedTokens F_o65_parentPlaces F_o65_parentTokens F_o65_unmarkedRanks F_o65_searched F_o65_steps A_o66 E_o3 F_o3_bytes F_o3_starts F_o3_hashes F_o3_table F_o3_encoded F_o3_encodedLength F_o3_encodedHash F_o3_length F_o3_position ne_o2_o3 g_o3 ne_o3_o4 ne_o3_o5 ne_o3_o6 ne_o2_o65 ne_o3_o65 ne_o4_o65 ne_o5_o65 ne_o6_o65 g_o65 ne_o3_o66 ne_o65_o66) (lenOf pd___JI_Z rfl) rfl rfl rfl (fun T v hh X q => ?_)
          obtain ⟨rfl, c20_206, Kc, E_o65, F_o65_tokens, F_o65_nearestFewer, F_o65_nearestUnmarked, F_o65_firstNearestUnmarked, F_o65_markings, F_o65_parents, F_o65_stepsPerMarking, F_o65_searchedMarking, F_o65_searchedPlaces, F_o65_searchedTokens, F_o65_parentPlaces, F_o65_parentTokens, F_o65_unmarkedRanks, F_o65_searched, F_o65_steps, E_o3, F_o3_bytes, F_o3_starts, F_o3_hashes, F_o3_table, F_o3_encoded, F_o3_encodedLength, F_o3_encodedHash, F_o3_length, F_o3_position⟩ | ⟨rfl, c20_206, E_o65, F_o65_tokens, F_o65_nearestFewer, F_o65_nearestUnmarked, F_o65_firstNearestUnmarked, F_o65_markings, F_o65_parents, F_o65_stepsPerMarking, F_o65_searchedMarking, F_o65_searchedPlaces, F_o65_searchedTokens, F_o65_parentPlaces, F_o65_parentTokens, F_o65_unmarkedRanks, F_o65_searched, F_o65_steps, E_o3, F_o3_bytes, F_o3_starts, F_o3_hashes, F_o3_table, F_o3_encoded, F_o3_encodedLength, F_o3_encodedHash, F_o3_length, F_o3_position, Kc⟩ := q
          · have t_c20_206 : (0 : Int) < ((stp + (x0).toInt64)).toInt := cl_gt.mp c20_206
            refine Run.cast (st' := [(.int (1 : Int32))]) rfl ?_
            refine s_istore 154 C X (l' := #[.val (.int x0), .val (.int x1), .val (.int x2), .val (.ref o1), .val (.ref o2), .val (.int (0 : Int32)), .val (.int mm), .val (.ref o3), .val (.ref o60), .val (.ref o65), .val (.long ((0 : Int64) * (x0).toInt64)), .second, .val (.int (-1 : Int32)), .val (.int (0 : Int32)), .val (.int (1 : Int32)), .unset, .unset, .unset, .unset, .unset, .unset]) at_152 rfl ?_
            have kl0 : (0 : Int64).toInt = 0 := by decide
            have kl1 := c_i2l x0
            have kl2 := rng32 x0
            have kl3 : ((stp + (x0).toInt64)).toInt = (stp).toInt + ((x0).toInt64).toInt := by have u := c_ladd stp (x0).toInt64; have r := rng64 (stp + (x0).toInt64); omega
            exfalso
            omega
          · have t_c20_206 : ¬ ((0 : Int) < ((stp + (x0).toInt64)).toInt) := fun q => c20_206 (cl_gt.mpr q)
            refine Run.cast (st' := [(.int (0 : Int32))]) rfl ?_
            refine s_istore 154 C X (l' := #[.val (.int x0), .val (.int x1), .val (.int x2), .val (.ref o1), .val (.ref o2), .val (.int (0 : Int32)), .val (.int mm), .val (.ref o3), .val (.ref o60), .val (.ref o65), .val (.long ((0 : Int64) * (x0).toInt64)), .second, .val (.int (-1 : Int32)), .val (.int (0 : Int32)), .val (.int (0 : Int32)), .unset, .unset, .unset, .unset, .unset, .unset]) at_152 rfl ?_
            have kl0 : (0 : Int64).toInt = 0 := by decide
            have kl1 := c_i2l x0
            have kl2 := rng32 x0
            have kl3 : ((stp + (x0).toInt64)).toInt = (stp).toInt + ((x0).toInt64).toInt := by have u := c_ladd stp (x0).toInt64; have r := rng64 (stp + (x0).toInt64); omega
            exact TL T _ _ _ X _ _ _ _ _ (by decide) (by decide) (by omega) (Or.inr ⟨hm.resolve_left c136_310, rfl⟩) (Or.inr (Or.inr ⟨by omega, rfl, rfl⟩))
    · refine s_iload 89 C X at_87 rfl ?_
      refine s_iconst 90 C X at_89 kc_iconst_1 ?_
      refine s_icmp_lt 98 93 C X at_90 (fun c => absurd c (by decide)) (fun _ => ?_)
      refine s_aload 95 C X at_93 rfl rfl ?_
      refine s_callV 98 [] [] 0 C X at_95 (mW 155 rfl) (mW 156 rfl) (notFace_of_selects (args := #[]) (mvT C.2.1 (C.w (mW 158 rfl)))) (mW 158 rfl) (mW 157 rfl) (mW 96 rfl) (mW 159 rfl) E_o65 (rm_a383 l Z a0 hw x0 o3 o60 o65 o66 o67 o70 o73 o76 o77 o78 o79 o80 o81 _ n0 X.sz E_o65 F_o65_tokens F_o65_nearestFewer F_o65_nearestUnmarked F_o65_firstNearestUnmarked F_o65_markings F_o65_parents F_o65_stepsPerMarking F_o65_searchedMarking F_o65_searchedPlaces F_o65_searchedTokens F_o65_parentPlaces F_o65_parentTokens F_o65_unmarkedRanks F_o65_searched F_o65_steps g_o65) (lenOf pd___V rfl) rfl rfl rfl (fun T v hh X q => ?_)
      obtain ⟨rfl, E_o65, F_o65_tokens, F_o65_nearestFewer, F_o65_nearestUnmarked, F_o65_firstNearestUnmarked, F_o65_markings, F_o65_parents, F_o65_stepsPerMarking, F_o65_searchedMarking, F_o65_searchedPlaces, F_o65_searchedTokens, F_o65_parentPlaces, F_o65_parentTokens, F_o65_unmarkedRanks, F_o65_searched, F_o65_steps, Kc⟩ := q
      have A_o1 := A_o1.keep Kc (ninS ne_o1_o65 nin0)
      have A_o2 := A_o2.keep Kc (ninS ne_o2_o65 nin0)
      have A_o11 := A_o11.keep Kc (ninS ne_o11_o65 nin0)
      have E_o3 := E_o3.keep Kc
      have F_o3_bytes := F_o3_bytes.keep Kc (ninS ne_o3_o65 nin0)
      have F_o3_starts := F_o3_starts.keep Kc (ninS ne_o3_o65 nin0)
      have F_o3_hashes := F_o3_hashes.keep Kc (ninS ne_o3_o65 nin0)
      have F_o3_table := F_o3_table.keep Kc (ninS ne_o3_o65 nin0)
      have F_o3_encoded := F_o3_encoded.keep Kc (ninS ne_o3_o65 nin0)
      have F_o3_encodedLength := F_o3_encodedLength.keep Kc (ninS ne_o3_o65 nin0)
      have F_o3_encodedHash := F_o3_encodedHash.keep Kc (ninS ne_o3_o65 nin0)
      have F_o3_length := F_o3_length.keep Kc (ninS ne_o3_o65 nin0)
      have F_o3_position := F_o3_position.keep Kc (ninS ne_o3_o65 nin0)
      have A_o31 := A_o31.keep Kc (ninS ne_o31_o65 nin0)
      have A_o4 := A_o4.keep Kc (ninS ne_o4_o65 nin0)
      have E_o5 := E_o5.keep Kc
      have F_o5_values := F_o5_values.keep Kc (ninS ne_o5_o65 nin0)
      have F_o5_size := F_o5_size.keep Kc (ninS ne_o5_o65 nin0)
      have A_o6 := A_o6.keep Kc (ninS ne_o6_o65 nin0)
      have E_o8 := E_o8.keep Kc
      have F_o8_values := F_o8_values.keep Kc (ninS ne_o8_o65 nin0)
      have F_o8_size := F_o8_size.keep Kc (ninS ne_o8_o65 nin0)
      have A_o9 := A_o9.keep Kc (ninS ne_o9_o65 nin0)
      have E_o60 := E_o60.keep Kc
      have F_o60_values := F_o60_values.keep Kc (ninS ne_o60_o65 nin0)
      have F_o60_size := F_o60_size.keep Kc (ninS ne_o60_o65 nin0)
      have A_o61 := A_o61.keep Kc (ninS ne_o61_o65 nin0)
      have A_o66 := A_o66.keep Kc (ninS (Ne.symm ne_o65_o66) nin0)
      have E_o67 := E_o67.keep Kc
      have F_o67_values := F_o67_values.keep Kc (ninS (Ne.symm ne_o65_o67) nin0)
      have F_o67_size := F_o67_size.keep Kc (ninS (Ne.symm ne_o65_o67) nin0)
      have A_o68 := A_o68.keep Kc (ninS (Ne.symm ne_o65_o68) nin0)
      have E_o70 := E_o70.keep Kc
      have F_o70_blocks := F_o70_blocks.keep Kc (ninS (Ne.symm ne_o65_o70) nin0)
      have F_o70_size := F_o70_size.keep Kc (ninS (Ne.symm ne_o65_o70) nin0)
      have E_o71 := E_o71.keep Kc
      have A_o71 := A_o71.keep Kc (ninS (Ne.symm ne_o65_o71) nin0)
      have E_o73 := E_o73.keep Kc
      have F_o73_values := F_o73_values.keep Kc (ninS (Ne.symm ne_o65_o73) nin0)
      have F_o73_size := F_o73_size.keep Kc (ninS (Ne.symm ne_o65_o73) nin0)
      have A_o74 := A_o74.keep Kc (ninS (Ne.symm ne_o65_o74) nin0)
      have A_o76 := A_o76.keep Kc (ninS (Ne.symm ne_o65_o76) nin0)
      have A_o77 := A_o77.keep Kc (ninS (Ne.symm ne_o65_o77) nin0)
      have A_o78 := A_o78.keep Kc (ninS (Ne.symm ne_o65_o78) nin0)
      have A_o79 := A_o79.keep Kc (ninS (Ne.symm ne_o65_o79) nin0)
      have A_o80 := A_o80.keep Kc (ninS (Ne.symm ne_o65_o80) nin0)
      have A_o81 := A_o81.keep Kc (ninS (Ne.symm ne_o65_o81) nin0)
      refine Run.cast (st' := []) rfl ?_
      refine s_iload 100 C X at_98 rfl ?_
      refine s_iconst 101 C X at_100 kc_iconst_2 ?_
      refine s_icmp_lt 109 104 C X at_101 (fun _ => ?_) (fun c => absurd (by decide : (1 : Int32) < (2 : Int32)) c)
      refine s_iload 111 C X at_109 rfl ?_
      refine s_i2l 112 C X at_111 ?_
      refine Run.cast (st' := [(.long (1 : Int64))]) (by rw [kf_29]) ?_
      refine s_iloadN 113 C X at_112 rfl ?_
      refine s_i2l 114 C X at_113 ?_
      refine s_lmul 115 C X at_114 ?_
      refine s_lstore 117 C X (l' := #[.val (.int x0), .val (.int x1), .val (.int x2), .val (.ref o1), .val (.ref o2), .val (.int (1 : Int32)), .val (.int mm), .val (.ref o3), .val (.ref o60), .val (.ref o65), .val (.long ((1 : Int64) * (x0).toInt64)), .second, .unset, .unset, .unset, .unset, .unset, .unset, .unset, .unset, .unset]) at_115 rfl ?_
      obtain ⟨stp, e_stp⟩ : ∃ zz_ : Int64, zz_ = ((0 : Int64) + (x0).toInt64) := ⟨_, rfl⟩
      rw [← e_stp] at F_o65_steps
      obtain ⟨hst, hee⟩ : stp.toInt = 1 * x0.toInt ∧ (((1 : Int64) * (x0).toInt64)).toInt = 1 * x0.toInt := by
        subst e_stp
        have kl0 : (0 : Int64).toInt = 0 := by decide
        have kl1 := c_i2l x0
        have kl2 := rng32 x0
        have kl3 : (((0 : Int64) + (x0).toInt64)).toInt = ((0 : Int64)).toInt + ((x0).toInt64).toInt := by have u := c_ladd (0 : Int64) (x0).toInt64; have r := rng64 ((0 : Int64) + (x0).toInt64); omega
        have kl4 : (1 : Int64).toInt = 1 := by decide
        have kl5 := c_lmul (1 : Int64) (x0).toInt64
        rw [(by decide : (1 : Int64).toInt = 1)] at kl5
        have kl7 := rng64 ((1 : Int64) * (x0).toInt64)
        omega
      have hx0 := rng32 x0
      refine s_aload 119 C X at_117 rfl rfl ?_
      refine s_callV 122 [] [] 0 C X at_119 (mW 140 rfl) (mW 141 rfl) (notFace_of_selects (args := #[]) (mvT C.2.1 (C.w (mW 143 rfl)))) (mW 143 rfl) (mW 142 rfl) (mW 96 rfl) (mW 144 rfl) E_o65 (rm_a188 l Z a0 hw x0 o3 o4 o5 k_o4 o6 k_o6 o8 o11 o31 o60 o61 k_o61 o65 o66 o67 k_o66 o68 k_o68 o70 o71 k_o71 o73 o74 k_o74 o76 o77 o78 o79 o80 o81 k_o76 k_o77 k_o78 (stp) _ n0 X.sz E_o3 F_o3_bytes F_o3_starts F_o3_hashes F_o3_table F_o3_encoded F_o3_encodedLength F_o3_encodedHash F_o3_length F_o3_position A_o4 E_o5 F_o5_values F_o5_size A_o6 E_o60 F_o60_values A_o61 E_o65 F_o65_tokens F_o65_nearestFewer F_o65_nearestUnmarked F_o65_firstNearestUnmarked F_o65_markings F_o65_parents F_o65_stepsPerMarking F_o65_searchedMarking F_o65_searchedPlaces F_o65_searchedTokens F_o65_parentPlaces F_o65_parentTokens F_o65_unmarkedRanks F_o65_searched F_o65_steps A_o66 E_o67 F_o67_values F_o67_size A_o68 E_o70 F_o70_blocks F_o70_size E_o71 A_o71 E_o73 F_o73_values F_o73_size A_o74 A_o76 A_o77 A_o78 g_o3 ne_o3_o4 ne_o3_o5 ne_o3_o6 ne_o3_o60 ne_o3_o61 ne_o3_o65 ne_o4_o65 ne_o5_o65 ne_o6_o65 ne_o60_o65 ne_o61_o65 g_o65 ne_o3_o66 ne_o4_o66 ne_o5_o66 ne_o6_o66 ne_o60_o66 ne_o61_o66 g_o66 ne_o3_o67 ne_o4_o67 ne_o5_o67 ne_o6_o67 ne_o60_o67 ne_o61_o67 g_o67 ne_o3_o68 ne_o4_o68 ne_o5_o68 ne_o6_o68 ne_o60_o68 ne_o61_o68 g_o68 ne_o3_o70 ne_o4_o70 ne_o5_o70 ne_o6_o70 ne_o60_o70 ne_o61_o70 g_o70 ne_o3_o71 ne_o4_o71 ne_o5_o71 ne_o6_o71 ne_o60_o71 ne_o61_o71 g_o71 ne_o3_o73 ne_o4_o73 ne_o5_o73 ne_o6_o73 ne_o60_o73 ne_o61_o73 g_o73 ne_o3_o74 ne_o4_o74 ne_o5_o74 ne_o6_o74 ne_o60_o74 ne_o61_o74 g_o74 ne_o3_o76 ne_o4_o76 ne_o5_o76 ne_o6_o76 ne_o60_o76 ne_o61_o76 g_o76 ne_o3_o77 ne_o4_o77 ne_o5_o77 ne_o6_o77 ne_o60_o77 ne_o61_o77 g_o77 ne_o3_o78 ne_o4_o78 ne_o5_o78 ne_o6_o78 ne_o60_o78 ne_o61_o78 g_o78 ne_o65_o66 ne_o65_o67 ne_o66_o67 ne_o65_o68 ne_o66_o68 ne_o67_o68 ne_o65_o70 ne_o66_o70 ne_o67_o70 ne_o68_o70 ne_o65_o71 ne_o66_o71 ne_o67_o71 ne_o68_o71 ne_o70_o71 O_o71 ne_o65_o73 ne_o66_o73 ne_o67_o73 ne_o68_o73 ne_o70_o73 ne_o71_o73 ne_o65_o74 ne_o66_o74 ne_o67_o74 ne_o68_o74 ne_o70_o74 ne_o71_o74 ne_o73_o74 ne_o65_o76 ne_o66_o76 ne_o67_o76 ne_o68_o76 ne_o70_o76 ne_o71_o76 ne_o73_o76 ne_o74_o76 ne_o65_o77 ne_o66_o77 ne_o67_o77 ne_o68_o77 ne_o70_o77 ne_o71_o77 ne_o73_o77 ne_o74_o77 ne_o76_o77 ne_o65_o78 ne_o66_o78 ne_o67_o78 ne_o68_o78 ne_o70_o78 ne_o71_o78 ne_o73_o78 ne_o74_o78 ne_o76_o78 ne_o77_o78) (lenOf pd___I rfl) rfl rfl rfl (fun T v hh X q => ?_)
      obtain ⟨rfl, c20_146, E_o3, F_o3_bytes, F_o3_starts, F_o3_hashes, F_o3_table, F_o3_encoded, F_o3_encodedLength, F_o3_encodedHash, F_o3_length, F_o3_position, E_o65, F_o65_tokens, F_o65_nearestFewer, F_o65_nearestUnmarked, F_o65_firstNearestUnmarked, F_o65_markings, F_o65_parents, F_o65_stepsPerMarking, F_o65_searchedMarking, F_o65_searchedPlaces, F_o65_searchedTokens, F_o65_parentPlaces, F_o65_parentTokens, F_o65_unmarkedRanks, F_o65_searched, F_o65_steps, A_o66, E_o67, F_o67_values, F_o67_size, A_o68, E_o70, F_o70_blocks, F_o70_size, E_o71, A_o71, E_o73, F_o73_values, F_o73_size, A_o74, A_o76, A_o77, A_o78, Kc⟩ | ⟨o181, k_o181, rfl, c20_146, E_o65, F_o65_tokens, F_o65_nearestFewer, F_o65_nearestUnmarked, F_o65_firstNearestUnmarked, F_o65_markings, F_o65_parents, F_o65_stepsPerMarking, F_o65_searchedMarking, F_o65_searchedPlaces, F_o65_searchedTokens, F_o65_parentPlaces, F_o65_parentTokens, F_o65_unmarkedRanks, F_o65_searched, F_o65_steps, A_o66, A_o76, Kc, A_o77, A_o78, E_o3, F_o3_bytes, F_o3_starts, F_o3_hashes, F_o3_table, F_o3_encoded, F_o3_encodedLength, F_o3_encodedHash, F_o3_length, F_o3_position, E_o67, F_o67_values, F_o67_size, A_o68, E_o73, F_o73_values, F_o73_size, A_o74, E_o70, F_o70_blocks, F_o70_size, E_o71, A_o71, E_o181, A_o181, ne_o65_o181, ne_o66_o181, ne_o76_o181, ne_o77_o181, ne_o78_o181, ne_o3_o181, ne_o67_o181, ne_o68_o181, sz_o181', g_o181, ne_o73_o181, ne_o74_o181, ne_o70_o181, ne_o71_o181⟩ := q
      · have nn_o5 : o5 ∉ [o65, o66, o67, o70, o73, o3, o76, o77, o78, o68, o71, o74] := (ninS ne_o5_o65 (ninS ne_o5_o66 (ninS ne_o5_o67 (ninS ne_o5_o70 (ninS ne_o5_o73 (ninS (Ne.symm ne_o3_o5) (ninS ne_o5_o76 (ninS ne_o5_o77 (ninS ne_o5_o78 (ninS ne_o5_o68 (ninS ne_o5_o71 (ninS ne_o5_o74 nin0))))))))))))
        have nn_o8 : o8 ∉ [o65, o66, o67, o70, o73, o3, o76, o77, o78, o68, o71, o74] := (ninS ne_o8_o65 (ninS ne_o8_o66 (ninS ne_o8_o67 (ninS ne_o8_o70 (ninS ne_o8_o73 (ninS (Ne.symm ne_o3_o8) (ninS ne_o8_o76 (ninS ne_o8_o77 (ninS ne_o8_o78 (ninS ne_o8_o68 (ninS ne_o8_o71 (ninS ne_o8_o74 nin0))))))))))))
        have nn_o60 : o60 ∉ [o65, o66, o67, o70, o73, o3, o76, o77, o78, o68, o71, o74] := (ninS ne_o60_o65 (ninS ne_o60_o66 (ninS ne_o60_o67 (ninS ne_o60_o70 (ninS ne_o60_o73 (ninS (Ne.symm ne_o3_o60) (ninS ne_o60_o76 (ninS ne_o60_o77 (ninS ne_o60_o78 (ninS ne_o60_o68 (ninS ne_o60_o71 (ninS ne_o60_o74 nin0))))))))))))
        have A_o1 := A_o1.keep Kc (ninS ne_o1_o65 (ninS ne_o1_o66 (ninS ne_o1_o67 (ninS ne_o1_o70 (ninS ne_o1_o73 (ninS ne_o1_o3 (ninS ne_o1_o76 (ninS ne_o1_o77 (ninS ne_o1_o78 (ninS ne_o1_o68 (ninS ne_o1_o71 (ninS ne_o1_o74 nin0))))))))))))
        have A_o2 := A_o2.keep Kc (ninS ne_o2_o65 (ninS ne_o2_o66 (ninS ne_o2_o67 (ninS ne_o2_o70 (ninS ne_o2_o73 (ninS ne_o2_o3 (ninS ne_o2_o76 (ninS ne_o2_o77 (ninS ne_o2_o78 (ninS ne_o2_o68 (ninS ne_o2_o71 (ninS ne_o2_o74 nin0))))))))))))
        have A_o11 := A_o11.keep Kc (ninS ne_o11_o65 (ninS ne_o11_o66 (ninS ne_o11_o67 (ninS ne_o11_o70 (ninS ne_o11_o73 (ninS (Ne.symm ne_o3_o11) (ninS ne_o11_o76 (ninS ne_o11_o77 (ninS ne_o11_o78 (ninS ne_o11_o68 (ninS ne_o11_o71 (ninS ne_o11_o74 nin0))))))))))))
        have A_o31 := A_o31.keep Kc (ninS ne_o31_o65 (ninS ne_o31_o66 (ninS ne_o31_o67 (ninS ne_o31_o70 (ninS ne_o31_o73 (ninS (Ne.symm ne_o3_o31) (ninS ne_o31_o76 (ninS ne_o31_o77 (ninS ne_o31_o78 (ninS ne_o31_o68 (ninS ne_o31_o71 (ninS ne_o31_o74 nin0))))))))))))
        have A_o4 := A_o4.keep Kc (ninS ne_o4_o65 (ninS ne_o4_o66 (ninS ne_o4_o67 (ninS ne_o4_o70 (ninS ne_o4_o73 (ninS (Ne.symm ne_o3_o4) (ninS ne_o4_o76 (ninS ne_o4_o77 (ninS ne_o4_o78 (ninS ne_o4_o68 (ninS ne_o4_o71 (ninS ne_o4_o74 nin0))))))))))))
        have E_o5 := E_o5.keep Kc
        have F_o5_values := F_o5_values.keep Kc nn_o5
        have F_o5_size := F_o5_size.keep Kc nn_o5
        have A_o6 := A_o6.keep Kc (ninS ne_o6_o65 (ninS ne_o6_o66 (ninS ne_o6_o67 (ninS ne_o6_o70 (ninS ne_o6_o73 (ninS (Ne.symm ne_o3_o6) (ninS ne_o6_o76 (ninS ne_o6_o77 (ninS ne_o6_o78 (ninS ne_o6_o68 (ninS ne_o6_o71 (ninS ne_o6_o74 nin0))))))))))))
        have E_o8 := E_o8.keep Kc
        have F_o8_values := F_o8_values.keep Kc nn_o8
        have F_o8_size := F_o8_size.keep Kc nn_o8
        have A_o9 := A_o9.keep Kc (ninS ne_o9_o65 (ninS ne_o9_o66 (ninS ne_o9_o67 (ninS ne_o9_o70 (ninS ne_o9_o73 (ninS (Ne.symm ne_o3_o9) (ninS ne_o9_o76 (ninS ne_o9_o77 (ninS ne_o9_o78 (ninS ne_o9_o68 (ninS ne_o9_o71 (ninS ne_o9_o74 nin0))))))))))))
        have E_o60 := E_o60.keep Kc
        have F_o60_values := F_o60_values.keep Kc nn_o60
        have F_o60_size := F_o60_size.keep Kc nn_o60
        have A_o61 := A_o61.keep Kc (ninS ne_o61_o65 (ninS ne_o61_o66 (ninS ne_o61_o67 (ninS ne_o61_o70 (ninS ne_o61_o73 (ninS (Ne.symm ne_o3_o61) (ninS ne_o61_o76 (ninS ne_o61_o77 (ninS ne_o61_o78 (ninS ne_o61_o68 (ninS ne_o61_o71 (ninS ne_o61_o74 nin0))))))))))))
        have A_o79 := A_o79.keep Kc (ninS (Ne.symm ne_o65_o79) (ninS (Ne.symm ne_o66_o79) (ninS (Ne.symm ne_o67_o79) (ninS (Ne.symm ne_o70_o79) (ninS (Ne.symm ne_o73_o79) (ninS (Ne.symm ne_o3_o79) (ninS (Ne.symm ne_o76_o79) (ninS (Ne.symm ne_o77_o79) (ninS (Ne.symm ne_o78_o79) (ninS (Ne.symm ne_o68_o79) (ninS (Ne.symm ne_o71_o79) (ninS (Ne.symm ne_o74_o79) nin0))))))))))))
        have A_o80 := A_o80.keep Kc (ninS (Ne.symm ne_o65_o80) (ninS (Ne.symm ne_o66_o80) (ninS (Ne.symm ne_o67_o80) (ninS (Ne.symm ne_o70_o80) (ninS (Ne.symm ne_o73_o80) (ninS (Ne.symm ne_o3_o80) (ninS (Ne.symm ne_o76_o80) (ninS (Ne.symm ne_o77_o80) (ninS (Ne.symm ne_o78_o80) (ninS (Ne.symm ne_o68_o80) (ninS (Ne.symm ne_o71_o80) (ninS (Ne.symm ne_o74_o80) nin0))))))))))))
        have A_o81 := A_o81.keep Kc (ninS (Ne.symm ne_o65_o81) (ninS (Ne.symm ne_o66_o81) (ninS (Ne.symm ne_o67_o81) (ninS (Ne.symm ne_o70_o81) (ninS (Ne.symm ne_o73_o81) (ninS (Ne.symm ne_o3_o81) (ninS (Ne.symm ne_o76_o81) (ninS (Ne.symm ne_o77_o81) (ninS (Ne.symm ne_o78_o81) (ninS (Ne.symm ne_o68_o81) (ninS (Ne.symm ne_o71_o81) (ninS (Ne.symm ne_o74_o81) nin0))))))))))))
        have t_c20_146 : ¬ ((0 : Int) < (stp).toInt) := fun q => c20_146 (cl_gt.mpr q)
        refine Run.cast (st' := [(.int (-1 : Int32))]) rfl ?_
        refine s_istore 124 C X (l' := #[.val (.int x0), .val (.int x1), .val (.int x2), .val (.ref o1), .val (.ref o2), .val (.int (1 : Int32)), .val (.int mm), .val (.ref o3), .val (.ref o60), .val (.ref o65), .val (.long ((1 : Int64) * (x0).toInt64)), .second, .val (.int (-1 : Int32)), .unset, .unset, .unset, .unset, .unset, .unset, .unset, .unset]) at_122 rfl ?_
        refine s_aload 126 C X at_124 rfl rfl ?_
        refine s_aload 128 C X at_126 rfl rfl ?_
        refine s_iconst 129 C X at_128 kc_iconst_0 ?_
        refine s_callV 132 [(.ref o2), (.int (0 : Int32))] [] 0 C X at_129 (mW 150 rfl) (mW 151 rfl) (notFace_of_selects (args := #[]) (mvT C.2.1 (C.w (mW 153 rfl)))) (mW 153 rfl) (mW 152 rfl) (mW 96 rfl) (mW 154 rfl) E_o65 (rm_a192 l Z a0 hw o2 o3 o5 o65 _ n0 X.sz E_o5 F_o5_size E_o3 F_o3_starts F_o65_markings F_o65_searched) (lenOf pd___JI_Z rfl) rfl rfl rfl (fun T v hh X q => ?_)
        obtain ⟨rfl, Kc⟩ := q
        have A_o1 := A_o1.keep Kc nin0
        have A_o2 := A_o2.keep Kc nin0
        have A_o11 := A_o11.keep Kc nin0
        have A_o31 := A_o31.keep Kc nin0
        have A_o4 := A_o4.keep Kc nin0
        have E_o5 := E_o5.keep Kc
        have F_o5_values := F_o5_values.keep Kc nin0
        have F_o5_size := F_o5_size.keep Kc nin0
        have A_o6 := A_o6.keep Kc nin0
        have E_o8 := E_o8.keep Kc
        have F_o8_values := F_o8_values.keep Kc nin0
        have F_o8_size := F_o8_size.keep Kc nin0
        have A_o9 := A_o9.keep Kc nin0
        have E_o60 := E_o60.keep Kc
        have F_o60_values := F_o60_values.keep Kc nin0
        have F_o60_size := F_o60_size.keep Kc nin0
        have A_o61 := A_o61.keep Kc nin0
        have A_o79 := A_o79.keep Kc nin0
        have A_o80 := A_o80.keep Kc nin0
        have A_o81 := A_o81.keep Kc nin0
        have E_o3 := E_o3.keep Kc
        have F_o3_bytes := F_o3_bytes.keep Kc nin0
        have F_o3_starts := F_o3_starts.keep Kc nin0
        have F_o3_hashes := F_o3_hashes.keep Kc nin0
        have F_o3_table := F_o3_table.keep Kc nin0
        have F_o3_encoded := F_o3_encoded.keep Kc nin0
        have F_o3_encodedLength := F_o3_encodedLength.keep Kc nin0
        have F_o3_encodedHash := F_o3_encodedHash.keep Kc nin0
        have F_o3_length := F_o3_length.keep Kc nin0
        have F_o3_position := F_o3_position.keep Kc nin0
        have E_o65 := E_o65.keep Kc
        have F_o65_tokens := F_o65_tokens.keep Kc nin0
        have F_o65_nearestFewer := F_o65_nearestFewer.keep Kc nin0
        have F_o65_nearestUnmarked := F_o65_nearestUnmarked.keep Kc nin0
        have F_o65_firstNearestUnmarked := F_o65_firstNearestUnmarked.keep Kc nin0
        have F_o65_markings := F_o65_markings.keep Kc nin0
        have F_o65_parents := F_o65_parents.keep Kc nin0
        have F_o65_stepsPerMarking := F_o65_stepsPerMarking.keep Kc nin0
        have F_o65_searchedMarking := F_o65_searchedMarking.keep Kc nin0
        have F_o65_searchedPlaces := F_o65_searchedPlaces.keep Kc nin0
        have F_o65_searchedTokens := F_o65_searchedTokens.keep Kc nin0
        have F_o65_parentPlaces := F_o65_parentPlaces.keep Kc nin0
        have F_o65_parentTokens := F_o65_parentTokens.keep Kc nin0
        have F_o65_unmarkedRanks := F_o65_unmarkedRanks.keep Kc nin0
        have F_o65_searched := F_o65_searched.keep Kc nin0
        have F_o65_steps := F_o65_steps.keep Kc nin0
        have A_o66 := A_o66.keep Kc nin0
        have E_o67 := E_o67.keep Kc
        have F_o67_values := F_o67_values.keep Kc nin0
        have F_o67_size := F_o67_size.keep Kc nin0
        have A_o68 := A_o68.keep Kc nin0
        have E_o70 := E_o70.keep Kc
        have F_o70_blocks := F_o70_blocks.keep Kc nin0
        have F_o70_size := F_o70_size.keep Kc nin0
        have E_o71 := E_o71.keep Kc
        have A_o71 := A_o71.keep Kc nin0
        have E_o73 := E_o73.keep Kc
        have F_o73_values := F_o73_values.keep Kc nin0
        have F_o73_size := F_o73_size.keep Kc nin0
        have A_o74 := A_o74.keep Kc nin0
        have A_o76 := A_o76.keep Kc nin0
        have A_o77 := A_o77.keep Kc nin0
        have A_o78 := A_o78.keep Kc nin0
        refine Run.cast (st' := [(.int (0 : Int32))]) rfl ?_
        refine s_istore 134 C X (l' := #[.val (.int x0), .val (.int x1), .val (.int x2), .val (.ref o1), .val (.ref o2), .val (.int (1 : Int32)), .val (.int mm), .val (.ref o3), .val (.ref o60), .val (.ref o65), .val (.long ((1 : Int64) * (x0).toInt64)), .second, .val (.int (-1 : Int32)), .val (.int (0 : Int32)), .unset, .unset, .unset, .unset, .unset, .unset, .unset]) at_132 rfl ?_
        refine s_iload 136 C X at_134 rfl ?_
        refine s_if_eq 144 139 C X at_136 (fun c136_435 => ?_) (fun c136_435 => ?_)
        · have t_c136_435 : (mm).toInt = (0 : Int) := congrArg Int32.toInt c136_435
          refine s_aload 146 C X at_144 rfl rfl ?_
          refine s_aload 148 C X at_146 rfl rfl ?_
          refine s_iconst 149 C X at_148 kc_iconst_0 ?_
          refine s_callV 152 [(.ref o2), (.int (0 : Int32))] [] 0 C X at_149 (mW 150 rfl) (mW 151 rfl) (notFace_of_selects (args := #[]) (mvT C.2.1 (C.w (mW 153 rfl)))) (mW 153 rfl) (mW 152 rfl) (mW 96 rfl) (mW 154 rfl) E_o65 (rm_a192 l Z a0 hw o2 o3 o5 o65 _ n0 X.sz E_o5 F_o5_size E_o3 F_o3_starts F_o65_markings F_o65_searched) (lenOf pd___JI_Z rfl) rfl rfl rfl (fun T v hh X q => ?_)
          obtain ⟨rfl, Kc⟩ := q
          refine Run.cast (st' := [(.int (0 : Int32))]) rfl ?_
          refine s_istore 154 C X (l' := #[.val (.int x0), .val (.int x1), .val (.int x2), .val (.ref o1), .val (.ref o2), .val (.int (1 : Int32)), .val (.int mm), .val (.ref o3), .val (.ref o60), .val (.ref o65), .val (.long ((1 : Int64) * (x0).toInt64)), .second, .val (.int (-1 : Int32)), .val (.int (0 : Int32)), .val (.int (0 : Int32)), .unset, .unset, .unset, .unset, .unset, .unset]) at_152 rfl ?_
          have kl0 : (0 : Int64).toInt = 0 := by decide
          exact TL T _ _ _ X _ _ _ _ _ (by decide) (by decide) (by omega) (Or.inl ⟨c136_435, rfl⟩) (Or.inr (Or.inr ⟨by omega, rfl, rfl⟩))
        have t_c136_435 : ¬ ((mm).toInt = (0 : Int)) := fun q => c136_435 (Int32.toInt_inj.mp q)
        refine s_aload 141 C X at_139 rfl rfl ?_
        refine s_callV 144 [] [] 0 C X at_141 (mW 155 rfl) (mW 156 rfl) (notFace_of_selects (args := #[]) (mvT C.2.1 (C.w (mW 158 rfl)))) (mW 158 rfl) (mW 157 rfl) (mW 96 rfl) (mW 159 rfl) E_o65 (rm_a198 l Z a0 hw x0 o3 o60 o65 o66 o67 o70 o73 o76 o77 o78 o79 o80 o81 (stp) _ n0 X.sz E_o65 F_o65_tokens F_o65_nearestFewer F_o65_nearestUnmarked F_o65_firstNearestUnmarked F_o65_markings F_o65_parents F_o65_stepsPerMarking F_o65_searchedMarking F_o65_searchedPlaces F_o65_searchedTokens F_o65_parentPlaces F_o65_parentTokens F_o65_unmarkedRanks F_o65_searched F_o65_steps g_o65) (lenOf pd___V rfl) rfl rfl rfl (fun T v hh X q => ?_)
        obtain ⟨rfl, E_o65, F_o65_tokens, F_o65_nearestFewer, F_o65_nearestUnmarked, F_o65_firstNearestUnmarked, F_o65_markings, F_o65_parents, F_o65_stepsPerMarking, F_o65_searchedMarking, F_o65_searchedPlaces, F_o65_searchedTokens, F_o65_parentPlaces, F_o65_parentTokens, F_o65_unmarkedRanks, F_o65_searched, F_o65_steps, Kc⟩ := q
        have A_o1 := A_o1.keep Kc (ninS ne_o1_o65 nin0)
        have A_o2 := A_o2.keep Kc (ninS ne_o2_o65 nin0)
        have A_o11 := A_o11.keep Kc (ninS ne_o11_o65 nin0)
        have A_o31 := A_o31.keep Kc (ninS ne_o31_o65 nin0)
        have A_o4 := A_o4.keep Kc (ninS ne_o4_o65 nin0)
        have E_o5 := E_o5.keep Kc
        have F_o5_values := F_o5_values.keep Kc (ninS ne_o5_o65 nin0)
        have F_o5_size := F_o5_size.keep Kc (ninS ne_o5_o65 nin0)
        have A_o6 := A_o6.keep Kc (ninS ne_o6_o65 nin0)
        have E_o8 := E_o8.keep Kc
        have F_o8_values := F_o8_values.keep Kc (ninS ne_o8_o65 nin0)
        have F_o8_size := F_o8_size.keep Kc (ninS ne_o8_o65 nin0)
        have A_o9 := A_o9.keep Kc (ninS ne_o9_o65 nin0)
        have E_o60 := E_o60.keep Kc
        have F_o60_values := F_o60_values.keep Kc (ninS ne_o60_o65 nin0)
        have F_o60_size := F_o60_size.keep Kc (ninS ne_o60_o65 nin0)
        have A_o61 := A_o61.keep Kc (ninS ne_o61_o65 nin0)
        have A_o79 := A_o79.keep Kc (ninS (Ne.symm ne_o65_o79) nin0)
        have A_o80 := A_o80.keep Kc (ninS (Ne.symm ne_o65_o80) nin0)
        have A_o81 := A_o81.keep Kc (ninS (Ne.symm ne_o65_o81) nin0)
        have E_o3 := E_o3.keep Kc
        have F_o3_bytes := F_o3_bytes.keep Kc (ninS ne_o3_o65 nin0)
        have F_o3_starts := F_o3_starts.keep Kc (ninS ne_o3_o65 nin0)
        have F_o3_hashes := F_o3_hashes.keep Kc (ninS ne_o3_o65 nin0)
        have F_o3_table := F_o3_table.keep Kc (ninS ne_o3_o65 nin0)
        have F_o3_encoded := F_o3_encoded.keep Kc (ninS ne_o3_o65 nin0)
        have F_o3_encodedLength := F_o3_encodedLength.keep Kc (ninS ne_o3_o65 nin0)
        have F_o3_encodedHash := F_o3_encodedHash.keep Kc (ninS ne_o3_o65 nin0)
        have F_o3_length := F_o3_length.keep Kc (ninS ne_o3_o65 nin0)
        have F_o3_position := F_o3_position.keep Kc (ninS ne_o3_o65 nin0)
        have A_o66 := A_o66.keep Kc (ninS (Ne.symm ne_o65_o66) nin0)
        have E_o67 := E_o67.keep Kc
        have F_o67_values := F_o67_values.keep Kc (ninS (Ne.symm ne_o65_o67) nin0)
        have F_o67_size := F_o67_size.keep Kc (ninS (Ne.symm ne_o65_o67) nin0)
        have A_o68 := A_o68.keep Kc (ninS (Ne.symm ne_o65_o68) nin0)
        have E_o70 := E_o70.keep Kc
        have F_o70_blocks := F_o70_blocks.keep Kc (ninS (Ne.symm ne_o65_o70) nin0)
        have F_o70_size := F_o70_size.keep Kc (ninS (Ne.symm ne_o65_o70) nin0)
        have E_o71 := E_o71.keep Kc
        have A_o71 := A_o71.keep Kc (ninS (Ne.symm ne_o65_o71) nin0)
        have E_o73 := E_o73.keep Kc
        have F_o73_values := F_o73_values.keep Kc (ninS (Ne.symm ne_o65_o73) nin0)
        have F_o73_size := F_o73_size.keep Kc (ninS (Ne.symm ne_o65_o73) nin0)
        have A_o74 := A_o74.keep Kc (ninS (Ne.symm ne_o65_o74) nin0)
        have A_o76 := A_o76.keep Kc (ninS (Ne.symm ne_o65_o76) nin0)
        have A_o77 := A_o77.keep Kc (ninS (Ne.symm ne_o65_o77) nin0)
        have A_o78 := A_o78.keep Kc (ninS (Ne.symm ne_o65_o78) nin0)
        refine Run.cast (st' := []) rfl ?_
        refine s_aload 146 C X at_144 rfl rfl ?_
        refine s_aload 148 C X at_146 rfl rfl ?_
        refine s_iconst 149 C X at_148 kc_iconst_0 ?_
        refine s_callV 152 [(.ref o2), (.int (0 : Int32))] [] 0 C X at_149 (mW 150 rfl) (mW 151 rfl) (notFace_of_selects (args := #[]) (mvT C.2.1 (C.w (mW 153 rfl)))) (mW 153 rfl) (mW 152 rfl) (mW 96 rfl) (mW 154 rfl) E_o65 (rm_a192 l Z a0 hw o2 o3 o5 o65 _ n0 X.sz E_o5 F_o5_size E_o3 F_o3_starts F_o65_markings F_o65_searched) (lenOf pd___JI_Z rfl) rfl rfl rfl (fun T v hh X q => ?_)
        obtain ⟨rfl, Kc⟩ := q
        refine Run.cast (st' := [(.int (0 : Int32))]) rfl ?_
        refine s_istore 154 C X (l' := #[.val (.int x0), .val (.int x1), .val (.int x2), .val (.ref o1), .val (.ref o2), .val (.int (1 : Int32)), .val (.int mm), .val (.ref o3), .val (.ref o60), .val (.ref o65), .val (.long ((1 : Int64) * (x0).toInt64)), .second, .val (.int (-1 : Int32)), .val (.int (0 : Int32)), .val (.int (0 : Int32)), .unset, .unset, .unset, .unset, .unset, .unset]) at_152 rfl ?_
        have kl0 : (0 : Int64).toInt = 0 := by decide
        exact TL T _ _ _ X _ _ _ _ _ (by decide) (by decide) (by omega) (Or.inr ⟨hm.resolve_left c136_435, rfl⟩) (Or.inr (Or.inr ⟨by omega, rfl, rfl⟩))
      · have ne_o1_o181 : o1 ≠ o181 := Nat.ne_of_lt (Nat.lt_of_lt_of_le A_o1.lt sz_o181')
        have ne_o2_o181 : o2 ≠ o181 := Nat.ne_of_lt (Nat.lt_of_lt_of_le A_o2.lt sz_o181')
        have ne_o11_o181 : o11 ≠ o181 := Nat.ne_of_lt (Nat.lt_of_lt_of_le A_o11.lt sz_o181')
        have ne_o31_o181 : o31 ≠ o181 := Nat.ne_of_lt (Nat.lt_of_lt_of_le A_o31.lt sz_o181')
        have ne_o4_o181 : o4 ≠ o181 := Nat.ne_of_lt (Nat.lt_of_lt_of_le A_o4.lt sz_o181')
        have ne_o5_o181 : o5 ≠ o181 := Nat.ne_of_lt (Nat.lt_of_lt_of_le E_o5.lt sz_o181')
        have ne_o6_o181 : o6 ≠ o181 := Nat.ne_of_lt (Nat.lt_of_lt_of_le A_o6.lt sz_o181')
        have ne_o8_o181 : o8 ≠ o181 := Nat.ne_of_lt (Nat.lt_of_lt_of_le E_o8.lt sz_o181')
        have ne_o9_o181 : o9 ≠ o181 := Nat.ne_of_lt (Nat.lt_of_lt_of_le A_o9.lt sz_o181')
        have ne_o60_o181 : o60 ≠ o181 := Nat.ne_of_lt (Nat.lt_of_lt_of_le E_o60.lt sz_o181')
        have ne_o61_o181 : o61 ≠ o181 := Nat.ne_of_lt (Nat.lt_of_lt_of_le A_o61.lt sz_o181')
        have ne_o79_o181 : o79 ≠ o181 := Nat.ne_of_lt (Nat.lt_of_lt_of_le A_o79.lt sz_o181')
        have ne_o80_o181 : o80 ≠ o181 := Nat.ne_of_lt (Nat.lt_of_lt_of_le A_o80.lt sz_o181')
        have ne_o81_o181 : o81 ≠ o181 := Nat.ne_of_lt (Nat.lt_of_lt_of_le A_o81.lt sz_o181')
        have nn_o5 : o5 ∉ [o65, o66, o67, o70, o73, o3, o76, o77, o78, o68, o71, o74] := (ninS ne_o5_o65 (ninS ne_o5_o66 (ninS ne_o5_o67 (ninS ne_o5_o70 (ninS ne_o5_o73 (ninS (Ne.symm ne_o3_o5) (ninS ne_o5_o76 (ninS ne_o5_o77 (ninS ne_o5_o78 (ninS ne_o5_o68 (ninS ne_o5_o71 (ninS ne_o5_o74 nin0))))))))))))
        have nn_o8 : o8 ∉ [o65, o66, o67, o70, o73, o3, o76, o77, o78, o68, o71, o74] := (ninS ne_o8_o65 (ninS ne_o8_o66 (ninS ne_o8_o67 (ninS ne_o8_o70 (ninS ne_o8_o73 (ninS (Ne.symm ne_o3_o8) (ninS ne_o8_o76 (ninS ne_o8_o77 (ninS ne_o8_o78 (ninS ne_o8_o68 (ninS ne_o8_o71 (ninS ne_o8_o74 nin0))))))))))))
        have nn_o60 : o60 ∉ [o65, o66, o67, o70, o73, o3, o76, o77, o78, o68, o71, o74] := (ninS ne_o60_o65 (ninS ne_o60_o66 (ninS ne_o60_o67 (ninS ne_o60_o70 (ninS ne_o60_o73 (ninS (Ne.symm ne_o3_o60) (ninS ne_o60_o76 (ninS ne_o60_o77 (ninS ne_o60_o78 (ninS ne_o60_o68 (ninS ne_o60_o71 (ninS ne_o60_o74 nin0))))))))))))
        have A_o1 := A_o1.keep Kc (ninS ne_o1_o65 (ninS ne_o1_o66 (ninS ne_o1_o67 (ninS ne_o1_o70 (ninS ne_o1_o73 (ninS ne_o1_o3 (ninS ne_o1_o76 (ninS ne_o1_o77 (ninS ne_o1_o78 (ninS ne_o1_o68 (ninS ne_o1_o71 (ninS ne_o1_o74 nin0))))))))))))
        have A_o2 := A_o2.keep Kc (ninS ne_o2_o65 (ninS ne_o2_o66 (ninS ne_o2_o67 (ninS ne_o2_o70 (ninS ne_o2_o73 (ninS ne_o2_o3 (ninS ne_o2_o76 (ninS ne_o2_o77 (ninS ne_o2_o78 (ninS ne_o2_o68 (ninS ne_o2_o71 (ninS ne_o2_o74 nin0))))))))))))
        have A_o11 := A_o11.keep Kc (ninS ne_o11_o65 (ninS ne_o11_o66 (ninS ne_o11_o67 (ninS ne_o11_o70 (ninS ne_o11_o73 (ninS (Ne.symm ne_o3_o11) (ninS ne_o11_o76 (ninS ne_o11_o77 (ninS ne_o11_o78 (ninS ne_o11_o68 (ninS ne_o11_o71 (ninS ne_o11_o74 nin0))))))))))))
        have A_o31 := A_o31.keep Kc (ninS ne_o31_o65 (ninS ne_o31_o66 (ninS ne_o31_o67 (ninS ne_o31_o70 (ninS ne_o31_o73 (ninS (Ne.symm ne_o3_o31) (ninS ne_o31_o76 (ninS ne_o31_o77 (ninS ne_o31_o78 (ninS ne_o31_o68 (ninS ne_o31_o71 (ninS ne_o31_o74 nin0))))))))))))
        have A_o4 := A_o4.keep Kc (ninS ne_o4_o65 (ninS ne_o4_o66 (ninS ne_o4_o67 (ninS ne_o4_o70 (ninS ne_o4_o73 (ninS (Ne.symm ne_o3_o4) (ninS ne_o4_o76 (ninS ne_o4_o77 (ninS ne_o4_o78 (ninS ne_o4_o68 (ninS ne_o4_o71 (ninS ne_o4_o74 nin0))))))))))))
        have E_o5 := E_o5.keep Kc
        have F_o5_values := F_o5_values.keep Kc nn_o5
        have F_o5_size := F_o5_size.keep Kc nn_o5
        have A_o6 := A_o6.keep Kc (ninS ne_o6_o65 (ninS ne_o6_o66 (ninS ne_o6_o67 (ninS ne_o6_o70 (ninS ne_o6_o73 (ninS (Ne.symm ne_o3_o6) (ninS ne_o6_o76 (ninS ne_o6_o77 (ninS ne_o6_o78 (ninS ne_o6_o68 (ninS ne_o6_o71 (ninS ne_o6_o74 nin0))))))))))))
        have E_o8 := E_o8.keep Kc
        have F_o8_values := F_o8_values.keep Kc nn_o8
        have F_o8_size := F_o8_size.keep Kc nn_o8
        have A_o9 := A_o9.keep Kc (ninS ne_o9_o65 (ninS ne_o9_o66 (ninS ne_o9_o67 (ninS ne_o9_o70 (ninS ne_o9_o73 (ninS (Ne.symm ne_o3_o9) (ninS ne_o9_o76 (ninS ne_o9_o77 (ninS ne_o9_o78 (ninS ne_o9_o68 (ninS ne_o9_o71 (ninS ne_o9_o74 nin0))))))))))))
        have E_o60 := E_o60.keep Kc
        have F_o60_values := F_o60_values.keep Kc nn_o60
        have F_o60_size := F_o60_size.keep Kc nn_o60
        have A_o61 := A_o61.keep Kc (ninS ne_o61_o65 (ninS ne_o61_o66 (ninS ne_o61_o67 (ninS ne_o61_o70 (ninS ne_o61_o73 (ninS (Ne.symm ne_o3_o61) (ninS ne_o61_o76 (ninS ne_o61_o77 (ninS ne_o61_o78 (ninS ne_o61_o68 (ninS ne_o61_o71 (ninS ne_o61_o74 nin0))))))))))))
        have A_o79 := A_o79.keep Kc (ninS (Ne.symm ne_o65_o79) (ninS (Ne.symm ne_o66_o79) (ninS (Ne.symm ne_o67_o79) (ninS (Ne.symm ne_o70_o79) (ninS (Ne.symm ne_o73_o79) (ninS (Ne.symm ne_o3_o79) (ninS (Ne.symm ne_o76_o79) (ninS (Ne.symm ne_o77_o79) (ninS (Ne.symm ne_o78_o79) (ninS (Ne.symm ne_o68_o79) (ninS (Ne.symm ne_o71_o79) (ninS (Ne.symm ne_o74_o79) nin0))))))))))))
        have A_o80 := A_o80.keep Kc (ninS (Ne.symm ne_o65_o80) (ninS (Ne.symm ne_o66_o80) (ninS (Ne.symm ne_o67_o80) (ninS (Ne.symm ne_o70_o80) (ninS (Ne.symm ne_o73_o80) (ninS (Ne.symm ne_o3_o80) (ninS (Ne.symm ne_o76_o80) (ninS (Ne.symm ne_o77_o80) (ninS (Ne.symm ne_o78_o80) (ninS (Ne.symm ne_o68_o80) (ninS (Ne.symm ne_o71_o80) (ninS (Ne.symm ne_o74_o80) nin0))))))))))))
        have A_o81 := A_o81.keep Kc (ninS (Ne.symm ne_o65_o81) (ninS (Ne.symm ne_o66_o81) (ninS (Ne.symm ne_o67_o81) (ninS (Ne.symm ne_o70_o81) (ninS (Ne.symm ne_o73_o81) (ninS (Ne.symm ne_o3_o81) (ninS (Ne.symm ne_o76_o81) (ninS (Ne.symm ne_o77_o81) (ninS (Ne.symm ne_o78_o81) (ninS (Ne.symm ne_o68_o81) (ninS (Ne.symm ne_o71_o81) (ninS (Ne.symm ne_o74_o81) nin0))))))))))))
        have t_c20_146 : (0 : Int) < (stp).toInt := cl_gt.mp c20_146
        refine Run.cast (st' := [(.int (-1 : Int32))]) rfl ?_
        refine s_istore 124 C X (l' := #[.val (.int x0), .val (.int x1), .val (.int x2), .val (.ref o1), .val (.ref o2), .val (.int (1 : Int32)), .val (.int mm), .val (.ref o3), .val (.ref o60), .val (.ref o65), .val (.long ((1 : Int64) * (x0).toInt64)), .second, .val (.int (-1 : Int32)), .unset, .unset, .unset, .unset, .unset, .unset, .unset, .unset]) at_122 rfl ?_
        refine s_aload 126 C X at_124 rfl rfl ?_
        refine s_aload 128 C X at_126 rfl rfl ?_
        refine s_iconst 129 C X at_128 kc_iconst_0 ?_
        refine s_callV 132 [(.ref o2), (.int (0 : Int32))] [] 0 C X at_129 (mW 150 rfl) (mW 151 rfl) (notFace_of_selects (args := #[]) (mvT C.2.1 (C.w (mW 153 rfl)))) (mW 153 rfl) (mW 152 rfl) (mW 96 rfl) (mW 154 rfl) E_o65 (rm_a237 l Z a0 hw x0 o2 o3 k_o2 o4 o5 k_o4 o6 k_o6 o8 o11 o31 o60 o65 o66 o67 k_o66 o70 o73 o76 o77 o78 o79 o80 o81 (stp) _ n0 X.sz A_o2 A_o4 E_o5 F_o5_values F_o5_size A_o6 E_o65 F_o65_tokens F_o65_nearestFewer F_o65_nearestUnmarked F_o65_firstNearestUnmarked F_o65_markings F_o65_parents F_o65_stepsPerMarking F_o65_searchedMarking F_o65_searchedPlaces F_o65_searchedTokens F_o65_parentPlaces F_o65_parentTokens F_o65_unmarkedRanks F_o65_searched F_o65_steps A_o66 E_o3 F_o3_bytes F_o3_starts F_o3_hashes F_o3_table F_o3_encoded F_o3_encodedLength F_o3_encodedHash F_o3_length F_o3_position ne_o2_o3 g_o3 ne_o3_o4 ne_o3_o5 ne_o3_o6 ne_o2_o65 ne_o3_o65 ne_o4_o65 ne_o5_o65 ne_o6_o65 g_o65 ne_o3_o66 ne_o65_o66) (lenOf pd___JI_Z rfl) rfl rfl rfl (fun T v hh X q => ?_)
        obtain ⟨rfl, c20_206, Kc, E_o65, F_o65_tokens, F_o65_nearestFewer, F_o65_nearestUnmarked, F_o65_firstNearestUnmarked, F_o65_markings, F_o65_parents, F_o65_stepsPerMarking, F_o65_searchedMarking, F_o65_searchedPlaces, F_o65_searchedTokens, F_o65_parentPlaces, F_o65_parentTokens, F_o65_unmarkedRanks, F_o65_searched, F_o65_steps, E_o3, F_o3_bytes, F_o3_starts, F_o3_hashes, F_o3_table, F_o3_encoded, F_o3_encodedLength, F_o3_encodedHash, F_o3_length, F_o3_position⟩ | ⟨rfl, c20_206, E_o65, F_o65_tokens, F_o65_nearestFewer, F_o65_nearestUnmarked, F_o65_firstNearestUnmarked, F_o65_markings, F_o65_parents, F_o65_stepsPerMarking, F_o65_searchedMarking, F_o65_searchedPlaces, F_o65_searchedTokens, F_o65_parentPlaces, F_o65_parentTokens, F_o65_unmarkedRanks, F_o65_searched, F_o65_steps, E_o3, F_o3_bytes, F_o3_starts, F_o3_hashes, F_o3_table, F_o3_encoded, F_o3_encodedLength, F_o3_encodedHash, F_o3_length, F_o3_position, Kc⟩ := q
        · have nn_o5 : o5 ∉ [o65, o3] := (ninS ne_o5_o65 (ninS (Ne.symm ne_o3_o5) nin0))
          have nn_o8 : o8 ∉ [o65, o3] := (ninS ne_o8_o65 (ninS (Ne.symm ne_o3_o8) nin0))
          have nn_o60 : o60 ∉ [o65, o3] := (ninS ne_o60_o65 (ninS (Ne.symm ne_o3_o60) nin0))
          have nn_o67 : o67 ∉ [o65, o3] := (ninS (Ne.symm ne_o65_o67) (ninS (Ne.symm ne_o3_o67) nin0))
          have nn_o73 : o73 ∉ [o65, o3] := (ninS (Ne.symm ne_o65_o73) (ninS (Ne.symm ne_o3_o73) nin0))
          have nn_o70 : o70 ∉ [o65, o3] := (ninS (Ne.symm ne_o65_o70) (ninS (Ne.symm ne_o3_o70) nin0))
          have A_o1 := A_o1.keep Kc (ninS ne_o1_o65 (ninS ne_o1_o3 nin0))
          have A_o2 := A_o2.keep Kc (ninS ne_o2_o65 (ninS ne_o2_o3 nin0))
          have A_o11 := A_o11.keep Kc (ninS ne_o11_o65 (ninS (Ne.symm ne_o3_o11) nin0))
          have A_o31 := A_o31.keep Kc (ninS ne_o31_o65 (ninS (Ne.symm ne_o3_o31) nin0))
          have A_o4 := A_o4.keep Kc (ninS ne_o4_o65 (ninS (Ne.symm ne_o3_o4) nin0))
          have E_o5 := E_o5.keep Kc
          have F_o5_values := F_o5_values.keep Kc nn_o5
          have F_o5_size := F_o5_size.keep Kc nn_o5
          have A_o6 := A_o6.keep Kc (ninS ne_o6_o65 (ninS (Ne.symm ne_o3_o6) nin0))
          have E_o8 := E_o8.keep Kc
          have F_o8_values := F_o8_values.keep Kc nn_o8
          have F_o8_size := F_o8_size.keep Kc nn_o8
          have A_o9 := A_o9.keep Kc (ninS ne_o9_o65 (ninS (Ne.symm ne_o3_o9) nin0))
          have E_o60 := E_o60.keep Kc
          have F_o60_values := F_o60_values.keep Kc nn_o60
          have F_o60_size := F_o60_size.keep Kc nn_o60
          have A_o61 := A_o61.keep Kc (ninS ne_o61_o65 (ninS (Ne.symm ne_o3_o61) nin0))
          have A_o79 := A_o79.keep Kc (ninS (Ne.symm ne_o65_o79) (ninS (Ne.symm ne_o3_o79) nin0))
          have A_o80 := A_o80.keep Kc (ninS (Ne.symm ne_o65_o80) (ninS (Ne.symm ne_o3_o80) nin0))
          have A_o81 := A_o81.keep Kc (ninS (Ne.symm ne_o65_o81) (ninS (Ne.symm ne_o3_o81) nin0))
          have A_o66 := A_o66.keep Kc (ninS (Ne.symm ne_o65_o66) (ninS (Ne.symm ne_o3_o66) nin0))
          have A_o76 := A_o76.keep Kc (ninS (Ne.symm ne_o65_o76) (ninS (Ne.symm ne_o3_o76) nin0))
          have A_o77 := A_o77.keep Kc (ninS (Ne.symm ne_o65_o77) (ninS (Ne.symm ne_o3_o77) nin0))
          have A_o78 := A_o78.keep Kc (ninS (Ne.symm ne_o65_o78) (ninS (Ne.symm ne_o3_o78) nin0))
          have E_o67 := E_o67.keep Kc
          have F_o67_values := F_o67_values.keep Kc nn_o67
          have F_o67_size := F_o67_size.keep Kc nn_o67
          have A_o68 := A_o68.keep Kc (ninS (Ne.symm ne_o65_o68) (ninS (Ne.symm ne_o3_o68) nin0))
          have E_o73 := E_o73.keep Kc
          have F_o73_values := F_o73_values.keep Kc nn_o73
          have F_o73_size := F_o73_size.keep Kc nn_o73
          have A_o74 := A_o74.keep Kc (ninS (Ne.symm ne_o65_o74) (ninS (Ne.symm ne_o3_o74) nin0))
          have E_o70 := E_o70.keep Kc
          have F_o70_blocks := F_o70_blocks.keep Kc nn_o70
          have F_o70_size := F_o70_size.keep Kc nn_o70
          have E_o71 := E_o71.keep Kc
          have A_o71 := A_o71.keep Kc (ninS (Ne.symm ne_o65_o71) (ninS (Ne.symm ne_o3_o71) nin0))
          have E_o181 := E_o181.keep Kc
          have A_o181 := A_o181.keep Kc (ninS (Ne.symm ne_o65_o181) (ninS (Ne.symm ne_o3_o181) nin0))
          have t_c20_206 : (0 : Int) < (stp).toInt := cl_gt.mp c20_206
          refine Run.cast (st' := [(.int (1 : Int32))]) rfl ?_
          refine s_istore 134 C X (l' := #[.val (.int x0), .val (.int x1), .val (.int x2), .val (.ref o1), .val (.ref o2), .val (.int (1 : Int32)), .val (.int mm), .val (.ref o3), .val (.ref o60), .val (.ref o65), .val (.long ((1 : Int64) * (x0).toInt64)), .second, .val (.int (-1 : Int32)), .val (.int (1 : Int32)), .unset, .unset, .unset, .unset, .unset, .unset, .unset]) at_132 rfl ?_
          refine s_iload 136 C X at_134 rfl ?_
          refine s_if_eq 144 139 C X at_136 (fun c136_480 => ?_) (fun c136_480 => ?_)
          · have t_c136_480 : (mm).toInt = (0 : Int) := congrArg Int32.toInt c136_480
            refine s_aload 146 C X at_144 rfl rfl ?_
            refine s_aload 148 C X at_146 rfl rfl ?_
            refine s_iconst 149 C X at_148 kc_iconst_0 ?_
            refine s_callV 152 [(.ref o2), (.int (0 : Int32))] [] 0 C X at_149 (mW 150 rfl) (mW 151 rfl) (notFace_of_selects (args := #[]) (mvT C.2.1 (C.w (mW 153 rfl)))) (mW 153 rfl) (mW 152 rfl) (mW 96 rfl) (mW 154 rfl) E_o65 (rm_a237 l Z a0 hw x0 o2 o3 k_o2 o4 o5 k_o4 o6 k_o6 o8 o11 o31 o60 o65 o66 o67 k_o66 o70 o73 o76 o77 o78 o79 o80 o81 ((stp - (1 : Int64)) - (2 : Int64)) _ n0 X.sz A_o2 A_o4 E_o5 F_o5_values F_o5_size A_o6 E_o65 F_o65_tokens F_o65_nearestFewer F_o65_nearestUnmarked F_o65_firstNearestUnmarked F_o65_markings F_o65_parents F_o65_stepsPerMarking F_o65_searchedMarking F_o65_searchedPlaces F_o65_searchedTokens F_o65_parentPlaces F_o65_parentTokens F_o65_unmarkedRanks F_o65_searched F_o65_steps A_o66 E_o3 F_o3_bytes F_o3_starts F_o3_hashes F_o3_table F_o3_encoded F_o3_encodedLength F_o3_encodedHash F_o3_length F_o3_position ne_o2_o3 g_o3 ne_o3_o4 ne_o3_o5 ne_o3_o6 ne_o2_o65 ne_o3_o65 ne_o4_o65 ne_o5_o65 ne_o6_o65 g_o65 ne_o3_o66 ne_o65_o66) (lenOf pd___JI_Z rfl) rfl rfl rfl (fun T v hh X q => ?_)
            obtain ⟨rfl, c20_206, Kc, E_o65, F_o65_tokens, F_o65_nearestFewer, F_o65_nearestUnmarked, F_o65_firstNearestUnmarked, F_o65_markings, F_o65_parents, F_o65_stepsPerMarking, F_o65_searchedMarking, F_o65_searchedPlaces, F_o65_searchedTokens, F_o65_parentPlaces, F_o65_parentTokens, F_o65_unmarkedRanks, F_o65_searched, F_o65_steps, E_o3, F_o3_bytes, F_o3_starts, F_o3_hashes, F_o3_table, F_o3_encoded, F_o3_encodedLength, F_o3_encodedHash, F_o3_length, F_o3_position⟩ | ⟨rfl, c20_206, E_o65, F_o65_tokens, F_o65_nearestFewer, F_o65_nearestUnmarked, F_o65_firstNearestUnmarked, F_o65_markings, F_o65_parents, F_o65_stepsPerMarking, F_o65_searchedMarking, F_o65_searchedPlaces, F_o65_searchedTokens, F_o65_parentPlaces, F_o65_parentTokens, F_o65_unmarkedRanks, F_o65_searched, F_o65_steps, E_o3, F_o3_bytes, F_o3_starts, F_o3_hashes, F_o3_table, F_o3_encoded, F_o3_encodedLength, F_o3_encodedHash, F_o3_length, F_o3_position, Kc⟩ := q
            · have t_c20_206 : (0 : Int) < (((stp - (1 : Int64)) - (2 : Int64))).toInt := cl_gt.mp c20_206
              refine Run.cast (st' := [(.int (1 : Int32))]) rfl ?_
              refine s_istore 154 C X (l' := #[.val (.int x0), .val (.int x1), .val (.int x2), .val (.ref o1), .val (.ref o2), .val (.int (1 : Int32)), .val (.int mm), .val (.ref o3), .val (.ref o60), .val (.ref o65), .val (.long ((1 : Int64) * (x0).toInt64)), .second, .val (.int (-1 : Int32)), .val (.int (1 : Int32)), .val (.int (1 : Int32)), .unset, .unset, .unset, .unset, .unset, .unset]) at_152 rfl ?_
              have kl0 : (0 : Int64).toInt = 0 := by decide
              have kl1 : (1 : Int64).toInt = 1 := by decide
              have kl2 : ((stp - (1 : Int64))).toInt = (stp).toInt - ((1 : Int64)).toInt := by have u := c_lsub stp (1 : Int64); have r := rng64 (stp - (1 : Int64)); omega
              have kl3 : (2 : Int64).toInt = 2 := by decide
              have kl4 : (((stp - (1 : Int64)) - (2 : Int64))).toInt = ((stp - (1 : Int64))).toInt - ((2 : Int64)).toInt := by have u := c_lsub (stp - (1 : Int64)) (2 : Int64); have r := rng64 ((stp - (1 : Int64)) - (2 : Int64)); omega
              exact TL T _ _ _ X _ _ _ _ _ (by decide) (by decide) (by omega) (Or.inl ⟨c136_480, rfl⟩) (Or.inl ⟨by omega, by omega, rfl, rfl⟩)
            · have t_c20_206 : ¬ ((0 : Int) < (((stp - (1 : Int64)) - (2 : Int64))).toInt) := fun q => c20_206 (cl_gt.mpr q)
              refine Run.cast (st' := [(.int (0 : Int32))]) rfl ?_
              refine s_istore 154 C X (l' := #[.val (.int x0), .val (.int x1), .val (.int x2), .val (.ref o1), .val (.ref o2), .val (.int (1 : Int32)), .val (.int mm), .val (.ref o3), .val (.ref o60), .val (.ref o65), .val (.long ((1 : Int64) * (x0).toInt64)), .second, .val (.int (-1 : Int32)), .val (.int (1 : Int32)), .val (.int (0 : Int32)), .unset, .unset, .unset, .unset, .unset, .unset]) at_152 rfl ?_
              have kl0 : (0 : Int64).toInt = 0 := by decide
              have kl1 : (1 : Int64).toInt = 1 := by decide
              have kl2 : ((stp - (1 : Int64))).toInt = (stp).toInt - ((1 : Int64)).toInt := by have u := c_lsub stp (1 : Int64); have r := rng64 (stp - (1 : Int64)); omega
              have kl3 : (2 : Int64).toInt = 2 := by decide
              have kl4 : (((stp - (1 : Int64)) - (2 : Int64))).toInt = ((stp - (1 : Int64))).toInt - ((2 : Int64)).toInt := by have u := c_lsub (stp - (1 : Int64)) (2 : Int64); have r := rng64 ((stp - (1 : Int64)) - (2 : Int64)); omega
              exact TL T _ _ _ X _ _ _ _ _ (by decide) (by decide) (by omega) (Or.inl ⟨c136_480, rfl⟩) (Or.inr (Or.inl ⟨by omega, by omega, rfl, rfl⟩))
          have t_c136_480 : ¬ ((mm).toInt = (0 : Int)) := fun q => c136_480 (Int32.toInt_inj.mp q)
          refine s_aload 141 C X at_139 rfl rfl ?_
          refine s_callV 144 [] [] 0 C X at_141 (mW 155 rfl) (mW 156 rfl) (notFace_of_selects (args := #[]) (mvT C.2.1 (C.w (mW 158 rfl)))) (mW 158 rfl) (mW 157 rfl) (mW 96 rfl) (mW 159 rfl) E_o65 (rm_a274 l Z a0 hw x0 o3 o60 o65 o66 o67 o70 o73 o76 o77 o78 o79 o80 o81 ((stp - (1 : Int64)) - (2 : Int64)) _ n0 X.sz E_o65 F_o65_tokens F_o65_nearestFewer F_o65_nearestUnmarked F_o65_firstNearestUnmarked F_o65_markings F_o65_parents F_o65_stepsPerMarking F_o65_searchedMarking F_o65_searchedPlaces F_o65_searchedTokens F_o65_parentPlaces F_o65_parentTokens F_o65_unmarkedRanks F_o65_searched F_o65_steps g_o65) (lenOf pd___V rfl) rfl rfl rfl (fun T v hh X q => ?_)
          obtain ⟨rfl, E_o65, F_o65_tokens, F_o65_nearestFewer, F_o65_nearestUnmarked, F_o65_firstNearestUnmarked, F_o65_markings, F_o65_parents, F_o65_stepsPerMarking, F_o65_searchedMarking, F_o65_searchedPlaces, F_o65_searchedTokens, F_o65_parentPlaces, F_o65_parentTokens, F_o65_unmarkedRanks, F_o65_searched, F_o65_steps, Kc⟩ := q
          have A_o1 := A_o1.keep Kc (ninS ne_o1_o65 nin0)
          have A_o2 := A_o2.keep Kc (ninS ne_o2_o65 nin0)
          have A_o11 := A_o11.keep Kc (ninS ne_o11_o65 nin0)
          have A_o31 := A_o31.keep Kc (ninS ne_o31_o65 nin0)
          have A_o4 := A_o4.keep Kc (ninS ne_o4_o65 nin0)
          have E_o5 := E_o5.keep Kc
          have F_o5_values := F_o5_values.keep Kc (ninS ne_o5_o65 nin0)
          have F_o5_size := F_o5_size.keep Kc (ninS ne_o5_o65 nin0)
          have A_o6 := A_o6.keep Kc (ninS ne_o6_o65 nin0)
          have E_o8 := E_o8.keep Kc
          have F_o8_values := F_o8_values.keep Kc (ninS ne_o8_o65 nin0)
          have F_o8_size := F_o8_size.keep Kc (ninS ne_o8_o65 nin0)
          have A_o9 := A_o9.keep Kc (ninS ne_o9_o65 nin0)
          have E_o60 := E_o60.keep Kc
          have F_o60_values := F_o60_values.keep Kc (ninS ne_o60_o65 nin0)
          have F_o60_size := F_o60_size.keep Kc (ninS ne_o60_o65 nin0)
          have A_o61 := A_o61.keep Kc (ninS ne_o61_o65 nin0)
          have A_o79 := A_o79.keep Kc (ninS (Ne.symm ne_o65_o79) nin0)
          have A_o80 := A_o80.keep Kc (ninS (Ne.symm ne_o65_o80) nin0)
          have A_o81 := A_o81.keep Kc (ninS (Ne.symm ne_o65_o81) nin0)
          have A_o66 := A_o66.keep Kc (ninS (Ne.symm ne_o65_o66) nin0)
          have A_o76 := A_o76.keep Kc (ninS (Ne.symm ne_o65_o76) nin0)
          have A_o77 := A_o77.keep Kc (ninS (Ne.symm ne_o65_o77) nin0)
          have A_o78 := A_o78.keep Kc (ninS (Ne.symm ne_o65_o78) nin0)
          have E_o67 := E_o67.keep Kc
          have F_o67_values := F_o67_values.keep Kc (ninS (Ne.symm ne_o65_o67) nin0)
          have F_o67_size := F_o67_size.keep Kc (ninS (Ne.symm ne_o65_o67) nin0)
          have A_o68 := A_o68.keep Kc (ninS (Ne.symm ne_o65_o68) nin0)
          have E_o73 := E_o73.keep Kc
          have F_o73_values := F_o73_values.keep Kc (ninS (Ne.symm ne_o65_o73) nin0)
          have F_o73_size := F_o73_size.keep Kc (ninS (Ne.symm ne_o65_o73) nin0)
          have A_o74 := A_o74.keep Kc (ninS (Ne.symm ne_o65_o74) nin0)
          have E_o70 := E_o70.keep Kc
          have F_o70_blocks := F_o70_blocks.keep Kc (ninS (Ne.symm ne_o65_o70) nin0)
          have F_o70_size := F_o70_size.keep Kc (ninS (Ne.symm ne_o65_o70) nin0)
          have E_o71 := E_o71.keep Kc
          have A_o71 := A_o71.keep Kc (ninS (Ne.symm ne_o65_o71) nin0)
          have E_o181 := E_o181.keep Kc
          have A_o181 := A_o181.keep Kc (ninS (Ne.symm ne_o65_o181) nin0)
          have E_o3 := E_o3.keep Kc
          have F_o3_bytes := F_o3_bytes.keep Kc (ninS ne_o3_o65 nin0)
          have F_o3_starts := F_o3_starts.keep Kc (ninS ne_o3_o65 nin0)
          have F_o3_hashes := F_o3_hashes.keep Kc (ninS ne_o3_o65 nin0)
          have F_o3_table := F_o3_table.keep Kc (ninS ne_o3_o65 nin0)
          have F_o3_encoded := F_o3_encoded.keep Kc (ninS ne_o3_o65 nin0)
          have F_o3_encodedLength := F_o3_encodedLength.keep Kc (ninS ne_o3_o65 nin0)
          have F_o3_encodedHash := F_o3_encodedHash.keep Kc (ninS ne_o3_o65 nin0)
          have F_o3_length := F_o3_length.keep Kc (ninS ne_o3_o65 nin0)
          have F_o3_position := F_o3_position.keep Kc (ninS ne_o3_o65 nin0)
          refine Run.cast (st' := []) rfl ?_
          refine s_aload 146 C X at_144 rfl rfl ?_
          refine s_aload 148 C X at_146 rfl rfl ?_
          refine s_iconst 149 C X at_148 kc_iconst_0 ?_
          refine s_callV 152 [(.ref o2), (.int (0 : Int32))] [] 0 C X at_149 (mW 150 rfl) (mW 151 rfl) (notFace_of_selects (args := #[]) (mvT C.2.1 (C.w (mW 153 rfl)))) (mW 153 rfl) (mW 152 rfl) (mW 96 rfl) (mW 154 rfl) E_o65 (rm_a237 l Z a0 hw x0 o2 o3 k_o2 o4 o5 k_o4 o6 k_o6 o8 o11 o31 o60 o65 o66 o67 k_o66 o70 o73 o76 o77 o78 o79 o80 o81 (((stp - (1 : Int64)) - (2 : Int64)) + (x0).toInt64) _ n0 X.sz A_o2 A_o4 E_o5 F_o5_values F_o5_size A_o6 E_o65 F_o65_tokens F_o65_nearestFewer F_o65_nearestUnmarked F_o65_firstNearestUnmarked F_o65_markings F_o65_parents F_o65_stepsPerMarking F_o65_searchedMarking F_o65_searchedPlaces F_o65_searchedTokens F_o65_parentPlaces F_o65_parentTokens F_o65_unmarkedRanks F_o65_searched F_o65_steps A_o66 E_o3 F_o3_bytes F_o3_starts F_o3_hashes F_o3_table F_o3_encoded F_o3_encodedLength F_o3_encodedHash F_o3_length F_o3_position ne_o2_o3 g_o3 ne_o3_o4 ne_o3_o5 ne_o3_o6 ne_o2_o65 ne_o3_o65 ne_o4_o65 ne_o5_o65 ne_o6_o65 g_o65 ne_o3_o66 ne_o65_o66) (lenOf pd___JI_Z rfl) rfl rfl rfl (fun T v hh X q => ?_)
          obtain ⟨rfl, c20_206, Kc, E_o65, F_o65_tokens, F_o65_nearestFewer, F_o65_nearestUnmarked, F_o65_firstNearestUnmarked, F_o65_markings, F_o65_parents, F_o65_stepsPerMarking, F_o65_searchedMarking, F_o65_searchedPlaces, F_o65_searchedTokens, F_o65_parentPlaces, F_o65_parentTokens, F_o65_unmarkedRanks, F_o65_searched, F_o65_steps, E_o3, F_o3_bytes, F_o3_starts, F_o3_hashes, F_o3_table, F_o3_encoded, F_o3_encodedLength, F_o3_encodedHash, F_o3_length, F_o3_position⟩ | ⟨rfl, c20_206, E_o65, F_o65_tokens, F_o65_nearestFewer, F_o65_nearestUnmarked, F_o65_firstNearestUnmarked, F_o65_markings, F_o65_parents, F_o65_stepsPerMarking, F_o65_searchedMarking, F_o65_searchedPlaces, F_o65_searchedTokens, F_o65_parentPlaces, F_o65_parentTokens, F_o65_unmarkedRanks, F_o65_searched, F_o65_steps, E_o3, F_o3_bytes, F_o3_starts, F_o3_hashes, F_o3_table, F_o3_encoded, F_o3_encodedLength, F_o3_encodedHash, F_o3_length, F_o3_position, Kc⟩ := q
          · have t_c20_206 : (0 : Int) < ((((stp - (1 : Int64)) - (2 : Int64)) + (x0).toInt64)).toInt := cl_gt.mp c20_206
            refine Run.cast (st' := [(.int (1 : Int32))]) rfl ?_
            refine s_istore 154 C X (l' := #[.val (.int x0), .val (.int x1), .val (.int x2), .val (.ref o1), .val (.ref o2), .val (.int (1 : Int32)), .val (.int mm), .val (.ref o3), .val (.ref o60), .val (.ref o65), .val (.long ((1 : Int64) * (x0).toInt64)), .second, .val (.int (-1 : Int32)), .val (.int (1 : Int32)), .val (.int (1 : Int32)), .unset, .unset, .unset, .unset, .unset, .unset]) at_152 rfl ?_
            have kl0 : (0 : Int64).toInt = 0 := by decide
            have kl1 : (1 : Int64).toInt = 1 := by decide
            have kl2 : ((stp - (1 : Int64))).toInt = (stp).toInt - ((1 : Int64)).toInt := by have u := c_lsub stp (1 : Int64); have r := rng64 (stp - (1 : Int64)); omega
            have kl3 : (2 : Int64).toInt = 2 := by decide
            have kl4 : (((stp - (1 : Int64)) - (2 : Int64))).toInt = ((stp - (1 : Int64))).toInt - ((2 : Int64)).toInt := by have u := c_lsub (stp - (1 : Int64)) (2 : Int64); have r := rng64 ((stp - (1 : Int64)) - (2 : Int64)); omega
            have kl5 := c_i2l x0
            have kl6 := rng32 x0
            have kl7 : ((((stp - (1 : Int64)) - (2 : Int64)) + (x0).toInt64)).toInt = (((stp - (1 : Int64)) - (2 : Int64))).toInt + ((x0).toInt64).toInt := by have u := c_ladd ((stp - (1 : Int64)) - (2 : Int64)) (x0).toInt64; have r := rng64 (((stp - (1 : Int64)) - (2 : Int64)) + (x0).toInt64); omega
            exact TL T _ _ _ X _ _ _ _ _ (by decide) (by decide) (by omega) (Or.inr ⟨hm.resolve_left c136_480, rfl⟩) (Or.inl ⟨by omega, by omega, rfl, rfl⟩)
          · have t_c20_206 : ¬ ((0 : Int) < ((((stp - (1 : Int64)) - (2 : Int64)) + (x0).toInt64)).toInt) := fun q => c20_206 (cl_gt.mpr q)
            refine Run.cast (st' := [(.int (0 : Int32))]) rfl ?_
            refine s_istore 154 C X (l' := #[.val (.int x0), .val (.int x1), .val (.int x2), .val (.ref o1), .val (.ref o2), .val (.int (1 : Int32)), .val (.int mm), .val (.ref o3), .val (.ref o60), .val (.ref o65), .val (.long ((1 : Int64) * (x0).toInt64)), .second, .val (.int (-1 : Int32)), .val (.int (1 : Int32)), .val (.int (0 : Int32)), .unset, .unset, .unset, .unset, .unset, .unset]) at_152 rfl ?_
            have kl0 : (0 : Int64).toInt = 0 := by decide
            have kl1 : (1 : Int64).toInt = 1 := by decide
            have kl2 : ((stp - (1 : Int64))).toInt = (stp).toInt - ((1 : Int64)).toInt := by have u := c_lsub stp (1 : Int64); have r := rng64 (stp - (1 : Int64)); omega
            have kl3 : (2 : Int64).toInt = 2 := by decide
            have kl4 : (((stp - (1 : Int64)) - (2 : Int64))).toInt = ((stp - (1 : Int64))).toInt - ((2 : Int64)).toInt := by have u := c_lsub (stp - (1 : Int64)) (2 : Int64); have r := rng64 ((stp - (1 : Int64)) - (2 : Int64)); omega
            have kl5 := c_i2l x0
            have kl6 := rng32 x0
            have kl7 : ((((stp - (1 : Int64)) - (2 : Int64)) + (x0).toInt64)).toInt = (((stp - (1 : Int64)) - (2 : Int64))).toInt + ((x0).toInt64).toInt := by have u := c_ladd ((stp - (1 : Int64)) - (2 : Int64)) (x0).toInt64; have r := rng64 (((stp - (1 : Int64)) - (2 : Int64)) + (x0).toInt64); omega
            exact TL T _ _ _ X _ _ _ _ _ (by decide) (by decide) (by omega) (Or.inr ⟨hm.resolve_left c136_480, rfl⟩) (Or.inr (Or.inl ⟨by omega, by omega, rfl, rfl⟩))
        · have nn_o5 : o5 ∉ [o65, o3] := (ninS ne_o5_o65 (ninS (Ne.symm ne_o3_o5) nin0))
          have nn_o8 : o8 ∉ [o65, o3] := (ninS ne_o8_o65 (ninS (Ne.symm ne_o3_o8) nin0))
          have nn_o60 : o60 ∉ [o65, o3] := (ninS ne_o60_o65 (ninS (Ne.symm ne_o3_o60) nin0))
          have nn_o67 : o67 ∉ [o65, o3] := (ninS (Ne.symm ne_o65_o67) (ninS (Ne.symm ne_o3_o67) nin0))
          have nn_o73 : o73 ∉ [o65, o3] := (ninS (Ne.symm ne_o65_o73) (ninS (Ne.symm ne_o3_o73) nin0))
          have nn_o70 : o70 ∉ [o65, o3] := (ninS (Ne.symm ne_o65_o70) (ninS (Ne.symm ne_o3_o70) nin0))
          have A_o1 := A_o1.keep Kc (ninS ne_o1_o65 (ninS ne_o1_o3 nin0))
          have A_o2 := A_o2.keep Kc (ninS ne_o2_o65 (ninS ne_o2_o3 nin0))
          have A_o11 := A_o11.keep Kc (ninS ne_o11_o65 (ninS (Ne.symm ne_o3_o11) nin0))
          have A_o31 := A_o31.keep Kc (ninS ne_o31_o65 (ninS (Ne.symm ne_o3_o31) nin0))
          have A_o4 := A_o4.keep Kc (ninS ne_o4_o65 (ninS (Ne.symm ne_o3_o4) nin0))
          have E_o5 := E_o5.keep Kc
          have F_o5_values := F_o5_values.keep Kc nn_o5
          have F_o5_size := F_o5_size.keep Kc nn_o5
          have A_o6 := A_o6.keep Kc (ninS ne_o6_o65 (ninS (Ne.symm ne_o3_o6) nin0))
          have E_o8 := E_o8.keep Kc
          have F_o8_values := F_o8_values.keep Kc nn_o8
          have F_o8_size := F_o8_size.keep Kc nn_o8
          have A_o9 := A_o9.keep Kc (ninS ne_o9_o65 (ninS (Ne.symm ne_o3_o9) nin0))
          have E_o60 := E_o60.keep Kc
          have F_o60_values := F_o60_values.keep Kc nn_o60
          have F_o60_size := F_o60_size.keep Kc nn_o60
          have A_o61 := A_o61.keep Kc (ninS ne_o61_o65 (ninS (Ne.symm ne_o3_o61) nin0))
          have A_o79 := A_o79.keep Kc (ninS (Ne.symm ne_o65_o79) (ninS (Ne.symm ne_o3_o79) nin0))
          have A_o80 := A_o80.keep Kc (ninS (Ne.symm ne_o65_o80) (ninS (Ne.symm ne_o3_o80) nin0))
          have A_o81 := A_o81.keep Kc (ninS (Ne.symm ne_o65_o81) (ninS (Ne.symm ne_o3_o81) nin0))
          have A_o66 := A_o66.keep Kc (ninS (Ne.symm ne_o65_o66) (ninS (Ne.symm ne_o3_o66) nin0))
          have A_o76 := A_o76.keep Kc (ninS (Ne.symm ne_o65_o76) (ninS (Ne.symm ne_o3_o76) nin0))
          have A_o77 := A_o77.keep Kc (ninS (Ne.symm ne_o65_o77) (ninS (Ne.symm ne_o3_o77) nin0))
          have A_o78 := A_o78.keep Kc (ninS (Ne.symm ne_o65_o78) (ninS (Ne.symm ne_o3_o78) nin0))
          have E_o67 := E_o67.keep Kc
          have F_o67_values := F_o67_values.keep Kc nn_o67
          have F_o67_size := F_o67_size.keep Kc nn_o67
          have A_o68 := A_o68.keep Kc (ninS (Ne.symm ne_o65_o68) (ninS (Ne.symm ne_o3_o68) nin0))
          have E_o73 := E_o73.keep Kc
          have F_o73_values := F_o73_values.keep Kc nn_o73
          have F_o73_size := F_o73_size.keep Kc nn_o73
          have A_o74 := A_o74.keep Kc (ninS (Ne.symm ne_o65_o74) (ninS (Ne.symm ne_o3_o74) nin0))
          have E_o70 := E_o70.keep Kc
          have F_o70_blocks := F_o70_blocks.keep Kc nn_o70
          have F_o70_size := F_o70_size.keep Kc nn_o70
          have E_o71 := E_o71.keep Kc
          have A_o71 := A_o71.keep Kc (ninS (Ne.symm ne_o65_o71) (ninS (Ne.symm ne_o3_o71) nin0))
          have E_o181 := E_o181.keep Kc
          have A_o181 := A_o181.keep Kc (ninS (Ne.symm ne_o65_o181) (ninS (Ne.symm ne_o3_o181) nin0))
          have t_c20_206 : ¬ ((0 : Int) < (stp).toInt) := fun q => c20_206 (cl_gt.mpr q)
          refine Run.cast (st' := [(.int (0 : Int32))]) rfl ?_
          refine s_istore 134 C X (l' := #[.val (.int x0), .val (.int x1), .val (.int x2), .val (.ref o1), .val (.ref o2), .val (.int (1 : Int32)), .val (.int mm), .val (.ref o3), .val (.ref o60), .val (.ref o65), .val (.long ((1 : Int64) * (x0).toInt64)), .second, .val (.int (-1 : Int32)), .val (.int (0 : Int32)), .unset, .unset, .unset, .unset, .unset, .unset, .unset]) at_132 rfl ?_
          refine s_iload 136 C X at_134 rfl ?_
          refine s_if_eq 144 139 C X at_136 (fun c136_552 => ?_) (fun c136_552 => ?_)
          · have t_c136_552 : (mm).toInt = (0 : Int) := congrArg Int32.toInt c136_552
            refine s_aload 146 C X at_144 rfl rfl ?_
            refine s_aload 148 C X at_146 rfl rfl ?_
            refine s_iconst 149 C X at_148 kc_iconst_0 ?_
            refine s_callV 152 [(.ref o2), (.int (0 : Int32))] [] 0 C X at_149 (mW 150 rfl) (mW 151 rfl) (notFace_of_selects (args := #[]) (mvT C.2.1 (C.w (mW 153 rfl)))) (mW 153 rfl) (mW 152 rfl) (mW 96 rfl) (mW 154 rfl) E_o65 (rm_a237 l Z a0 hw x0 o2 o3 k_o2 o4 o5 k_o4 o6 k_o6 o8 o11 o31 o60 o65 o66 o67 k_o66 o70 o73 o76 o77 o78 o79 o80 o81 (stp) _ n0 X.sz A_o2 A_o4 E_o5 F_o5_values F_o5_size A_o6 E_o65 F_o65_tokens F_o65_nearestFewer F_o65_nearestUnmarked F_o65_firstNearestUnmarked F_o65_markings F_o65_parents F_o65_stepsPerMarking F_o65_searchedMarking F_o65_searchedPlaces F_o65_searchedTokens F_o65_parentPlaces F_o65_parentTokens F_o65_unmarkedRanks F_o65_searched F_o65_steps A_o66 E_o3 F_o3_bytes F_o3_starts F_o3_hashes F_o3_table F_o3_encoded F_o3_encodedLength F_o3_encodedHash F_o3_length F_o3_position ne_o2_o3 g_o3 ne_o3_o4 ne_o3_o5 ne_o3_o6 ne_o2_o65 ne_o3_o65 ne_o4_o65 ne_o5_o65 ne_o6_o65 g_o65 ne_o3_o66 ne_o65_o66) (lenOf pd___JI_Z rfl) rfl rfl rfl (fun T v hh X q => ?_)
            obtain ⟨rfl, c20_206, Kc, E_o65, F_o65_tokens, F_o65_nearestFewer, F_o65_nearestUnmarked, F_o65_firstNearestUnmarked, F_o65_markings, F_o65_parents, F_o65_stepsPerMarking, F_o65_searchedMarking, F_o65_searchedPlaces, F_o65_searchedTokens, F_o65_parentPlaces, F_o65_parentTokens, F_o65_unmarkedRanks, F_o65_searched, F_o65_steps, E_o3, F_o3_bytes, F_o3_starts, F_o3_hashes, F_o3_table, F_o3_encoded, F_o3_encodedLength, F_o3_encodedHash, F_o3_length, F_o3_position⟩ | ⟨rfl, c20_206, E_o65, F_o65_tokens, F_o65_nearestFewer, F_o65_nearestUnmarked, F_o65_firstNearestUnmarked, F_o65_markings, F_o65_parents, F_o65_stepsPerMarking, F_o65_searchedMarking, F_o65_searchedPlaces, F_o65_searchedTokens, F_o65_parentPlaces, F_o65_parentTokens, F_o65_unmarkedRanks, F_o65_searched, F_o65_steps, E_o3, F_o3_bytes, F_o3_starts, F_o3_hashes, F_o3_table, F_o3_encoded, F_o3_encodedLength, F_o3_encodedHash, F_o3_length, F_o3_position, Kc⟩ := q
            · have t_c20_206 : (0 : Int) < (stp).toInt := cl_gt.mp c20_206
              refine Run.cast (st' := [(.int (1 : Int32))]) rfl ?_
              refine s_istore 154 C X (l' := #[.val (.int x0), .val (.int x1), .val (.int x2), .val (.ref o1), .val (.ref o2), .val (.int (1 : Int32)), .val (.int mm), .val (.ref o3), .val (.ref o60), .val (.ref o65), .val (.long ((1 : Int64) * (x0).toInt64)), .second, .val (.int (-1 : Int32)), .val (.int (0 : Int32)), .val (.int (1 : Int32)), .unset, .unset, .unset, .unset, .unset, .unset]) at_152 rfl ?_
              have kl0 : (0 : Int64).toInt = 0 := by decide
              exfalso
              omega
            · have t_c20_206 : ¬ ((0 : Int) < (stp).toInt) := fun q => c20_206 (cl_gt.mpr q)
              refine Run.cast (st' := [(.int (0 : Int32))]) rfl ?_
              refine s_istore 154 C X (l' := #[.val (.int x0), .val (.int x1), .val (.int x2), .val (.ref o1), .val (.ref o2), .val (.int (1 : Int32)), .val (.int mm), .val (.ref o3), .val (.ref o60), .val (.ref o65), .val (.long ((1 : Int64) * (x0).toInt64)), .second, .val (.int (-1 : Int32)), .val (.int (0 : Int32)), .val (.int (0 : Int32)), .unset, .unset, .unset, .unset, .unset, .unset]) at_152 rfl ?_
              have kl0 : (0 : Int64).toInt = 0 := by decide
              exact TL T _ _ _ X _ _ _ _ _ (by decide) (by decide) (by omega) (Or.inl ⟨c136_552, rfl⟩) (Or.inr (Or.inr ⟨by omega, rfl, rfl⟩))
          have t_c136_552 : ¬ ((mm).toInt = (0 : Int)) := fun q => c136_552 (Int32.toInt_inj.mp q)
          refine s_aload 141 C X at_139 rfl rfl ?_
          refine s_callV 144 [] [] 0 C X at_141 (mW 155 rfl) (mW 156 rfl) (notFace_of_selects (args := #[]) (mvT C.2.1 (C.w (mW 158 rfl)))) (mW 158 rfl) (mW 157 rfl) (mW 96 rfl) (mW 159 rfl) E_o65 (rm_a274 l Z a0 hw x0 o3 o60 o65 o66 o67 o70 o73 o76 o77 o78 o79 o80 o81 (stp) _ n0 X.sz E_o65 F_o65_tokens F_o65_nearestFewer F_o65_nearestUnmarked F_o65_firstNearestUnmarked F_o65_markings F_o65_parents F_o65_stepsPerMarking F_o65_searchedMarking F_o65_searchedPlaces F_o65_searchedTokens F_o65_parentPlaces F_o65_parentTokens F_o65_unmarkedRanks F_o65_searched F_o65_steps g_o65) (lenOf pd___V rfl) rfl rfl rfl (fun T v hh X q => ?_)
          obtain ⟨rfl, E_o65, F_o65_tokens, F_o65_nearestFewer, F_o65_nearestUnmarked, F_o65_firstNearestUnmarked, F_o65_markings, F_o65_parents, F_o65_stepsPerMarking, F_o65_searchedMarking, F_o65_searchedPlaces, F_o65_searchedTokens, F_o65_parentPlaces, F_o65_parentTokens, F_o65_unmarkedRanks, F_o65_searched, F_o65_steps, Kc⟩ := q
          have A_o1 := A_o1.keep Kc (ninS ne_o1_o65 nin0)
          have A_o2 := A_o2.keep Kc (ninS ne_o2_o65 nin0)
          have A_o11 := A_o11.keep Kc (ninS ne_o11_o65 nin0)
          have A_o31 := A_o31.keep Kc (ninS ne_o31_o65 nin0)
          have A_o4 := A_o4.keep Kc (ninS ne_o4_o65 nin0)
          have E_o5 := E_o5.keep Kc
          have F_o5_values := F_o5_values.keep Kc (ninS ne_o5_o65 nin0)
          have F_o5_size := F_o5_size.keep Kc (ninS ne_o5_o65 nin0)
          have A_o6 := A_o6.keep Kc (ninS ne_o6_o65 nin0)
          have E_o8 := E_o8.keep Kc
          have F_o8_values := F_o8_values.keep Kc (ninS ne_o8_o65 nin0)
          have F_o8_size := F_o8_size.keep Kc (ninS ne_o8_o65 nin0)
          have A_o9 := A_o9.keep Kc (ninS ne_o9_o65 nin0)
          have E_o60 := E_o60.keep Kc
          have F_o60_values := F_o60_values.keep Kc (ninS ne_o60_o65 nin0)
          have F_o60_size := F_o60_size.keep Kc (ninS ne_o60_o65 nin0)
          have A_o61 := A_o61.keep Kc (ninS ne_o61_o65 nin0)
          have A_o79 := A_o79.keep Kc (ninS (Ne.symm ne_o65_o79) nin0)
          have A_o80 := A_o80.keep Kc (ninS (Ne.symm ne_o65_o80) nin0)
          have A_o81 := A_o81.keep Kc (ninS (Ne.symm ne_o65_o81) nin0)
          have A_o66 := A_o66.keep Kc (ninS (Ne.symm ne_o65_o66) nin0)
          have A_o76 := A_o76.keep Kc (ninS (Ne.symm ne_o65_o76) nin0)
          have A_o77 := A_o77.keep Kc (ninS (Ne.symm ne_o65_o77) nin0)
          have A_o78 := A_o78.keep Kc (ninS (Ne.symm ne_o65_o78) nin0)
          have E_o67 := E_o67.keep Kc
          have F_o67_values := F_o67_values.keep Kc (ninS (Ne.symm ne_o65_o67) nin0)
          have F_o67_size := F_o67_size.keep Kc (ninS (Ne.symm ne_o65_o67) nin0)
          have A_o68 := A_o68.keep Kc (ninS (Ne.symm ne_o65_o68) nin0)
          have E_o73 := E_o73.keep Kc
          have F_o73_values := F_o73_values.keep Kc (ninS (Ne.symm ne_o65_o73) nin0)
          have F_o73_size := F_o73_size.keep Kc (ninS (Ne.symm ne_o65_o73) nin0)
          have A_o74 := A_o74.keep Kc (ninS (Ne.symm ne_o65_o74) nin0)
          have E_o70 := E_o70.keep Kc
          have F_o70_blocks := F_o70_blocks.keep Kc (ninS (Ne.symm ne_o65_o70) nin0)
          have F_o70_size := F_o70_size.keep Kc (ninS (Ne.symm ne_o65_o70) nin0)
          have E_o71 := E_o71.keep Kc
          have A_o71 := A_o71.keep Kc (ninS (Ne.symm ne_o65_o71) nin0)
          have E_o181 := E_o181.keep Kc
          have A_o181 := A_o181.keep Kc (ninS (Ne.symm ne_o65_o181) nin0)
          have E_o3 := E_o3.keep Kc
          have F_o3_bytes := F_o3_bytes.keep Kc (ninS ne_o3_o65 nin0)
          have F_o3_starts := F_o3_starts.keep Kc (ninS ne_o3_o65 nin0)
          have F_o3_hashes := F_o3_hashes.keep Kc (ninS ne_o3_o65 nin0)
          have F_o3_table := F_o3_table.keep Kc (ninS ne_o3_o65 nin0)
          have F_o3_encoded := F_o3_encoded.keep Kc (ninS ne_o3_o65 nin0)
          have F_o3_encodedLength := F_o3_encodedLength.keep Kc (ninS ne_o3_o65 nin0)
          have F_o3_encodedHash := F_o3_encodedHash.keep Kc (ninS ne_o3_o65 nin0)
          have F_o3_length := F_o3_length.keep Kc (ninS ne_o3_o65 nin0)
          have F_o3_position := F_o3_position.keep Kc (ninS ne_o3_o65 nin0)
          refine Run.cast (st' := []) rfl ?_
          refine s_aload 146 C X at_144 rfl rfl ?_
          refine s_aload 148 C X at_146 rfl rfl ?_
          refine s_iconst 149 C X at_148 kc_iconst_0 ?_
          refine s_callV 152 [(.ref o2), (.int (0 : Int32))] [] 0 C X at_149 (mW 150 rfl) (mW 151 rfl) (notFace_of_selects (args := #[]) (mvT C.2.1 (C.w (mW 153 rfl)))) (mW 153 rfl) (mW 152 rfl) (mW 96 rfl) (mW 154 rfl) E_o65 (rm_a237 l Z a0 hw x0 o2 o3 k_o2 o4 o5 k_o4 o6 k_o6 o8 o11 o31 o60 o65 o66 o67 k_o66 o70 o73 o76 o77 o78 o79 o80 o81 (stp + (x0).toInt64) _ n0 X.sz A_o2 A_o4 E_o5 F_o5_values F_o5_size A_o6 E_o65 F_o65_tokens F_o65_nearestFewer F_o65_nearestUnmarked F_o65_firstNearestUnmarked F_o65_markings F_o65_parents F_o65_stepsPerMarking F_o65_searchedMarking F_o65_searchedPlaces F_o65_searchedTokens F_o65_parentPlaces F_o65_parentTokens F_o65_unmarkedRanks F_o65_searched F_o65_steps A_o66 E_o3 F_o3_bytes F_o3_starts F_o3_hashes F_o3_table F_o3_encoded F_o3_encodedLength F_o3_encodedHash F_o3_length F_o3_position ne_o2_o3 g_o3 ne_o3_o4 ne_o3_o5 ne_o3_o6 ne_o2_o65 ne_o3_o65 ne_o4_o65 ne_o5_o65 ne_o6_o65 g_o65 ne_o3_o66 ne_o65_o66) (lenOf pd___JI_Z rfl) rfl rfl rfl (fun T v hh X q => ?_)
          obtain ⟨rfl, c20_206, Kc, E_o65, F_o65_tokens, F_o65_nearestFewer, F_o65_nearestUnmarked, F_o65_firstNearestUnmarked, F_o65_markings, F_o65_parents, F_o65_stepsPerMarking, F_o65_searchedMarking, F_o65_searchedPlaces, F_o65_searchedTokens, F_o65_parentPlaces, F_o65_parentTokens, F_o65_unmarkedRanks, F_o65_searched, F_o65_steps, E_o3, F_o3_bytes, F_o3_starts, F_o3_hashes, F_o3_table, F_o3_encoded, F_o3_encodedLength, F_o3_encodedHash, F_o3_length, F_o3_position⟩ | ⟨rfl, c20_206, E_o65, F_o65_tokens, F_o65_nearestFewer, F_o65_nearestUnmarked, F_o65_firstNearestUnmarked, F_o65_markings, F_o65_parents, F_o65_stepsPerMarking, F_o65_searchedMarking, F_o65_searchedPlaces, F_o65_searchedTokens, F_o65_parentPlaces, F_o65_parentTokens, F_o65_unmarkedRanks, F_o65_searched, F_o65_steps, E_o3, F_o3_bytes, F_o3_starts, F_o3_hashes, F_o3_table, F_o3_encoded, F_o3_encodedLength, F_o3_encodedHash, F_o3_length, F_o3_position, Kc⟩ := q
          · have t_c20_206 : (0 : Int) < ((stp + (x0).toInt64)).toInt := cl_gt.mp c20_206
            refine Run.cast (st' := [(.int (1 : Int32))]) rfl ?_
            refine s_istore 154 C X (l' := #[.val (.int x0), .val (.int x1), .val (.int x2), .val (.ref o1), .val (.ref o2), .val (.int (1 : Int32)), .val (.int mm), .val (.ref o3), .val (.ref o60), .val (.ref o65), .val (.long ((1 : Int64) * (x0).toInt64)), .second, .val (.int (-1 : Int32)), .val (.int (0 : Int32)), .val (.int (1 : Int32)), .unset, .unset, .unset, .unset, .unset, .unset]) at_152 rfl ?_
            have kl0 : (0 : Int64).toInt = 0 := by decide
            have kl1 := c_i2l x0
            have kl2 := rng32 x0
            have kl3 : ((stp + (x0).toInt64)).toInt = (stp).toInt + ((x0).toInt64).toInt := by have u := c_ladd stp (x0).toInt64; have r := rng64 (stp + (x0).toInt64); omega
            exfalso
            omega
          · have t_c20_206 : ¬ ((0 : Int) < ((stp + (x0).toInt64)).toInt) := fun q => c20_206 (cl_gt.mpr q)
            refine Run.cast (st' := [(.int (0 : Int32))]) rfl ?_
            refine s_istore 154 C X (l' := #[.val (.int x0), .val (.int x1), .val (.int x2), .val (.ref o1), .val (.ref o2), .val (.int (1 : Int32)), .val (.int mm), .val (.ref o3), .val (.ref o60), .val (.ref o65), .val (.long ((1 : Int64) * (x0).toInt64)), .second, .val (.int (-1 : Int32)), .val (.int (0 : Int32)), .val (.int (0 : Int32)), .unset, .unset, .unset, .unset, .unset, .unset]) at_152 rfl ?_
            have kl0 : (0 : Int64).toInt = 0 := by decide
            have kl1 := c_i2l x0
            have kl2 := rng32 x0
            have kl3 : ((stp + (x0).toInt64)).toInt = (stp).toInt + ((x0).toInt64).toInt := by have u := c_ladd stp (x0).toInt64; have r := rng64 (stp + (x0).toInt64); omega
            exact TL T _ _ _ X _ _ _ _ _ (by decide) (by decide) (by omega) (Or.inr ⟨hm.resolve_left c136_552, rfl⟩) (Or.inr (Or.inr ⟨by omega, rfl, rfl⟩))
    · refine s_iload 89 C X at_87 rfl ?_
      refine s_iconst 90 C X at_89 kc_iconst_1 ?_
      refine s_icmp_lt 98 93 C X at_90 (fun c => absurd c (by decide)) (fun _ => ?_)
      refine s_aload 95 C X at_93 rfl rfl ?_
      refine s_callV 98 [] [] 0 C X at_95 (mW 155 rfl) (mW 156 rfl) (notFace_of_selects (args := #[]) (mvT C.2.1 (C.w (mW 158 rfl)))) (mW 158 rfl) (mW 157 rfl) (mW 96 rfl) (mW 159 rfl) E_o65 (rm_a383 l Z a0 hw x0 o3 o60 o65 o66 o67 o70 o73 o76 o77 o78 o79 o80 o81 _ n0 X.sz E_o65 F_o65_tokens F_o65_nearestFewer F_o65_nearestUnmarked F_o65_firstNearestUnmarked F_o65_markings F_o65_parents F_o65_stepsPerMarking F_o65_searchedMarking F_o65_searchedPlaces F_o65_searchedTokens F_o65_parentPlaces F_o65_parentTokens F_o65_unmarkedRanks F_o65_searched F_o65_steps g_o65) (lenOf pd___V rfl) rfl rfl rfl (fun T v hh X q => ?_)
      obtain ⟨rfl, E_o65, F_o65_tokens, F_o65_nearestFewer, F_o65_nearestUnmarked, F_o65_firstNearestUnmarked, F_o65_markings, F_o65_parents, F_o65_stepsPerMarking, F_o65_searchedMarking, F_o65_searchedPlaces, F_o65_searchedTokens, F_o65_parentPlaces, F_o65_parentTokens, F_o65_unmarkedRanks, F_o65_searched, F_o65_steps, Kc⟩ := q
      have A_o1 := A_o1.keep Kc (ninS ne_o1_o65 nin0)
      have A_o2 := A_o2.keep Kc (ninS ne_o2_o65 nin0)
      have A_o11 := A_o11.keep Kc (ninS ne_o11_o65 nin0)
      have E_o3 := E_o3.keep Kc
      have F_o3_bytes := F_o3_bytes.keep Kc (ninS ne_o3_o65 nin0)
      have F_o3_starts := F_o3_starts.keep Kc (ninS ne_o3_o65 nin0)
      have F_o3_hashes := F_o3_hashes.keep Kc (ninS ne_o3_o65 nin0)
      have F_o3_table := F_o3_table.keep Kc (ninS ne_o3_o65 nin0)
      have F_o3_encoded := F_o3_encoded.keep Kc (ninS ne_o3_o65 nin0)
      have F_o3_encodedLength := F_o3_encodedLength.keep Kc (ninS ne_o3_o65 nin0)
      have F_o3_encodedHash := F_o3_encodedHash.keep Kc (ninS ne_o3_o65 nin0)
      have F_o3_length := F_o3_length.keep Kc (ninS ne_o3_o65 nin0)
      have F_o3_position := F_o3_position.keep Kc (ninS ne_o3_o65 nin0)
      have A_o31 := A_o31.keep Kc (ninS ne_o31_o65 nin0)
      have A_o4 := A_o4.keep Kc (ninS ne_o4_o65 nin0)
      have E_o5 := E_o5.keep Kc
      have F_o5_values := F_o5_values.keep Kc (ninS ne_o5_o65 nin0)
      have F_o5_size := F_o5_size.keep Kc (ninS ne_o5_o65 nin0)
      have A_o6 := A_o6.keep Kc (ninS ne_o6_o65 nin0)
      have E_o8 := E_o8.keep Kc
      have F_o8_values := F_o8_values.keep Kc (ninS ne_o8_o65 nin0)
      have F_o8_size := F_o8_size.keep Kc (ninS ne_o8_o65 nin0)
      have A_o9 := A_o9.keep Kc (ninS ne_o9_o65 nin0)
      have E_o60 := E_o60.keep Kc
      have F_o60_values := F_o60_values.keep Kc (ninS ne_o60_o65 nin0)
      have F_o60_size := F_o60_size.keep Kc (ninS ne_o60_o65 nin0)
      have A_o61 := A_o61.keep Kc (ninS ne_o61_o65 nin0)
      have A_o66 := A_o66.keep Kc (ninS (Ne.symm ne_o65_o66) nin0)
      have E_o67 := E_o67.keep Kc
      have F_o67_values := F_o67_values.keep Kc (ninS (Ne.symm ne_o65_o67) nin0)
      have F_o67_size := F_o67_size.keep Kc (ninS (Ne.symm ne_o65_o67) nin0)
      have A_o68 := A_o68.keep Kc (ninS (Ne.symm ne_o65_o68) nin0)
      have E_o70 := E_o70.keep Kc
      have F_o70_blocks := F_o70_blocks.keep Kc (ninS (Ne.symm ne_o65_o70) nin0)
      have F_o70_size := F_o70_size.keep Kc (ninS (Ne.symm ne_o65_o70) nin0)
      have E_o71 := E_o71.keep Kc
      have A_o71 := A_o71.keep Kc (ninS (Ne.symm ne_o65_o71) nin0)
      have E_o73 := E_o73.keep Kc
      have F_o73_values := F_o73_values.keep Kc (ninS (Ne.symm ne_o65_o73) nin0)
      have F_o73_size := F_o73_size.keep Kc (ninS (Ne.symm ne_o65_o73) nin0)
      have A_o74 := A_o74.keep Kc (ninS (Ne.symm ne_o65_o74) nin0)
      have A_o76 := A_o76.keep Kc (ninS (Ne.symm ne_o65_o76) nin0)
      have A_o77 := A_o77.keep Kc (ninS (Ne.symm ne_o65_o77) nin0)
      have A_o78 := A_o78.keep Kc (ninS (Ne.symm ne_o65_o78) nin0)
      have A_o79 := A_o79.keep Kc (ninS (Ne.symm ne_o65_o79) nin0)
      have A_o80 := A_o80.keep Kc (ninS (Ne.symm ne_o65_o80) nin0)
      have A_o81 := A_o81.keep Kc (ninS (Ne.symm ne_o65_o81) nin0)
      refine Run.cast (st' := []) rfl ?_
      refine s_iload 100 C X at_98 rfl ?_
      refine s_iconst 101 C X at_100 kc_iconst_2 ?_
      refine s_icmp_lt 109 104 C X at_101 (fun c => absurd c (by decide)) (fun _ => ?_)
      refine s_aload 106 C X at_104 rfl rfl ?_
      refine s_callV 109 [] [] 0 C X at_106 (mW 155 rfl) (mW 156 rfl) (notFace_of_selects (args := #[]) (mvT C.2.1 (C.w (mW 158 rfl)))) (mW 158 rfl) (mW 157 rfl) (mW 96 rfl) (mW 159 rfl) E_o65 (rm_a198 l Z a0 hw x0 o3 o60 o65 o66 o67 o70 o73 o76 o77 o78 o79 o80 o81 ((0 : Int64) + (x0).toInt64) _ n0 X.sz E_o65 F_o65_tokens F_o65_nearestFewer F_o65_nearestUnmarked F_o65_firstNearestUnmarked F_o65_markings F_o65_parents F_o65_stepsPerMarking F_o65_searchedMarking F_o65_searchedPlaces F_o65_searchedTokens F_o65_parentPlaces F_o65_parentTokens F_o65_unmarkedRanks F_o65_searched F_o65_steps g_o65) (lenOf pd___V rfl) rfl rfl rfl (fun T v hh X q => ?_)
      obtain ⟨rfl, E_o65, F_o65_tokens, F_o65_nearestFewer, F_o65_nearestUnmarked, F_o65_firstNearestUnmarked, F_o65_markings, F_o65_parents, F_o65_stepsPerMarking, F_o65_searchedMarking, F_o65_searchedPlaces, F_o65_searchedTokens, F_o65_parentPlaces, F_o65_parentTokens, F_o65_unmarkedRanks, F_o65_searched, F_o65_steps, Kc⟩ := q
      have A_o1 := A_o1.keep Kc (ninS ne_o1_o65 nin0)
      have A_o2 := A_o2.keep Kc (ninS ne_o2_o65 nin0)
      have A_o11 := A_o11.keep Kc (ninS ne_o11_o65 nin0)
      have E_o3 := E_o3.keep Kc
      have F_o3_bytes := F_o3_bytes.keep Kc (ninS ne_o3_o65 nin0)
      have F_o3_starts := F_o3_starts.keep Kc (ninS ne_o3_o65 nin0)
      have F_o3_hashes := F_o3_hashes.keep Kc (ninS ne_o3_o65 nin0)
      have F_o3_table := F_o3_table.keep Kc (ninS ne_o3_o65 nin0)
      have F_o3_encoded := F_o3_encoded.keep Kc (ninS ne_o3_o65 nin0)
      have F_o3_encodedLength := F_o3_encodedLength.keep Kc (ninS ne_o3_o65 nin0)
      have F_o3_encodedHash := F_o3_encodedHash.keep Kc (ninS ne_o3_o65 nin0)
      have F_o3_length := F_o3_length.keep Kc (ninS ne_o3_o65 nin0)
      have F_o3_position := F_o3_position.keep Kc (ninS ne_o3_o65 nin0)
      have A_o31 := A_o31.keep Kc (ninS ne_o31_o65 nin0)
      have A_o4 := A_o4.keep Kc (ninS ne_o4_o65 nin0)
      have E_o5 := E_o5.keep Kc
      have F_o5_values := F_o5_values.keep Kc (ninS ne_o5_o65 nin0)
      have F_o5_size := F_o5_size.keep Kc (ninS ne_o5_o65 nin0)
      have A_o6 := A_o6.keep Kc (ninS ne_o6_o65 nin0)
      have E_o8 := E_o8.keep Kc
      have F_o8_values := F_o8_values.keep Kc (ninS ne_o8_o65 nin0)
      have F_o8_size := F_o8_size.keep Kc (ninS ne_o8_o65 nin0)
      have A_o9 := A_o9.keep Kc (ninS ne_o9_o65 nin0)
      have E_o60 := E_o60.keep Kc
      have F_o60_values := F_o60_values.keep Kc (ninS ne_o60_o65 nin0)
      have F_o60_size := F_o60_size.keep Kc (ninS ne_o60_o65 nin0)
      have A_o61 := A_o61.keep Kc (ninS ne_o61_o65 nin0)
      have A_o66 := A_o66.keep Kc (ninS (Ne.symm ne_o65_o66) nin0)
      have E_o67 := E_o67.keep Kc
      have F_o67_values := F_o67_values.keep Kc (ninS (Ne.symm ne_o65_o67) nin0)
      have F_o67_size := F_o67_size.keep Kc (ninS (Ne.symm ne_o65_o67) nin0)
      have A_o68 := A_o68.keep Kc (ninS (Ne.symm ne_o65_o68) nin0)
      have E_o70 := E_o70.keep Kc
      have F_o70_blocks := F_o70_blocks.keep Kc (ninS (Ne.symm ne_o65_o70) nin0)
      have F_o70_size := F_o70_size.keep Kc (ninS (Ne.symm ne_o65_o70) nin0)
      have E_o71 := E_o71.keep Kc
      have A_o71 := A_o71.keep Kc (ninS (Ne.symm ne_o65_o71) nin0)
      have E_o73 := E_o73.keep Kc
      have F_o73_values := F_o73_values.keep Kc (ninS (Ne.symm ne_o65_o73) nin0)
      have F_o73_size := F_o73_size.keep Kc (ninS (Ne.symm ne_o65_o73) nin0)
      have A_o74 := A_o74.keep Kc (ninS (Ne.symm ne_o65_o74) nin0)
      have A_o76 := A_o76.keep Kc (ninS (Ne.symm ne_o65_o76) nin0)
      have A_o77 := A_o77.keep Kc (ninS (Ne.symm ne_o65_o77) nin0)
      have A_o78 := A_o78.keep Kc (ninS (Ne.symm ne_o65_o78) nin0)
      have A_o79 := A_o79.keep Kc (ninS (Ne.symm ne_o65_o79) nin0)
      have A_o80 := A_o80.keep Kc (ninS (Ne.symm ne_o65_o80) nin0)
      have A_o81 := A_o81.keep Kc (ninS (Ne.symm ne_o65_o81) nin0)
      refine Run.cast (st' := []) rfl ?_
      refine s_iload 111 C X at_109 rfl ?_
      refine s_i2l 112 C X at_111 ?_
      refine Run.cast (st' := [(.long (2 : Int64))]) (by rw [kf_46]) ?_
      refine s_iloadN 113 C X at_112 rfl ?_
      refine s_i2l 114 C X at_113 ?_
      refine s_lmul 115 C X at_114 ?_
      refine s_lstore 117 C X (l' := #[.val (.int x0), .val (.int x1), .val (.int x2), .val (.ref o1), .val (.ref o2), .val (.int (2 : Int32)), .val (.int mm), .val (.ref o3), .val (.ref o60), .val (.ref o65), .val (.long ((2 : Int64) * (x0).toInt64)), .second, .unset, .unset, .unset, .unset, .unset, .unset, .unset, .unset, .unset]) at_115 rfl ?_
      obtain ⟨stp, e_stp⟩ : ∃ zz_ : Int64, zz_ = (((0 : Int64) + (x0).toInt64) + (x0).toInt64) := ⟨_, rfl⟩
      rw [← e_stp] at F_o65_steps
      obtain ⟨hst, hee⟩ : stp.toInt = 2 * x0.toInt ∧ (((2 : Int64) * (x0).toInt64)).toInt = 2 * x0.toInt := by
        subst e_stp
        have kl0 : (0 : Int64).toInt = 0 := by decide
        have kl1 := c_i2l x0
        have kl2 := rng32 x0
        have kl3 : (((0 : Int64) + (x0).toInt64)).toInt = ((0 : Int64)).toInt + ((x0).toInt64).toInt := by have u := c_ladd (0 : Int64) (x0).toInt64; have r := rng64 ((0 : Int64) + (x0).toInt64); omega
        have kl4 : ((((0 : Int64) + (x0).toInt64) + (x0).toInt64)).toInt = (((0 : Int64) + (x0).toInt64)).toInt + ((x0).toInt64).toInt := by have u := c_ladd ((0 : Int64) + (x0).toInt64) (x0).toInt64; have r := rng64 (((0 : Int64) + (x0).toInt64) + (x0).toInt64); omega
        have kl5 : (2 : Int64).toInt = 2 := by decide
        have kl6 := c_lmul (2 : Int64) (x0).toInt64
        rw [(by decide : (2 : Int64).toInt = 2)] at kl6
        have kl8 := rng64 ((2 : Int64) * (x0).toInt64)
        omega
      have hx0 := rng32 x0
      refine s_aload 119 C X at_117 rfl rfl ?_
      refine s_callV 122 [] [] 0 C X at_119 (mW 140 rfl) (mW 141 rfl) (notFace_of_selects (args := #[]) (mvT C.2.1 (C.w (mW 143 rfl)))) (mW 143 rfl) (mW 142 rfl) (mW 96 rfl) (mW 144 rfl) E_o65 (rm_a188 l Z a0 hw x0 o3 o4 o5 k_o4 o6 k_o6 o8 o11 o31 o60 o61 k_o61 o65 o66 o67 k_o66 o68 k_o68 o70 o71 k_o71 o73 o74 k_o74 o76 o77 o78 o79 o80 o81 k_o76 k_o77 k_o78 (stp) _ n0 X.sz E_o3 F_o3_bytes F_o3_starts F_o3_hashes F_o3_table F_o3_encoded F_o3_encodedLength F_o3_encodedHash F_o3_length F_o3_position A_o4 E_o5 F_o5_values F_o5_size A_o6 E_o60 F_o60_values A_o61 E_o65 F_o65_tokens F_o65_nearestFewer F_o65_nearestUnmarked F_o65_firstNearestUnmarked F_o65_markings F_o65_parents F_o65_stepsPerMarking F_o65_searchedMarking F_o65_searchedPlaces F_o65_searchedTokens F_o65_parentPlaces F_o65_parentTokens F_o65_unmarkedRanks F_o65_searched F_o65_steps A_o66 E_o67 F_o67_values F_o67_size A_o68 E_o70 F_o70_blocks F_o70_size E_o71 A_o71 E_o73 F_o73_values F_o73_size A_o74 A_o76 A_o77 A_o78 g_o3 ne_o3_o4 ne_o3_o5 ne_o3_o6 ne_o3_o60 ne_o3_o61 ne_o3_o65 ne_o4_o65 ne_o5_o65 ne_o6_o65 ne_o60_o65 ne_o61_o65 g_o65 ne_o3_o66 ne_o4_o66 ne_o5_o66 ne_o6_o66 ne_o60_o66 ne_o61_o66 g_o66 ne_o3_o67 ne_o4_o67 ne_o5_o67 ne_o6_o67 ne_o60_o67 ne_o61_o67 g_o67 ne_o3_o68 ne_o4_o68 ne_o5_o68 ne_o6_o68 ne_o60_o68 ne_o61_o68 g_o68 ne_o3_o70 ne_o4_o70 ne_o5_o70 ne_o6_o70 ne_o60_o70 ne_o61_o70 g_o70 ne_o3_o71 ne_o4_o71 ne_o5_o71 ne_o6_o71 ne_o60_o71 ne_o61_o71 g_o71 ne_o3_o73 ne_o4_o73 ne_o5_o73 ne_o6_o73 ne_o60_o73 ne_o61_o73 g_o73 ne_o3_o74 ne_o4_o74 ne_o5_o74 ne_o6_o74 ne_o60_o74 ne_o61_o74 g_o74 ne_o3_o76 ne_o4_o76 ne_o5_o76 ne_o6_o76 ne_o60_o76 ne_o61_o76 g_o76 ne_o3_o77 ne_o4_o77 ne_o5_o77 ne_o6_o77 ne_o60_o77 ne_o61_o77 g_o77 ne_o3_o78 ne_o4_o78 ne_o5_o78 ne_o6_o78 ne_o60_o78 ne_o61_o78 g_o78 ne_o65_o66 ne_o65_o67 ne_o66_o67 ne_o65_o68 ne_o66_o68 ne_o67_o68 ne_o65_o70 ne_o66_o70 ne_o67_o70 ne_o68_o70 ne_o65_o71 ne_o66_o71 ne_o67_o71 ne_o68_o71 ne_o70_o71 O_o71 ne_o65_o73 ne_o66_o73 ne_o67_o73 ne_o68_o73 ne_o70_o73 ne_o71_o73 ne_o65_o74 ne_o66_o74 ne_o67_o74 ne_o68_o74 ne_o70_o74 ne_o71_o74 ne_o73_o74 ne_o65_o76 ne_o66_o76 ne_o67_o76 ne_o68_o76 ne_o70_o76 ne_o71_o76 ne_o73_o76 ne_o74_o76 ne_o65_o77 ne_o66_o77 ne_o67_o77 ne_o68_o77 ne_o70_o77 ne_o71_o77 ne_o73_o77 ne_o74_o77 ne_o76_o77 ne_o65_o78 ne_o66_o78 ne_o67_o78 ne_o68_o78 ne_o70_o78 ne_o71_o78 ne_o73_o78 ne_o74_o78 ne_o76_o78 ne_o77_o78) (lenOf pd___I rfl) rfl rfl rfl (fun T v hh X q => ?_)
      obtain ⟨rfl, c20_146, E_o3, F_o3_bytes, F_o3_starts, F_o3_hashes, F_o3_table, F_o3_encoded, F_o3_encodedLength, F_o3_encodedHash, F_o3_length, F_o3_position, E_o65, F_o65_tokens, F_o65_nearestFewer, F_o65_nearestUnmarked, F_o65_firstNearestUnmarked, F_o65_markings, F_o65_parents, F_o65_stepsPerMarking, F_o65_searchedMarking, F_o65_searchedPlaces, F_o65_searchedTokens, F_o65_parentPlaces, F_o65_parentTokens, F_o65_unmarkedRanks, F_o65_searched, F_o65_steps, A_o66, E_o67, F_o67_values, F_o67_size, A_o68, E_o70, F_o70_blocks, F_o70_size, E_o71, A_o71, E_o73, F_o73_values, F_o73_size, A_o74, A_o76, A_o77, A_o78, Kc⟩ | ⟨o181, k_o181, rfl, c20_146, E_o65, F_o65_tokens, F_o65_nearestFewer, F_o65_nearestUnmarked, F_o65_firstNearestUnmarked, F_o65_markings, F_o65_parents, F_o65_stepsPerMarking, F_o65_searchedMarking, F_o65_searchedPlaces, F_o65_searchedTokens, F_o65_parentPlaces, F_o65_parentTokens, F_o65_unmarkedRanks, F_o65_searched, F_o65_steps, A_o66, A_o76, Kc, A_o77, A_o78, E_o3, F_o3_bytes, F_o3_starts, F_o3_hashes, F_o3_table, F_o3_encoded, F_o3_encodedLength, F_o3_encodedHash, F_o3_length, F_o3_position, E_o67, F_o67_values, F_o67_size, A_o68, E_o73, F_o73_values, F_o73_size, A_o74, E_o70, F_o70_blocks, F_o70_size, E_o71, A_o71, E_o181, A_o181, ne_o65_o181, ne_o66_o181, ne_o76_o181, ne_o77_o181, ne_o78_o181, ne_o3_o181, ne_o67_o181, ne_o68_o181, sz_o181', g_o181, ne_o73_o181, ne_o74_o181, ne_o70_o181, ne_o71_o181⟩ := q
      · have nn_o5 : o5 ∉ [o65, o66, o67, o70, o73, o3, o76, o77, o78, o68, o71, o74] := (ninS ne_o5_o65 (ninS ne_o5_o66 (ninS ne_o5_o67 (ninS ne_o5_o70 (ninS ne_o5_o73 (ninS (Ne.symm ne_o3_o5) (ninS ne_o5_o76 (ninS ne_o5_o77 (ninS ne_o5_o78 (ninS ne_o5_o68 (ninS ne_o5_o71 (ninS ne_o5_o74 nin0))))))))))))
        have nn_o8 : o8 ∉ [o65, o66, o67, o70, o73, o3, o76, o77, o78, o68, o71, o74] := (ninS ne_o8_o65 (ninS ne_o8_o66 (ninS ne_o8_o67 (ninS ne_o8_o70 (ninS ne_o8_o73 (ninS (Ne.symm ne_o3_o8) (ninS ne_o8_o76 (ninS ne_o8_o77 (ninS ne_o8_o78 (ninS ne_o8_o68 (ninS ne_o8_o71 (ninS ne_o8_o74 nin0))))))))))))
        have nn_o60 : o60 ∉ [o65, o66, o67, o70, o73, o3, o76, o77, o78, o68, o71, o74] := (ninS ne_o60_o65 (ninS ne_o60_o66 (ninS ne_o60_o67 (ninS ne_o60_o70 (ninS ne_o60_o73 (ninS (Ne.symm ne_o3_o60) (ninS ne_o60_o76 (ninS ne_o60_o77 (ninS ne_o60_o78 (ninS ne_o60_o68 (ninS ne_o60_o71 (ninS ne_o60_o74 nin0))))))))))))
        have A_o1 := A_o1.keep Kc (ninS ne_o1_o65 (ninS ne_o1_o66 (ninS ne_o1_o67 (ninS ne_o1_o70 (ninS ne_o1_o73 (ninS ne_o1_o3 (ninS ne_o1_o76 (ninS ne_o1_o77 (ninS ne_o1_o78 (ninS ne_o1_o68 (ninS ne_o1_o71 (ninS ne_o1_o74 nin0))))))))))))
        have A_o2 := A_o2.keep Kc (ninS ne_o2_o65 (ninS ne_o2_o66 (ninS ne_o2_o67 (ninS ne_o2_o70 (ninS ne_o2_o73 (ninS ne_o2_o3 (ninS ne_o2_o76 (ninS ne_o2_o77 (ninS ne_o2_o78 (ninS ne_o2_o68 (ninS ne_o2_o71 (ninS ne_o2_o74 nin0))))))))))))
        have A_o11 := A_o11.keep Kc (ninS ne_o11_o65 (ninS ne_o11_o66 (ninS ne_o11_o67 (ninS ne_o11_o70 (ninS ne_o11_o73 (ninS (Ne.symm ne_o3_o11) (ninS ne_o11_o76 (ninS ne_o11_o77 (ninS ne_o11_o78 (ninS ne_o11_o68 (ninS ne_o11_o71 (ninS ne_o11_o74 nin0))))))))))))
        have A_o31 := A_o31.keep Kc (ninS ne_o31_o65 (ninS ne_o31_o66 (ninS ne_o31_o67 (ninS ne_o31_o70 (ninS ne_o31_o73 (ninS (Ne.symm ne_o3_o31) (ninS ne_o31_o76 (ninS ne_o31_o77 (ninS ne_o31_o78 (ninS ne_o31_o68 (ninS ne_o31_o71 (ninS ne_o31_o74 nin0))))))))))))
        have A_o4 := A_o4.keep Kc (ninS ne_o4_o65 (ninS ne_o4_o66 (ninS ne_o4_o67 (ninS ne_o4_o70 (ninS ne_o4_o73 (ninS (Ne.symm ne_o3_o4) (ninS ne_o4_o76 (ninS ne_o4_o77 (ninS ne_o4_o78 (ninS ne_o4_o68 (ninS ne_o4_o71 (ninS ne_o4_o74 nin0))))))))))))
        have E_o5 := E_o5.keep Kc
        have F_o5_values := F_o5_values.keep Kc nn_o5
        have F_o5_size := F_o5_size.keep Kc nn_o5
        have A_o6 := A_o6.keep Kc (ninS ne_o6_o65 (ninS ne_o6_o66 (ninS ne_o6_o67 (ninS ne_o6_o70 (ninS ne_o6_o73 (ninS (Ne.symm ne_o3_o6) (ninS ne_o6_o76 (ninS ne_o6_o77 (ninS ne_o6_o78 (ninS ne_o6_o68 (ninS ne_o6_o71 (ninS ne_o6_o74 nin0))))))))))))
        have E_o8 := E_o8.keep Kc
        have F_o8_values := F_o8_values.keep Kc nn_o8
        have F_o8_size := F_o8_size.keep Kc nn_o8
        have A_o9 := A_o9.keep Kc (ninS ne_o9_o65 (ninS ne_o9_o66 (ninS ne_o9_o67 (ninS ne_o9_o70 (ninS ne_o9_o73 (ninS (Ne.symm ne_o3_o9) (ninS ne_o9_o76 (ninS ne_o9_o77 (ninS ne_o9_o78 (ninS ne_o9_o68 (ninS ne_o9_o71 (ninS ne_o9_o74 nin0))))))))))))
        have E_o60 := E_o60.keep Kc
        have F_o60_values := F_o60_values.keep Kc nn_o60
        have F_o60_size := F_o60_size.keep Kc nn_o60
        have A_o61 := A_o61.keep Kc (ninS ne_o61_o65 (ninS ne_o61_o66 (ninS ne_o61_o67 (ninS ne_o61_o70 (ninS ne_o61_o73 (ninS (Ne.symm ne_o3_o61) (ninS ne_o61_o76 (ninS ne_o61_o77 (ninS ne_o61_o78 (ninS ne_o61_o68 (ninS ne_o61_o71 (ninS ne_o61_o74 nin0))))))))))))
        have A_o79 := A_o79.keep Kc (ninS (Ne.symm ne_o65_o79) (ninS (Ne.symm ne_o66_o79) (ninS (Ne.symm ne_o67_o79) (ninS (Ne.symm ne_o70_o79) (ninS (Ne.symm ne_o73_o79) (ninS (Ne.symm ne_o3_o79) (ninS (Ne.symm ne_o76_o79) (ninS (Ne.symm ne_o77_o79) (ninS (Ne.symm ne_o78_o79) (ninS (Ne.symm ne_o68_o79) (ninS (Ne.symm ne_o71_o79) (ninS (Ne.symm ne_o74_o79) nin0))))))))))))
        have A_o80 := A_o80.keep Kc (ninS (Ne.symm ne_o65_o80) (ninS (Ne.symm ne_o66_o80) (ninS (Ne.symm ne_o67_o80) (ninS (Ne.symm ne_o70_o80) (ninS (Ne.symm ne_o73_o80) (ninS (Ne.symm ne_o3_o80) (ninS (Ne.symm ne_o76_o80) (ninS (Ne.symm ne_o77_o80) (ninS (Ne.symm ne_o78_o80) (ninS (Ne.symm ne_o68_o80) (ninS (Ne.symm ne_o71_o80) (ninS (Ne.symm ne_o74_o80) nin0))))))))))))
        have A_o81 := A_o81.keep Kc (ninS (Ne.symm ne_o65_o81) (ninS (Ne.symm ne_o66_o81) (ninS (Ne.symm ne_o67_o81) (ninS (Ne.symm ne_o70_o81) (ninS (Ne.symm ne_o73_o81) (ninS (Ne.symm ne_o3_o81) (ninS (Ne.symm ne_o76_o81) (ninS (Ne.symm ne_o77_o81) (ninS (Ne.symm ne_o78_o81) (ninS (Ne.symm ne_o68_o81) (ninS (Ne.symm ne_o71_o81) (ninS (Ne.symm ne_o74_o81) nin0))))))))))))
        have t_c20_146 : ¬ ((0 : Int) < (stp).toInt) := fun q => c20_146 (cl_gt.mpr q)
        refine Run.cast (st' := [(.int (-1 : Int32))]) rfl ?_
        refine s_istore 124 C X (l' := #[.val (.int x0), .val (.int x1), .val (.int x2), .val (.ref o1), .val (.ref o2), .val (.int (2 : Int32)), .val (.int mm), .val (.ref o3), .val (.ref o60), .val (.ref o65), .val (.long ((2 : Int64) * (x0).toInt64)), .second, .val (.int (-1 : Int32)), .unset, .unset, .unset, .unset, .unset, .unset, .unset, .unset]) at_122 rfl ?_
        refine s_aload 126 C X at_124 rfl rfl ?_
        refine s_aload 128 C X at_126 rfl rfl ?_
        refine s_iconst 129 C X at_128 kc_iconst_0 ?_
        refine s_callV 132 [(.ref o2), (.int (0 : Int32))] [] 0 C X at_129 (mW 150 rfl) (mW 151 rfl) (notFace_of_selects (args := #[]) (mvT C.2.1 (C.w (mW 153 rfl)))) (mW 153 rfl) (mW 152 rfl) (mW 96 rfl) (mW 154 rfl) E_o65 (rm_a192 l Z a0 hw o2 o3 o5 o65 _ n0 X.sz E_o5 F_o5_size E_o3 F_o3_starts F_o65_markings F_o65_searched) (lenOf pd___JI_Z rfl) rfl rfl rfl (fun T v hh X q => ?_)
        obtain ⟨rfl, Kc⟩ := q
        have A_o1 := A_o1.keep Kc nin0
        have A_o2 := A_o2.keep Kc nin0
        have A_o11 := A_o11.keep Kc nin0
        have A_o31 := A_o31.keep Kc nin0
        have A_o4 := A_o4.keep Kc nin0
        have E_o5 := E_o5.keep Kc
        have F_o5_values := F_o5_values.keep Kc nin0
        have F_o5_size := F_o5_size.keep Kc nin0
        have A_o6 := A_o6.keep Kc nin0
        have E_o8 := E_o8.keep Kc
        have F_o8_values := F_o8_values.keep Kc nin0
        have F_o8_size := F_o8_size.keep Kc nin0
        have A_o9 := A_o9.keep Kc nin0
        have E_o60 := E_o60.keep Kc
        have F_o60_values := F_o60_values.keep Kc nin0
        have F_o60_size := F_o60_size.keep Kc nin0
        have A_o61 := A_o61.keep Kc nin0
        have A_o79 := A_o79.keep Kc nin0
        have A_o80 := A_o80.keep Kc nin0
        have A_o81 := A_o81.keep Kc nin0
        have E_o3 := E_o3.keep Kc
        have F_o3_bytes := F_o3_bytes.keep Kc nin0
        have F_o3_starts := F_o3_starts.keep Kc nin0
        have F_o3_hashes := F_o3_hashes.keep Kc nin0
        have F_o3_table := F_o3_table.keep Kc nin0
        have F_o3_encoded := F_o3_encoded.keep Kc nin0
        have F_o3_encodedLength := F_o3_encodedLength.keep Kc nin0
        have F_o3_encodedHash := F_o3_encodedHash.keep Kc nin0
        have F_o3_length := F_o3_length.keep Kc nin0
        have F_o3_position := F_o3_position.keep Kc nin0
        have E_o65 := E_o65.keep Kc
        have F_o65_tokens := F_o65_tokens.keep Kc nin0
        have F_o65_nearestFewer := F_o65_nearestFewer.keep Kc nin0
        have F_o65_nearestUnmarked := F_o65_nearestUnmarked.keep Kc nin0
        have F_o65_firstNearestUnmarked := F_o65_firstNearestUnmarked.keep Kc nin0
        have F_o65_markings := F_o65_markings.keep Kc nin0
        have F_o65_parents := F_o65_parents.keep Kc nin0
        have F_o65_stepsPerMarking := F_o65_stepsPerMarking.keep Kc nin0
        have F_o65_searchedMarking := F_o65_searchedMarking.keep Kc nin0
        have F_o65_searchedPlaces := F_o65_searchedPlaces.keep Kc nin0
        have F_o65_searchedTokens := F_o65_searchedTokens.keep Kc nin0
        have F_o65_parentPlaces := F_o65_parentPlaces.keep Kc nin0
        have F_o65_parentTokens := F_o65_parentTokens.keep Kc nin0
        have F_o65_unmarkedRanks := F_o65_unmarkedRanks.keep Kc nin0
        have F_o65_searched := F_o65_searched.keep Kc nin0
        have F_o65_steps := F_o65_steps.keep Kc nin0
        have A_o66 := A_o66.keep Kc nin0
        have E_o67 := E_o67.keep Kc
        have F_o67_values := F_o67_values.keep Kc nin0
        have F_o67_size := F_o67_size.keep Kc nin0
        have A_o68 := A_o68.keep Kc nin0
        have E_o70 := E_o70.keep Kc
        have F_o70_blocks := F_o70_blocks.keep Kc nin0
        have F_o70_size := F_o70_size.keep Kc nin0
        have E_o71 := E_o71.keep Kc
        have A_o71 := A_o71.keep Kc nin0
        have E_o73 := E_o73.keep Kc
        have F_o73_values := F_o73_values.keep Kc nin0
        have F_o73_size := F_o73_size.keep Kc nin0
        have A_o74 := A_o74.keep Kc nin0
        have A_o76 := A_o76.keep Kc nin0
        have A_o77 := A_o77.keep Kc nin0
        have A_o78 := A_o78.keep Kc nin0
        refine Run.cast (st' := [(.int (0 : Int32))]) rfl ?_
        refine s_istore 134 C X (l' := #[.val (.int x0), .val (.int x1), .val (.int x2), .val (.ref o1), .val (.ref o2), .val (.int (2 : Int32)), .val (.int mm), .val (.ref o3), .val (.ref o60), .val (.ref o65), .val (.long ((2 : Int64) * (x0).toInt64)), .second, .val (.int (-1 : Int32)), .val (.int (0 : Int32)), .unset, .unset, .unset, .unset, .unset, .unset, .unset]) at_132 rfl ?_
        refine s_iload 136 C X at_134 rfl ?_
        refine s_if_eq 144 139 C X at_136 (fun c136_678 => ?_) (fun c136_678 => ?_)
        · have t_c136_678 : (mm).toInt = (0 : Int) := congrArg Int32.toInt c136_678
          refine s_aload 146 C X at_144 rfl rfl ?_
          refine s_aload 148 C X at_146 rfl rfl ?_
          refine s_iconst 149 C X at_148 kc_iconst_0 ?_
          refine s_callV 152 [(.ref o2), (.int (0 : Int32))] [] 0 C X at_149 (mW 150 rfl) (mW 151 rfl) (notFace_of_selects (args := #[]) (mvT C.2.1 (C.w (mW 153 rfl)))) (mW 153 rfl) (mW 152 rfl) (mW 96 rfl) (mW 154 rfl) E_o65 (rm_a192 l Z a0 hw o2 o3 o5 o65 _ n0 X.sz E_o5 F_o5_size E_o3 F_o3_starts F_o65_markings F_o65_searched) (lenOf pd___JI_Z rfl) rfl rfl rfl (fun T v hh X q => ?_)
          obtain ⟨rfl, Kc⟩ := q
          refine Run.cast (st' := [(.int (0 : Int32))]) rfl ?_
          refine s_istore 154 C X (l' := #[.val (.int x0), .val (.int x1), .val (.int x2), .val (.ref o1), .val (.ref o2), .val (.int (2 : Int32)), .val (.int mm), .val (.ref o3), .val (.ref o60), .val (.ref o65), .val (.long ((2 : Int64) * (x0).toInt64)), .second, .val (.int (-1 : Int32)), .val (.int (0 : Int32)), .val (.int (0 : Int32)), .unset, .unset, .unset, .unset, .unset, .unset]) at_152 rfl ?_
          have kl0 : (0 : Int64).toInt = 0 := by decide
          exact TL T _ _ _ X _ _ _ _ _ (by decide) (by decide) (by omega) (Or.inl ⟨c136_678, rfl⟩) (Or.inr (Or.inr ⟨by omega, rfl, rfl⟩))
        have t_c136_678 : ¬ ((mm).toInt = (0 : Int)) := fun q => c136_678 (Int32.toInt_inj.mp q)
        refine s_aload 141 C X at_139 rfl rfl ?_
        refine s_callV 144 [] [] 0 C X at_141 (mW 155 rfl) (mW 156 rfl) (notFace_of_selects (args := #[]) (mvT C.2.1 (C.w (mW 158 rfl)))) (mW 158 rfl) (mW 157 rfl) (mW 96 rfl) (mW 159 rfl) E_o65 (rm_a198 l Z a0 hw x0 o3 o60 o65 o66 o67 o70 o73 o76 o77 o78 o79 o80 o81 (stp) _ n0 X.sz E_o65 F_o65_tokens F_o65_nearestFewer F_o65_nearestUnmarked F_o65_firstNearestUnmarked F_o65_markings F_o65_parents F_o65_stepsPerMarking F_o65_searchedMarking F_o65_searchedPlaces F_o65_searchedTokens F_o65_parentPlaces F_o65_parentTokens F_o65_unmarkedRanks F_o65_searched F_o65_steps g_o65) (lenOf pd___V rfl) rfl rfl rfl (fun T v hh X q => ?_)
        obtain ⟨rfl, E_o65, F_o65_tokens, F_o65_nearestFewer, F_o65_nearestUnmarked, F_o65_firstNearestUnmarked, F_o65_markings, F_o65_parents, F_o65_stepsPerMarking, F_o65_searchedMarking, F_o65_searchedPlaces, F_o65_searchedTokens, F_o65_parentPlaces, F_o65_parentTokens, F_o65_unmarkedRanks, F_o65_searched, F_o65_steps, Kc⟩ := q
        have A_o1 := A_o1.keep Kc (ninS ne_o1_o65 nin0)
        have A_o2 := A_o2.keep Kc (ninS ne_o2_o65 nin0)
        have A_o11 := A_o11.keep Kc (ninS ne_o11_o65 nin0)
        have A_o31 := A_o31.keep Kc (ninS ne_o31_o65 nin0)
        have A_o4 := A_o4.keep Kc (ninS ne_o4_o65 nin0)
        have E_o5 := E_o5.keep Kc
        have F_o5_values := F_o5_values.keep Kc (ninS ne_o5_o65 nin0)
        have F_o5_size := F_o5_size.keep Kc (ninS ne_o5_o65 nin0)
        have A_o6 := A_o6.keep Kc (ninS ne_o6_o65 nin0)
        have E_o8 := E_o8.keep Kc
        have F_o8_values := F_o8_values.keep Kc (ninS ne_o8_o65 nin0)
        have F_o8_size := F_o8_size.keep Kc (ninS ne_o8_o65 nin0)
        have A_o9 := A_o9.keep Kc (ninS ne_o9_o65 nin0)
        have E_o60 := E_o60.keep Kc
        have F_o60_values := F_o60_values.keep Kc (ninS ne_o60_o65 nin0)
        have F_o60_size := F_o60_size.keep Kc (ninS ne_o60_o65 nin0)
        have A_o61 := A_o61.keep Kc (ninS ne_o61_o65 nin0)
        have A_o79 := A_o79.keep Kc (ninS (Ne.symm ne_o65_o79) nin0)
        have A_o80 := A_o80.keep Kc (ninS (Ne.symm ne_o65_o80) nin0)
        have A_o81 := A_o81.keep Kc (ninS (Ne.symm ne_o65_o81) nin0)
        have E_o3 := E_o3.keep Kc
        have F_o3_bytes := F_o3_bytes.keep Kc (ninS ne_o3_o65 nin0)
        have F_o3_starts := F_o3_starts.keep Kc (ninS ne_o3_o65 nin0)
        have F_o3_hashes := F_o3_hashes.keep Kc (ninS ne_o3_o65 nin0)
        have F_o3_table := F_o3_table.keep Kc (ninS ne_o3_o65 nin0)
        have F_o3_encoded := F_o3_encoded.keep Kc (ninS ne_o3_o65 nin0)
        have F_o3_encodedLength := F_o3_encodedLength.keep Kc (ninS ne_o3_o65 nin0)
        have F_o3_encodedHash := F_o3_encodedHash.keep Kc (ninS ne_o3_o65 nin0)
        have F_o3_length := F_o3_length.keep Kc (ninS ne_o3_o65 nin0)
        have F_o3_position := F_o3_position.keep Kc (ninS ne_o3_o65 nin0)
        have A_o66 := A_o66.keep Kc (ninS (Ne.symm ne_o65_o66) nin0)
        have E_o67 := E_o67.keep Kc
        have F_o67_values := F_o67_values.keep Kc (ninS (Ne.symm ne_o65_o67) nin0)
        have F_o67_size := F_o67_size.keep Kc (ninS (Ne.symm ne_o65_o67) nin0)
        have A_o68 := A_o68.keep Kc (ninS (Ne.symm ne_o65_o68) nin0)
        have E_o70 := E_o70.keep Kc
        have F_o70_blocks := F_o70_blocks.keep Kc (ninS (Ne.symm ne_o65_o70) nin0)
        have F_o70_size := F_o70_size.keep Kc (ninS (Ne.symm ne_o65_o70) nin0)
        have E_o71 := E_o71.keep Kc
        have A_o71 := A_o71.keep Kc (ninS (Ne.symm ne_o65_o71) nin0)
        have E_o73 := E_o73.keep Kc
        have F_o73_values := F_o73_values.keep Kc (ninS (Ne.symm ne_o65_o73) nin0)
        have F_o73_size := F_o73_size.keep Kc (ninS (Ne.symm ne_o65_o73) nin0)
        have A_o74 := A_o74.keep Kc (ninS (Ne.symm ne_o65_o74) nin0)
        have A_o76 := A_o76.keep Kc (ninS (Ne.symm ne_o65_o76) nin0)
        have A_o77 := A_o77.keep Kc (ninS (Ne.symm ne_o65_o77) nin0)
        have A_o78 := A_o78.keep Kc (ninS (Ne.symm ne_o65_o78) nin0)
        refine Run.cast (st' := []) rfl ?_
        refine s_aload 146 C X at_144 rfl rfl ?_
        refine s_aload 148 C X at_146 rfl rfl ?_
        refine s_iconst 149 C X at_148 kc_iconst_0 ?_
        refine s_callV 152 [(.ref o2), (.int (0 : Int32))] [] 0 C X at_149 (mW 150 rfl) (mW 151 rfl) (notFace_of_selects (args := #[]) (mvT C.2.1 (C.w (mW 153 rfl)))) (mW 153 rfl) (mW 152 rfl) (mW 96 rfl) (mW 154 rfl) E_o65 (rm_a192 l Z a0 hw o2 o3 o5 o65 _ n0 X.sz E_o5 F_o5_size E_o3 F_o3_starts F_o65_markings F_o65_searched) (lenOf pd___JI_Z rfl) rfl rfl rfl (fun T v hh X q => ?_)
        obtain ⟨rfl, Kc⟩ := q
        refine Run.cast (st' := [(.int (0 : Int32))]) rfl ?_
        refine s_istore 154 C X (l' := #[.val (.int x0), .val (.int x1), .val (.int x2), .val (.ref o1), .val (.ref o2), .val (.int (2 : Int32)), .val (.int mm), .val (.ref o3), .val (.ref o60), .val (.ref o65), .val (.long ((2 : Int64) * (x0).toInt64)), .second, .val (.int (-1 : Int32)), .val (.int (0 : Int32)), .val (.int (0 : Int32)), .unset, .unset, .unset, .unset, .unset, .unset]) at_152 rfl ?_
        have kl0 : (0 : Int64).toInt = 0 := by decide
        exact TL T _ _ _ X _ _ _ _ _ (by decide) (by decide) (by omega) (Or.inr ⟨hm.resolve_left c136_678, rfl⟩) (Or.inr (Or.inr ⟨by omega, rfl, rfl⟩))
      · have ne_o1_o181 : o1 ≠ o181 := Nat.ne_of_lt (Nat.lt_of_lt_of_le A_o1.lt sz_o181')
        have ne_o2_o181 : o2 ≠ o181 := Nat.ne_of_lt (Nat.lt_of_lt_of_le A_o2.lt sz_o181')
        have ne_o11_o181 : o11 ≠ o181 := Nat.ne_of_lt (Nat.lt_of_lt_of_le A_o11.lt sz_o181')
        have ne_o31_o181 : o31 ≠ o181 := Nat.ne_of_lt (Nat.lt_of_lt_of_le A_o31.lt sz_o181')
        have ne_o4_o181 : o4 ≠ o181 := Nat.ne_of_lt (Nat.lt_of_lt_of_le A_o4.lt sz_o181')
        have ne_o5_o181 : o5 ≠ o181 := Nat.ne_of_lt (Nat.lt_of_lt_of_le E_o5.lt sz_o181')
        have ne_o6_o181 : o6 ≠ o181 := Nat.ne_of_lt (Nat.lt_of_lt_of_le A_o6.lt sz_o181')
        have ne_o8_o181 : o8 ≠ o181 := Nat.ne_of_lt (Nat.lt_of_lt_of_le E_o8.lt sz_o181')
        have ne_o9_o181 : o9 ≠ o181 := Nat.ne_of_lt (Nat.lt_of_lt_of_le A_o9.lt sz_o181')
        have ne_o60_o181 : o60 ≠ o181 := Nat.ne_of_lt (Nat.lt_of_lt_of_le E_o60.lt sz_o181')
        have ne_o61_o181 : o61 ≠ o181 := Nat.ne_of_lt (Nat.lt_of_lt_of_le A_o61.lt sz_o181')
        have ne_o79_o181 : o79 ≠ o181 := Nat.ne_of_lt (Nat.lt_of_lt_of_le A_o79.lt sz_o181')
        have ne_o80_o181 : o80 ≠ o181 := Nat.ne_of_lt (Nat.lt_of_lt_of_le A_o80.lt sz_o181')
        have ne_o81_o181 : o81 ≠ o181 := Nat.ne_of_lt (Nat.lt_of_lt_of_le A_o81.lt sz_o181')
        have nn_o5 : o5 ∉ [o65, o66, o67, o70, o73, o3, o76, o77, o78, o68, o71, o74] := (ninS ne_o5_o65 (ninS ne_o5_o66 (ninS ne_o5_o67 (ninS ne_o5_o70 (ninS ne_o5_o73 (ninS (Ne.symm ne_o3_o5) (ninS ne_o5_o76 (ninS ne_o5_o77 (ninS ne_o5_o78 (ninS ne_o5_o68 (ninS ne_o5_o71 (ninS ne_o5_o74 nin0))))))))))))
        have nn_o8 : o8 ∉ [o65, o66, o67, o70, o73, o3, o76, o77, o78, o68, o71, o74] := (ninS ne_o8_o65 (ninS ne_o8_o66 (ninS ne_o8_o67 (ninS ne_o8_o70 (ninS ne_o8_o73 (ninS (Ne.symm ne_o3_o8) (ninS ne_o8_o76 (ninS ne_o8_o77 (ninS ne_o8_o78 (ninS ne_o8_o68 (ninS ne_o8_o71 (ninS ne_o8_o74 nin0))))))))))))
        have nn_o60 : o60 ∉ [o65, o66, o67, o70, o73, o3, o76, o77, o78, o68, o71, o74] := (ninS ne_o60_o65 (ninS ne_o60_o66 (ninS ne_o60_o67 (ninS ne_o60_o70 (ninS ne_o60_o73 (ninS (Ne.symm ne_o3_o60) (ninS ne_o60_o76 (ninS ne_o60_o77 (ninS ne_o60_o78 (ninS ne_o60_o68 (ninS ne_o60_o71 (ninS ne_o60_o74 nin0))))))))))))
        have A_o1 := A_o1.keep Kc (ninS ne_o1_o65 (ninS ne_o1_o66 (ninS ne_o1_o67 (ninS ne_o1_o70 (ninS ne_o1_o73 (ninS ne_o1_o3 (ninS ne_o1_o76 (ninS ne_o1_o77 (ninS ne_o1_o78 (ninS ne_o1_o68 (ninS ne_o1_o71 (ninS ne_o1_o74 nin0))))))))))))
        have A_o2 := A_o2.keep Kc (ninS ne_o2_o65 (ninS ne_o2_o66 (ninS ne_o2_o67 (ninS ne_o2_o70 (ninS ne_o2_o73 (ninS ne_o2_o3 (ninS ne_o2_o76 (ninS ne_o2_o77 (ninS ne_o2_o78 (ninS ne_o2_o68 (ninS ne_o2_o71 (ninS ne_o2_o74 nin0))))))))))))
        have A_o11 := A_o11.keep Kc (ninS ne_o11_o65 (ninS ne_o11_o66 (ninS ne_o11_o67 (ninS ne_o11_o70 (ninS ne_o11_o73 (ninS (Ne.symm ne_o3_o11) (ninS ne_o11_o76 (ninS ne_o11_o77 (ninS ne_o11_o78 (ninS ne_o11_o68 (ninS ne_o11_o71 (ninS ne_o11_o74 nin0))))))))))))
        have A_o31 := A_o31.keep Kc (ninS ne_o31_o65 (ninS ne_o31_o66 (ninS ne_o31_o67 (ninS ne_o31_o70 (ninS ne_o31_o73 (ninS (Ne.symm ne_o3_o31) (ninS ne_o31_o76 (ninS ne_o31_o77 (ninS ne_o31_o78 (ninS ne_o31_o68 (ninS ne_o31_o71 (ninS ne_o31_o74 nin0))))))))))))
        have A_o4 := A_o4.keep Kc (ninS ne_o4_o65 (ninS ne_o4_o66 (ninS ne_o4_o67 (ninS ne_o4_o70 (ninS ne_o4_o73 (ninS (Ne.symm ne_o3_o4) (ninS ne_o4_o76 (ninS ne_o4_o77 (ninS ne_o4_o78 (ninS ne_o4_o68 (ninS ne_o4_o71 (ninS ne_o4_o74 nin0))))))))))))
        have E_o5 := E_o5.keep Kc
        have F_o5_values := F_o5_values.keep Kc nn_o5
        have F_o5_size := F_o5_size.keep Kc nn_o5
        have A_o6 := A_o6.keep Kc (ninS ne_o6_o65 (ninS ne_o6_o66 (ninS ne_o6_o67 (ninS ne_o6_o70 (ninS ne_o6_o73 (ninS (Ne.symm ne_o3_o6) (ninS ne_o6_o76 (ninS ne_o6_o77 (ninS ne_o6_o78 (ninS ne_o6_o68 (ninS ne_o6_o71 (ninS ne_o6_o74 nin0))))))))))))
        have E_o8 := E_o8.keep Kc
        have F_o8_values := F_o8_values.keep Kc nn_o8
        have F_o8_size := F_o8_size.keep Kc nn_o8
        have A_o9 := A_o9.keep Kc (ninS ne_o9_o65 (ninS ne_o9_o66 (ninS ne_o9_o67 (ninS ne_o9_o70 (ninS ne_o9_o73 (ninS (Ne.symm ne_o3_o9) (ninS ne_o9_o76 (ninS ne_o9_o77 (ninS ne_o9_o78 (ninS ne_o9_o68 (ninS ne_o9_o71 (ninS ne_o9_o74 nin0))))))))))))
        have E_o60 := E_o60.keep Kc
        have F_o60_values := F_o60_values.keep Kc nn_o60
        have F_o60_size := F_o60_size.keep Kc nn_o60
        have A_o61 := A_o61.keep Kc (ninS ne_o61_o65 (ninS ne_o61_o66 (ninS ne_o61_o67 (ninS ne_o61_o70 (ninS ne_o61_o73 (ninS (Ne.symm ne_o3_o61) (ninS ne_o61_o76 (ninS ne_o61_o77 (ninS ne_o61_o78 (ninS ne_o61_o68 (ninS ne_o61_o71 (ninS ne_o61_o74 nin0))))))))))))
        have A_o79 := A_o79.keep Kc (ninS (Ne.symm ne_o65_o79) (ninS (Ne.symm ne_o66_o79) (ninS (Ne.symm ne_o67_o79) (ninS (Ne.symm ne_o70_o79) (ninS (Ne.symm ne_o73_o79) (ninS (Ne.symm ne_o3_o79) (ninS (Ne.symm ne_o76_o79) (ninS (Ne.symm ne_o77_o79) (ninS (Ne.symm ne_o78_o79) (ninS (Ne.symm ne_o68_o79) (ninS (Ne.symm ne_o71_o79) (ninS (Ne.symm ne_o74_o79) nin0))))))))))))
        have A_o80 := A_o80.keep Kc (ninS (Ne.symm ne_o65_o80) (ninS (Ne.symm ne_o66_o80) (ninS (Ne.symm ne_o67_o80) (ninS (Ne.symm ne_o70_o80) (ninS (Ne.symm ne_o73_o80) (ninS (Ne.symm ne_o3_o80) (ninS (Ne.symm ne_o76_o80) (ninS (Ne.symm ne_o77_o80) (ninS (Ne.symm ne_o78_o80) (ninS (Ne.symm ne_o68_o80) (ninS (Ne.symm ne_o71_o80) (ninS (Ne.symm ne_o74_o80) nin0))))))))))))
        have A_o81 := A_o81.keep Kc (ninS (Ne.symm ne_o65_o81) (ninS (Ne.symm ne_o66_o81) (ninS (Ne.symm ne_o67_o81) (ninS (Ne.symm ne_o70_o81) (ninS (Ne.symm ne_o73_o81) (ninS (Ne.symm ne_o3_o81) (ninS (Ne.symm ne_o76_o81) (ninS (Ne.symm ne_o77_o81) (ninS (Ne.symm ne_o78_o81) (ninS (Ne.symm ne_o68_o81) (ninS (Ne.symm ne_o71_o81) (ninS (Ne.symm ne_o74_o81) nin0))))))))))))
        have t_c20_146 : (0 : Int) < (stp).toInt := cl_gt.mp c20_146
        refine Run.cast (st' := [(.int (-1 : Int32))]) rfl ?_
        refine s_istore 124 C X (l' := #[.val (.int x0), .val (.int x1), .val (.int x2), .val (.ref o1), .val (.ref o2), .val (.int (2 : Int32)), .val (.int mm), .val (.ref o3), .val (.ref o60), .val (.ref o65), .val (.long ((2 : Int64) * (x0).toInt64)), .second, .val (.int (-1 : Int32)), .unset, .unset, .unset, .unset, .unset, .unset, .unset, .unset]) at_122 rfl ?_
        refine s_aload 126 C X at_124 rfl rfl ?_
        refine s_aload 128 C X at_126 rfl rfl ?_
        refine s_iconst 129 C X at_128 kc_iconst_0 ?_
        refine s_callV 132 [(.ref o2), (.int (0 : Int32))] [] 0 C X at_129 (mW 150 rfl) (mW 151 rfl) (notFace_of_selects (args := #[]) (mvT C.2.1 (C.w (mW 153 rfl)))) (mW 153 rfl) (mW 152 rfl) (mW 96 rfl) (mW 154 rfl) E_o65 (rm_a237 l Z a0 hw x0 o2 o3 k_o2 o4 o5 k_o4 o6 k_o6 o8 o11 o31 o60 o65 o66 o67 k_o66 o70 o73 o76 o77 o78 o79 o80 o81 (stp) _ n0 X.sz A_o2 A_o4 E_o5 F_o5_values F_o5_size A_o6 E_o65 F_o65_tokens F_o65_nearestFewer F_o65_nearestUnmarked F_o65_firstNearestUnmarked F_o65_markings F_o65_parents F_o65_stepsPerMarking F_o65_searchedMarking F_o65_searchedPlaces F_o65_searchedTokens F_o65_parentPlaces F_o65_parentTokens F_o65_unmarkedRanks F_o65_searched F_o65_steps A_o66 E_o3 F_o3_bytes F_o3_starts F_o3_hashes F_o3_table F_o3_encoded F_o3_encodedLength F_o3_encodedHash F_o3_length F_o3_position ne_o2_o3 g_o3 ne_o3_o4 ne_o3_o5 ne_o3_o6 ne_o2_o65 ne_o3_o65 ne_o4_o65 ne_o5_o65 ne_o6_o65 g_o65 ne_o3_o66 ne_o65_o66) (lenOf pd___JI_Z rfl) rfl rfl rfl (fun T v hh X q => ?_)
        obtain ⟨rfl, c20_206, Kc, E_o65, F_o65_tokens, F_o65_nearestFewer, F_o65_nearestUnmarked, F_o65_firstNearestUnmarked, F_o65_markings, F_o65_parents, F_o65_stepsPerMarking, F_o65_searchedMarking, F_o65_searchedPlaces, F_o65_searchedTokens, F_o65_parentPlaces, F_o65_parentTokens, F_o65_unmarkedRanks, F_o65_searched, F_o65_steps, E_o3, F_o3_bytes, F_o3_starts, F_o3_hashes, F_o3_table, F_o3_encoded, F_o3_encodedLength, F_o3_encodedHash, F_o3_length, F_o3_position⟩ | ⟨rfl, c20_206, E_o65, F_o65_tokens, F_o65_nearestFewer, F_o65_nearestUnmarked, F_o65_firstNearestUnmarked, F_o65_markings, F_o65_parents, F_o65_stepsPerMarking, F_o65_searchedMarking, F_o65_searchedPlaces, F_o65_searchedTokens, F_o65_parentPlaces, F_o65_parentTokens, F_o65_unmarkedRanks, F_o65_searched, F_o65_steps, E_o3, F_o3_bytes, F_o3_starts, F_o3_hashes, F_o3_table, F_o3_encoded, F_o3_encodedLength, F_o3_encodedHash, F_o3_length, F_o3_position, Kc⟩ := q
        · have nn_o5 : o5 ∉ [o65, o3] := (ninS ne_o5_o65 (ninS (Ne.symm ne_o3_o5) nin0))
          have nn_o8 : o8 ∉ [o65, o3] := (ninS ne_o8_o65 (ninS (Ne.symm ne_o3_o8) nin0))
          have nn_o60 : o60 ∉ [o65, o3] := (ninS ne_o60_o65 (ninS (Ne.symm ne_o3_o60) nin0))
          have nn_o67 : o67 ∉ [o65, o3] := (ninS (Ne.symm ne_o65_o67) (ninS (Ne.symm ne_o3_o67) nin0))
          have nn_o73 : o73 ∉ [o65, o3] := (ninS (Ne.symm ne_o65_o73) (ninS (Ne.symm ne_o3_o73) nin0))
          have nn_o70 : o70 ∉ [o65, o3] := (ninS (Ne.symm ne_o65_o70) (ninS (Ne.symm ne_o3_o70) nin0))
          have A_o1 := A_o1.keep Kc (ninS ne_o1_o65 (ninS ne_o1_o3 nin0))
          have A_o2 := A_o2.keep Kc (ninS ne_o2_o65 (ninS ne_o2_o3 nin0))
          have A_o11 := A_o11.keep Kc (ninS ne_o11_o65 (ninS (Ne.symm ne_o3_o11) nin0))
          have A_o31 := A_o31.keep Kc (ninS ne_o31_o65 (ninS (Ne.symm ne_o3_o31) nin0))
          have A_o4 := A_o4.keep Kc (ninS ne_o4_o65 (ninS (Ne.symm ne_o3_o4) nin0))
          have E_o5 := E_o5.keep Kc
          have F_o5_values := F_o5_values.keep Kc nn_o5
          have F_o5_size := F_o5_size.keep Kc nn_o5
          have A_o6 := A_o6.keep Kc (ninS ne_o6_o65 (ninS (Ne.symm ne_o3_o6) nin0))
          have E_o8 := E_o8.keep Kc
          have F_o8_values := F_o8_values.keep Kc nn_o8
          have F_o8_size := F_o8_size.keep Kc nn_o8
          have A_o9 := A_o9.keep Kc (ninS ne_o9_o65 (ninS (Ne.symm ne_o3_o9) nin0))
          have E_o60 := E_o60.keep Kc
          have F_o60_values := F_o60_values.keep Kc nn_o60
          have F_o60_size := F_o60_size.keep Kc nn_o60
          have A_o61 := A_o61.keep Kc (ninS ne_o61_o65 (ninS (Ne.symm ne_o3_o61) nin0))
          have A_o79 := A_o79.keep Kc (ninS (Ne.symm ne_o65_o79) (ninS (Ne.symm ne_o3_o79) nin0))
          have A_o80 := A_o80.keep Kc (ninS (Ne.symm ne_o65_o80) (ninS (Ne.symm ne_o3_o80) nin0))
          have A_o81 := A_o81.keep Kc (ninS (Ne.symm ne_o65_o81) (ninS (Ne.symm ne_o3_o81) nin0))
          have A_o66 := A_o66.keep Kc (ninS (Ne.symm ne_o65_o66) (ninS (Ne.symm ne_o3_o66) nin0))
          have A_o76 := A_o76.keep Kc (ninS (Ne.symm ne_o65_o76) (ninS (Ne.symm ne_o3_o76) nin0))
          have A_o77 := A_o77.keep Kc (ninS (Ne.symm ne_o65_o77) (ninS (Ne.symm ne_o3_o77) nin0))
          have A_o78 := A_o78.keep Kc (ninS (Ne.symm ne_o65_o78) (ninS (Ne.symm ne_o3_o78) nin0))
          have E_o67 := E_o67.keep Kc
          have F_o67_values := F_o67_values.keep Kc nn_o67
          have F_o67_size := F_o67_size.keep Kc nn_o67
          have A_o68 := A_o68.keep Kc (ninS (Ne.symm ne_o65_o68) (ninS (Ne.symm ne_o3_o68) nin0))
          have E_o73 := E_o73.keep Kc
          have F_o73_values := F_o73_values.keep Kc nn_o73
          have F_o73_size := F_o73_size.keep Kc nn_o73
          have A_o74 := A_o74.keep Kc (ninS (Ne.symm ne_o65_o74) (ninS (Ne.symm ne_o3_o74) nin0))
          have E_o70 := E_o70.keep Kc
          have F_o70_blocks := F_o70_blocks.keep Kc nn_o70
          have F_o70_size := F_o70_size.keep Kc nn_o70
          have E_o71 := E_o71.keep Kc
          have A_o71 := A_o71.keep Kc (ninS (Ne.symm ne_o65_o71) (ninS (Ne.symm ne_o3_o71) nin0))
          have E_o181 := E_o181.keep Kc
          have A_o181 := A_o181.keep Kc (ninS (Ne.symm ne_o65_o181) (ninS (Ne.symm ne_o3_o181) nin0))
          have t_c20_206 : (0 : Int) < (stp).toInt := cl_gt.mp c20_206
          refine Run.cast (st' := [(.int (1 : Int32))]) rfl ?_
          refine s_istore 134 C X (l' := #[.val (.int x0), .val (.int x1), .val (.int x2), .val (.ref o1), .val (.ref o2), .val (.int (2 : Int32)), .val (.int mm), .val (.ref o3), .val (.ref o60), .val (.ref o65), .val (.long ((2 : Int64) * (x0).toInt64)), .second, .val (.int (-1 : Int32)), .val (.int (1 : Int32)), .unset, .unset, .unset, .unset, .unset, .unset, .unset]) at_132 rfl ?_
          refine s_iload 136 C X at_134 rfl ?_
          refine s_if_eq 144 139 C X at_136 (fun c136_723 => ?_) (fun c136_723 => ?_)
          · have t_c136_723 : (mm).toInt = (0 : Int) := congrArg Int32.toInt c136_723
            refine s_aload 146 C X at_144 rfl rfl ?_
            refine s_aload 148 C X at_146 rfl rfl ?_
            refine s_iconst 149 C X at_148 kc_iconst_0 ?_
            refine s_callV 152 [(.ref o2), (.int (0 : Int32))] [] 0 C X at_149 (mW 150 rfl) (mW 151 rfl) (notFace_of_selects (args := #[]) (mvT C.2.1 (C.w (mW 153 rfl)))) (mW 153 rfl) (mW 152 rfl) (mW 96 rfl) (mW 154 rfl) E_o65 (rm_a237 l Z a0 hw x0 o2 o3 k_o2 o4 o5 k_o4 o6 k_o6 o8 o11 o31 o60 o65 o66 o67 k_o66 o70 o73 o76 o77 o78 o79 o80 o81 ((stp - (1 : Int64)) - (2 : Int64)) _ n0 X.sz A_o2 A_o4 E_o5 F_o5_values F_o5_size A_o6 E_o65 F_o65_tokens F_o65_nearestFewer F_o65_nearestUnmarked F_o65_firstNearestUnmarked F_o65_markings F_o65_parents F_o65_stepsPerMarking F_o65_searchedMarking F_o65_searchedPlaces F_o65_searchedTokens F_o65_parentPlaces F_o65_parentTokens F_o65_unmarkedRanks F_o65_searched F_o65_steps A_o66 E_o3 F_o3_bytes F_o3_starts F_o3_hashes F_o3_table F_o3_encoded F_o3_encodedLength F_o3_encodedHash F_o3_length F_o3_position ne_o2_o3 g_o3 ne_o3_o4 ne_o3_o5 ne_o3_o6 ne_o2_o65 ne_o3_o65 ne_o4_o65 ne_o5_o65 ne_o6_o65 g_o65 ne_o3_o66 ne_o65_o66) (lenOf pd___JI_Z rfl) rfl rfl rfl (fun T v hh X q => ?_)
            obtain ⟨rfl, c20_206, Kc, E_o65, F_o65_tokens, F_o65_nearestFewer, F_o65_nearestUnmarked, F_o65_firstNearestUnmarked, F_o65_markings, F_o65_parents, F_o65_stepsPerMarking, F_o65_searchedMarking, F_o65_searchedPlaces, F_o65_searchedTokens, F_o65_parentPlaces, F_o65_parentTokens, F_o65_unmarkedRanks, F_o65_searched, F_o65_steps, E_o3, F_o3_bytes, F_o3_starts, F_o3_hashes, F_o3_table, F_o3_encoded, F_o3_encodedLength, F_o3_encodedHash, F_o3_length, F_o3_position⟩ | ⟨rfl, c20_206, E_o65, F_o65_tokens, F_o65_nearestFewer, F_o65_nearestUnmarked, F_o65_firstNearestUnmarked, F_o65_markings, F_o65_parents, F_o65_stepsPerMarking, F_o65_searchedMarking, F_o65_searchedPlaces, F_o65_searchedTokens, F_o65_parentPlaces, F_o65_parentTokens, F_o65_unmarkedRanks, F_o65_searched, F_o65_steps, E_o3, F_o3_bytes, F_o3_starts, F_o3_hashes, F_o3_table, F_o3_encoded, F_o3_encodedLength, F_o3_encodedHash, F_o3_length, F_o3_position, Kc⟩ := q
            · have t_c20_206 : (0 : Int) < (((stp - (1 : Int64)) - (2 : Int64))).toInt := cl_gt.mp c20_206
              refine Run.cast (st' := [(.int (1 : Int32))]) rfl ?_
              refine s_istore 154 C X (l' := #[.val (.int x0), .val (.int x1), .val (.int x2), .val (.ref o1), .val (.ref o2), .val (.int (2 : Int32)), .val (.int mm), .val (.ref o3), .val (.ref o60), .val (.ref o65), .val (.long ((2 : Int64) * (x0).toInt64)), .second, .val (.int (-1 : Int32)), .val (.int (1 : Int32)), .val (.int (1 : Int32)), .unset, .unset, .unset, .unset, .unset, .unset]) at_152 rfl ?_
              have kl0 : (0 : Int64).toInt = 0 := by decide
              have kl1 : (1 : Int64).toInt = 1 := by decide
              have kl2 : ((stp - (1 : Int64))).toInt = (stp).toInt - ((1 : Int64)).toInt := by have u := c_lsub stp (1 : Int64); have r := rng64 (stp - (1 : Int64)); omega
              have kl3 : (2 : Int64).toInt = 2 := by decide
              have kl4 : (((stp - (1 : Int64)) - (2 : Int64))).toInt = ((stp - (1 : Int64))).toInt - ((2 : Int64)).toInt := by have u := c_lsub (stp - (1 : Int64)) (2 : Int64); have r := rng64 ((stp - (1 : Int64)) - (2 : Int64)); omega
              exact TL T _ _ _ X _ _ _ _ _ (by decide) (by decide) (by omega) (Or.inl ⟨c136_723, rfl⟩) (Or.inl ⟨by omega, by omega, rfl, rfl⟩)
            · have t_c20_206 : ¬ ((0 : Int) < (((stp - (1 : Int64)) - (2 : Int64))).toInt) := fun q => c20_206 (cl_gt.mpr q)
              refine Run.cast (st' := [(.int (0 : Int32))]) rfl ?_
              refine s_istore 154 C X (l' := #[.val (.int x0), .val (.int x1), .val (.int x2), .val (.ref o1), .val (.ref o2), .val (.int (2 : Int32)), .val (.int mm), .val (.ref o3), .val (.ref o60), .val (.ref o65), .val (.long ((2 : Int64) * (x0).toInt64)), .second, .val (.int (-1 : Int32)), .val (.int (1 : Int32)), .val (.int (0 : Int32)), .unset, .unset, .unset, .unset, .unset, .unset]) at_152 rfl ?_
              have kl0 : (0 : Int64).toInt = 0 := by decide
              have kl1 : (1 : Int64).toInt = 1 := by decide
              have kl2 : ((stp - (1 : Int64))).toInt = (stp).toInt - ((1 : Int64)).toInt := by have u := c_lsub stp (1 : Int64); have r := rng64 (stp - (1 : Int64)); omega
              have kl3 : (2 : Int64).toInt = 2 := by decide
              have kl4 : (((stp - (1 : Int64)) - (2 : Int64))).toInt = ((stp - (1 : Int64))).toInt - ((2 : Int64)).toInt := by have u := c_lsub (stp - (1 : Int64)) (2 : Int64); have r := rng64 ((stp - (1 : Int64)) - (2 : Int64)); omega
              exact TL T _ _ _ X _ _ _ _ _ (by decide) (by decide) (by omega) (Or.inl ⟨c136_723, rfl⟩) (Or.inr (Or.inl ⟨by omega, by omega, rfl, rfl⟩))
          have t_c136_723 : ¬ ((mm).toInt = (0 : Int)) := fun q => c136_723 (Int32.toInt_inj.mp q)
          refine s_aload 141 C X at_139 rfl rfl ?_
          refine s_callV 144 [] [] 0 C X at_141 (mW 155 rfl) (mW 156 rfl) (notFace_of_selects (args := #[]) (mvT C.2.1 (C.w (mW 158 rfl)))) (mW 158 rfl) (mW 157 rfl) (mW 96 rfl) (mW 159 rfl) E_o65 (rm_a274 l Z a0 hw x0 o3 o60 o65 o66 o67 o70 o73 o76 o77 o78 o79 o80 o81 ((stp - (1 : Int64)) - (2 : Int64)) _ n0 X.sz E_o65 F_o65_tokens F_o65_nearestFewer F_o65_nearestUnmarked F_o65_firstNearestUnmarked F_o65_markings F_o65_parents F_o65_stepsPerMarking F_o65_searchedMarking F_o65_searchedPlaces F_o65_searchedTokens F_o65_parentPlaces F_o65_parentTokens F_o65_unmarkedRanks F_o65_searched F_o65_steps g_o65) (lenOf pd___V rfl) rfl rfl rfl (fun T v hh X q => ?_)
          obtain ⟨rfl, E_o65, F_o65_tokens, F_o65_nearestFewer, F_o65_nearestUnmarked, F_o65_firstNearestUnmarked, F_o65_markings, F_o65_parents, F_o65_stepsPerMarking, F_o65_searchedMarking, F_o65_searchedPlaces, F_o65_searchedTokens, F_o65_parentPlaces, F_o65_parentTokens, F_o65_unmarkedRanks, F_o65_searched, F_o65_steps, Kc⟩ := q
          have A_o1 := A_o1.keep Kc (ninS ne_o1_o65 nin0)
          have A_o2 := A_o2.keep Kc (ninS ne_o2_o65 nin0)
          have A_o11 := A_o11.keep Kc (ninS ne_o11_o65 nin0)
          have A_o31 := A_o31.keep Kc (ninS ne_o31_o65 nin0)
          have A_o4 := A_o4.keep Kc (ninS ne_o4_o65 nin0)
          have E_o5 := E_o5.keep Kc
          have F_o5_values := F_o5_values.keep Kc (ninS ne_o5_o65 nin0)
          have F_o5_size := F_o5_size.keep Kc (ninS ne_o5_o65 nin0)
          have A_o6 := A_o6.keep Kc (ninS ne_o6_o65 nin0)
          have E_o8 := E_o8.keep Kc
          have F_o8_values := F_o8_values.keep Kc (ninS ne_o8_o65 nin0)
          have F_o8_size := F_o8_size.keep Kc (ninS ne_o8_o65 nin0)
          have A_o9 := A_o9.keep Kc (ninS ne_o9_o65 nin0)
          have E_o60 := E_o60.keep Kc
          have F_o60_values := F_o60_values.keep Kc (ninS ne_o60_o65 nin0)
          have F_o60_size := F_o60_size.keep Kc (ninS ne_o60_o65 nin0)
          have A_o61 := A_o61.keep Kc (ninS ne_o61_o65 nin0)
          have A_o79 := A_o79.keep Kc (ninS (Ne.symm ne_o65_o79) nin0)
          have A_o80 := A_o80.keep Kc (ninS (Ne.symm ne_o65_o80) nin0)
          have A_o81 := A_o81.keep Kc (ninS (Ne.symm ne_o65_o81) nin0)
          have A_o66 := A_o66.keep Kc (ninS (Ne.symm ne_o65_o66) nin0)
          have A_o76 := A_o76.keep Kc (ninS (Ne.symm ne_o65_o76) nin0)
          have A_o77 := A_o77.keep Kc (ninS (Ne.symm ne_o65_o77) nin0)
          have A_o78 := A_o78.keep Kc (ninS (Ne.symm ne_o65_o78) nin0)
          have E_o67 := E_o67.keep Kc
          have F_o67_values := F_o67_values.keep Kc (ninS (Ne.symm ne_o65_o67) nin0)
          have F_o67_size := F_o67_size.keep Kc (ninS (Ne.symm ne_o65_o67) nin0)
          have A_o68 := A_o68.keep Kc (ninS (Ne.symm ne_o65_o68) nin0)
          have E_o73 := E_o73.keep Kc
          have F_o73_values := F_o73_values.keep Kc (ninS (Ne.symm ne_o65_o73) nin0)
          have F_o73_size := F_o73_size.keep Kc (ninS (Ne.symm ne_o65_o73) nin0)
          have A_o74 := A_o74.keep Kc (ninS (Ne.symm ne_o65_o74) nin0)
          have E_o70 := E_o70.keep Kc
          have F_o70_blocks := F_o70_blocks.keep Kc (ninS (Ne.symm ne_o65_o70) nin0)
          have F_o70_size := F_o70_size.keep Kc (ninS (Ne.symm ne_o65_o70) nin0)
          have E_o71 := E_o71.keep Kc
          have A_o71 := A_o71.keep Kc (ninS (Ne.symm ne_o65_o71) nin0)
          have E_o181 := E_o181.keep Kc
          have A_o181 := A_o181.keep Kc (ninS (Ne.symm ne_o65_o181) nin0)
          have E_o3 := E_o3.keep Kc
          have F_o3_bytes := F_o3_bytes.keep Kc (ninS ne_o3_o65 nin0)
          have F_o3_starts := F_o3_starts.keep Kc (ninS ne_o3_o65 nin0)
          have F_o3_hashes := F_o3_hashes.keep Kc (ninS ne_o3_o65 nin0)
          have F_o3_table := F_o3_table.keep Kc (ninS ne_o3_o65 nin0)
          have F_o3_encoded := F_o3_encoded.keep Kc (ninS ne_o3_o65 nin0)
          have F_o3_encodedLength := F_o3_encodedLength.keep Kc (ninS ne_o3_o65 nin0)
          have F_o3_encodedHash := F_o3_encodedHash.keep Kc (ninS ne_o3_o65 nin0)
          have F_o3_length := F_o3_length.keep Kc (ninS ne_o3_o65 nin0)
          have F_o3_position := F_o3_position.keep Kc (ninS ne_o3_o65 nin0)
          refine Run.cast (st' := []) rfl ?_
          refine s_aload 146 C X at_144 rfl rfl ?_
          refine s_aload 148 C X at_146 rfl rfl ?_
          refine s_iconst 149 C X at_148 kc_iconst_0 ?_
          refine s_callV 152 [(.ref o2), (.int (0 : Int32))] [] 0 C X at_149 (mW 150 rfl) (mW 151 rfl) (notFace_of_selects (args := #[]) (mvT C.2.1 (C.w (mW 153 rfl)))) (mW 153 rfl) (mW 152 rfl) (mW 96 rfl) (mW 154 rfl) E_o65 (rm_a237 l Z a0 hw x0 o2 o3 k_o2 o4 o5 k_o4 o6 k_o6 o8 o11 o31 o60 o65 o66 o67 k_o66 o70 o73 o76 o77 o78 o79 o80 o81 (((stp - (1 : Int64)) - (2 : Int64)) + (x0).toInt64) _ n0 X.sz A_o2 A_o4 E_o5 F_o5_values F_o5_size A_o6 E_o65 F_o65_tokens F_o65_nearestFewer F_o65_nearestUnmarked F_o65_firstNearestUnmarked F_o65_markings F_o65_parents F_o65_stepsPerMarking F_o65_searchedMarking F_o65_searchedPlaces F_o65_searchedTokens F_o65_parentPlaces F_o65_parentTokens F_o65_unmarkedRanks F_o65_searched F_o65_steps A_o66 E_o3 F_o3_bytes F_o3_starts F_o3_hashes F_o3_table F_o3_encoded F_o3_encodedLength F_o3_encodedHash F_o3_length F_o3_position ne_o2_o3 g_o3 ne_o3_o4 ne_o3_o5 ne_o3_o6 ne_o2_o65 ne_o3_o65 ne_o4_o65 ne_o5_o65 ne_o6_o65 g_o65 ne_o3_o66 ne_o65_o66) (lenOf pd___JI_Z rfl) rfl rfl rfl (fun T v hh X q => ?_)
          obtain ⟨rfl, c20_206, Kc, E_o65, F_o65_tokens, F_o65_nearestFewer, F_o65_nearestUnmarked, F_o65_firstNearestUnmarked, F_o65_markings, F_o65_parents, F_o65_stepsPerMarking, F_o65_searchedMarking, F_o65_searchedPlaces, F_o65_searchedTokens, F_o65_parentPlaces, F_o65_parentTokens, F_o65_unmarkedRanks, F_o65_searched, F_o65_steps, E_o3, F_o3_bytes, F_o3_starts, F_o3_hashes, F_o3_table, F_o3_encoded, F_o3_encodedLength, F_o3_encodedHash, F_o3_length, F_o3_position⟩ | ⟨rfl, c20_206, E_o65, F_o65_tokens, F_o65_nearestFewer, F_o65_nearestUnmarked, F_o65_firstNearestUnmarked, F_o65_markings, F_o65_parents, F_o65_stepsPerMarking, F_o65_searchedMarking, F_o65_searchedPlaces, F_o65_searchedTokens, F_o65_parentPlaces, F_o65_parentTokens, F_o65_unmarkedRanks, F_o65_searched, F_o65_steps, E_o3, F_o3_bytes, F_o3_starts, F_o3_hashes, F_o3_table, F_o3_encoded, F_o3_encodedLength, F_o3_encodedHash, F_o3_length, F_o3_position, Kc⟩ := q
          · have t_c20_206 : (0 : Int) < ((((stp - (1 : Int64)) - (2 : Int64)) + (x0).toInt64)).toInt := cl_gt.mp c20_206
            refine Run.cast (st' := [(.int (1 : Int32))]) rfl ?_
            refine s_istore 154 C X (l' := #[.val (.int x0), .val (.int x1), .val (.int x2), .val (.ref o1), .val (.ref o2), .val (.int (2 : Int32)), .val (.int mm), .val (.ref o3), .val (.ref o60), .val (.ref o65), .val (.long ((2 : Int64) * (x0).toInt64)), .second, .val (.int (-1 : Int32)), .val (.int (1 : Int32)), .val (.int (1 : Int32)), .unset, .unset, .unset, .unset, .unset, .unset]) at_152 rfl ?_
            have kl0 : (0 : Int64).toInt = 0 := by decide
            have kl1 : (1 : Int64).toInt = 1 := by decide
            have kl2 : ((stp - (1 : Int64))).toInt = (stp).toInt - ((1 : Int64)).toInt := by have u := c_lsub stp (1 : Int64); have r := rng64 (stp - (1 : Int64)); omega
            have kl3 : (2 : Int64).toInt = 2 := by decide
            have kl4 : (((stp - (1 : Int64)) - (2 : Int64))).toInt = ((stp - (1 : Int64))).toInt - ((2 : Int64)).toInt := by have u := c_lsub (stp - (1 : Int64)) (2 : Int64); have r := rng64 ((stp - (1 : Int64)) - (2 : Int64)); omega
            have kl5 := c_i2l x0
            have kl6 := rng32 x0
            have kl7 : ((((stp - (1 : Int64)) - (2 : Int64)) + (x0).toInt64)).toInt = (((stp - (1 : Int64)) - (2 : Int64))).toInt + ((x0).toInt64).toInt := by have u := c_ladd ((stp - (1 : Int64)) - (2 : Int64)) (x0).toInt64; have r := rng64 (((stp - (1 : Int64)) - (2 : Int64)) + (x0).toInt64); omega
            exact TL T _ _ _ X _ _ _ _ _ (by decide) (by decide) (by omega) (Or.inr ⟨hm.resolve_left c136_723, rfl⟩) (Or.inl ⟨by omega, by omega, rfl, rfl⟩)
          · have t_c20_206 : ¬ ((0 : Int) < ((((stp - (1 : Int64)) - (2 : Int64)) + (x0).toInt64)).toInt) := fun q => c20_206 (cl_gt.mpr q)
            refine Run.cast (st' := [(.int (0 : Int32))]) rfl ?_
            refine s_istore 154 C X (l' := #[.val (.int x0), .val (.int x1), .val (.int x2), .val (.ref o1), .val (.ref o2), .val (.int (2 : Int32)), .val (.int mm), .val (.ref o3), .val (.ref o60), .val (.ref o65), .val (.long ((2 : Int64) * (x0).toInt64)), .second, .val (.int (-1 : Int32)), .val (.int (1 : Int32)), .val (.int (0 : Int32)), .unset, .unset, .unset, .unset, .unset, .unset]) at_152 rfl ?_
            have kl0 : (0 : Int64).toInt = 0 := by decide
            have kl1 : (1 : Int64).toInt = 1 := by decide
            have kl2 : ((stp - (1 : Int64))).toInt = (stp).toInt - ((1 : Int64)).toInt := by have u := c_lsub stp (1 : Int64); have r := rng64 (stp - (1 : Int64)); omega
            have kl3 : (2 : Int64).toInt = 2 := by decide
            have kl4 : (((stp - (1 : Int64)) - (2 : Int64))).toInt = ((stp - (1 : Int64))).toInt - ((2 : Int64)).toInt := by have u := c_lsub (stp - (1 : Int64)) (2 : Int64); have r := rng64 ((stp - (1 : Int64)) - (2 : Int64)); omega
            have kl5 := c_i2l x0
            have kl6 := rng32 x0
            have kl7 : ((((stp - (1 : Int64)) - (2 : Int64)) + (x0).toInt64)).toInt = (((stp - (1 : Int64)) - (2 : Int64))).toInt + ((x0).toInt64).toInt := by have u := c_ladd ((stp - (1 : Int64)) - (2 : Int64)) (x0).toInt64; have r := rng64 (((stp - (1 : Int64)) - (2 : Int64)) + (x0).toInt64); omega
            exact TL T _ _ _ X _ _ _ _ _ (by decide) (by decide) (by omega) (Or.inr ⟨hm.resolve_left c136_723, rfl⟩) (Or.inr (Or.inl ⟨by omega, by omega, rfl, rfl⟩))
        · have nn_o5 : o5 ∉ [o65, o3] := (ninS ne_o5_o65 (ninS (Ne.symm ne_o3_o5) nin0))
          have nn_o8 : o8 ∉ [o65, o3] := (ninS ne_o8_o65 (ninS (Ne.symm ne_o3_o8) nin0))
          have nn_o60 : o60 ∉ [o65, o3] := (ninS ne_o60_o65 (ninS (Ne.symm ne_o3_o60) nin0))
          have nn_o67 : o67 ∉ [o65, o3] := (ninS (Ne.symm ne_o65_o67) (ninS (Ne.symm ne_o3_o67) nin0))
          have nn_o73 : o73 ∉ [o65, o3] := (ninS (Ne.symm ne_o65_o73) (ninS (Ne.symm ne_o3_o73) nin0))
          have nn_o70 : o70 ∉ [o65, o3] := (ninS (Ne.symm ne_o65_o70) (ninS (Ne.symm ne_o3_o70) nin0))
          have A_o1 := A_o1.keep Kc (ninS ne_o1_o65 (ninS ne_o1_o3 nin0))
          have A_o2 := A_o2.keep Kc (ninS ne_o2_o65 (ninS ne_o2_o3 nin0))
          have A_o11 := A_o11.keep Kc (ninS ne_o11_o65 (ninS (Ne.symm ne_o3_o11) nin0))
          have A_o31 := A_o31.keep Kc (ninS ne_o31_o65 (ninS (Ne.symm ne_o3_o31) nin0))
          have A_o4 := A_o4.keep Kc (ninS ne_o4_o65 (ninS (Ne.symm ne_o3_o4) nin0))
          have E_o5 := E_o5.keep Kc
          have F_o5_values := F_o5_values.keep Kc nn_o5
          have F_o5_size := F_o5_size.keep Kc nn_o5
          have A_o6 := A_o6.keep Kc (ninS ne_o6_o65 (ninS (Ne.symm ne_o3_o6) nin0))
          have E_o8 := E_o8.keep Kc
          have F_o8_values := F_o8_values.keep Kc nn_o8
          have F_o8_size := F_o8_size.keep Kc nn_o8
          have A_o9 := A_o9.keep Kc (ninS ne_o9_o65 (ninS (Ne.symm ne_o3_o9) nin0))
          have E_o60 := E_o60.keep Kc
          have F_o60_values := F_o60_values.keep Kc nn_o60
          have F_o60_size := F_o60_size.keep Kc nn_o60
          have A_o61 := A_o61.keep Kc (ninS ne_o61_o65 (ninS (Ne.symm ne_o3_o61) nin0))
          have A_o79 := A_o79.keep Kc (ninS (Ne.symm ne_o65_o79) (ninS (Ne.symm ne_o3_o79) nin0))
          have A_o80 := A_o80.keep Kc (ninS (Ne.symm ne_o65_o80) (ninS (Ne.symm ne_o3_o80) nin0))
          have A_o81 := A_o81.keep Kc (ninS (Ne.symm ne_o65_o81) (ninS (Ne.symm ne_o3_o81) nin0))
          have A_o66 := A_o66.keep Kc (ninS (Ne.symm ne_o65_o66) (ninS (Ne.symm ne_o3_o66) nin0))
          have A_o76 := A_o76.keep Kc (ninS (Ne.symm ne_o65_o76) (ninS (Ne.symm ne_o3_o76) nin0))
          have A_o77 := A_o77.keep Kc (ninS (Ne.symm ne_o65_o77) (ninS (Ne.symm ne_o3_o77) nin0))
          have A_o78 := A_o78.keep Kc (ninS (Ne.symm ne_o65_o78) (ninS (Ne.symm ne_o3_o78) nin0))
          have E_o67 := E_o67.keep Kc
          have F_o67_values := F_o67_values.keep Kc nn_o67
          have F_o67_size := F_o67_size.keep Kc nn_o67
          have A_o68 := A_o68.keep Kc (ninS (Ne.symm ne_o65_o68) (ninS (Ne.symm ne_o3_o68) nin0))
          have E_o73 := E_o73.keep Kc
          have F_o73_values := F_o73_values.keep Kc nn_o73
          have F_o73_size := F_o73_size.keep Kc nn_o73
          have A_o74 := A_o74.keep Kc (ninS (Ne.symm ne_o65_o74) (ninS (Ne.symm ne_o3_o74) nin0))
          have E_o70 := E_o70.keep Kc
          have F_o70_blocks := F_o70_blocks.keep Kc nn_o70
          have F_o70_size := F_o70_size.keep Kc nn_o70
          have E_o71 := E_o71.keep Kc
          have A_o71 := A_o71.keep Kc (ninS (Ne.symm ne_o65_o71) (ninS (Ne.symm ne_o3_o71) nin0))
          have E_o181 := E_o181.keep Kc
          have A_o181 := A_o181.keep Kc (ninS (Ne.symm ne_o65_o181) (ninS (Ne.symm ne_o3_o181) nin0))
          have t_c20_206 : ¬ ((0 : Int) < (stp).toInt) := fun q => c20_206 (cl_gt.mpr q)
          refine Run.cast (st' := [(.int (0 : Int32))]) rfl ?_
          refine s_istore 134 C X (l' := #[.val (.int x0), .val (.int x1), .val (.int x2), .val (.ref o1), .val (.ref o2), .val (.int (2 : Int32)), .val (.int mm), .val (.ref o3), .val (.ref o60), .val (.ref o65), .val (.long ((2 : Int64) * (x0).toInt64)), .second, .val (.int (-1 : Int32)), .val (.int (0 : Int32)), .unset, .unset, .unset, .unset, .unset, .unset, .unset]) at_132 rfl ?_
          refine s_iload 136 C X at_134 rfl ?_
          refine s_if_eq 144 139 C X at_136 (fun c136_795 => ?_) (fun c136_795 => ?_)
          · have t_c136_795 : (mm).toInt = (0 : Int) := congrArg Int32.toInt c136_795
            refine s_aload 146 C X at_144 rfl rfl ?_
            refine s_aload 148 C X at_146 rfl rfl ?_
            refine s_iconst 149 C X at_148 kc_iconst_0 ?_
            refine s_callV 152 [(.ref o2), (.int (0 : Int32))] [] 0 C X at_149 (mW 150 rfl) (mW 151 rfl) (notFace_of_selects (args := #[]) (mvT C.2.1 (C.w (mW 153 rfl)))) (mW 153 rfl) (mW 152 rfl) (mW 96 rfl) (mW 154 rfl) E_o65 (rm_a237 l Z a0 hw x0 o2 o3 k_o2 o4 o5 k_o4 o6 k_o6 o8 o11 o31 o60 o65 o66 o67 k_o66 o70 o73 o76 o77 o78 o79 o80 o81 (stp) _ n0 X.sz A_o2 A_o4 E_o5 F_o5_values F_o5_size A_o6 E_o65 F_o65_tokens F_o65_nearestFewer F_o65_nearestUnmarked F_o65_firstNearestUnmarked F_o65_markings F_o65_parents F_o65_stepsPerMarking F_o65_searchedMarking F_o65_searchedPlaces F_o65_searchedTokens F_o65_parentPlaces F_o65_parentTokens F_o65_unmarkedRanks F_o65_searched F_o65_steps A_o66 E_o3 F_o3_bytes F_o3_starts F_o3_hashes F_o3_table F_o3_encoded F_o3_encodedLength F_o3_encodedHash F_o3_length F_o3_position ne_o2_o3 g_o3 ne_o3_o4 ne_o3_o5 ne_o3_o6 ne_o2_o65 ne_o3_o65 ne_o4_o65 ne_o5_o65 ne_o6_o65 g_o65 ne_o3_o66 ne_o65_o66) (lenOf pd___JI_Z rfl) rfl rfl rfl (fun T v hh X q => ?_)
            obtain ⟨rfl, c20_206, Kc, E_o65, F_o65_tokens, F_o65_nearestFewer, F_o65_nearestUnmarked, F_o65_firstNearestUnmarked, F_o65_markings, F_o65_parents, F_o65_stepsPerMarking, F_o65_searchedMarking, F_o65_searchedPlaces, F_o65_searchedTokens, F_o65_parentPlaces, F_o65_parentTokens, F_o65_unmarkedRanks, F_o65_searched, F_o65_steps, E_o3, F_o3_bytes, F_o3_starts, F_o3_hashes, F_o3_table, F_o3_encoded, F_o3_encodedLength, F_o3_encodedHash, F_o3_length, F_o3_position⟩ | ⟨rfl, c20_206, E_o65, F_o65_tokens, F_o65_nearestFewer, F_o65_nearestUnmarked, F_o65_firstNearestUnmarked, F_o65_markings, F_o65_parents, F_o65_stepsPerMarking, F_o65_searchedMarking, F_o65_searchedPlaces, F_o65_searchedTokens, F_o65_parentPlaces, F_o65_parentTokens, F_o65_unmarkedRanks, F_o65_searched, F_o65_steps, E_o3, F_o3_bytes, F_o3_starts, F_o3_hashes, F_o3_table, F_o3_encoded, F_o3_encodedLength, F_o3_encodedHash, F_o3_length, F_o3_position, Kc⟩ := q
            · have t_c20_206 : (0 : Int) < (stp).toInt := cl_gt.mp c20_206
              refine Run.cast (st' := [(.int (1 : Int32))]) rfl ?_
              refine s_istore 154 C X (l' := #[.val (.int x0), .val (.int x1), .val (.int x2), .val (.ref o1), .val (.ref o2), .val (.int (2 : Int32)), .val (.int mm), .val (.ref o3), .val (.ref o60), .val (.ref o65), .val (.long ((2 : Int64) * (x0).toInt64)), .second, .val (.int (-1 : Int32)), .val (.int (0 : Int32)), .val (.int (1 : Int32)), .unset, .unset, .unset, .unset, .unset, .unset]) at_152 rfl ?_
              have kl0 : (0 : Int64).toInt = 0 := by decide
              exfalso
              omega
            · have t_c20_206 : ¬ ((0 : Int) < (stp).toInt) := fun q => c20_206 (cl_gt.mpr q)
              refine Run.cast (st' := [(.int (0 : Int32))]) rfl ?_
              refine s_istore 154 C X (l' := #[.val (.int x0), .val (.int x1), .val (.int x2), .val (.ref o1), .val (.ref o2), .val (.int (2 : Int32)), .val (.int mm), .val (.ref o3), .val (.ref o60), .val (.ref o65), .val (.long ((2 : Int64) * (x0).toInt64)), .second, .val (.int (-1 : Int32)), .val (.int (0 : Int32)), .val (.int (0 : Int32)), .unset, .unset, .unset, .unset, .unset, .unset]) at_152 rfl ?_
              have kl0 : (0 : Int64).toInt = 0 := by decide
              exact TL T _ _ _ X _ _ _ _ _ (by decide) (by decide) (by omega) (Or.inl ⟨c136_795, rfl⟩) (Or.inr (Or.inr ⟨by omega, rfl, rfl⟩))
          have t_c136_795 : ¬ ((mm).toInt = (0 : Int)) := fun q => c136_795 (Int32.toInt_inj.mp q)
          refine s_aload 141 C X at_139 rfl rfl ?_
          refine s_callV 144 [] [] 0 C X at_141 (mW 155 rfl) (mW 156 rfl) (notFace_of_selects (args := #[]) (mvT C.2.1 (C.w (mW 158 rfl)))) (mW 158 rfl) (mW 157 rfl) (mW 96 rfl) (mW 159 rfl) E_o65 (rm_a274 l Z a0 hw x0 o3 o60 o65 o66 o67 o70 o73 o76 o77 o78 o79 o80 o81 (stp) _ n0 X.sz E_o65 F_o65_tokens F_o65_nearestFewer F_o65_nearestUnmarked F_o65_firstNearestUnmarked F_o65_markings F_o65_parents F_o65_stepsPerMarking F_o65_searchedMarking F_o65_searchedPlaces F_o65_searchedTokens F_o65_parentPlaces F_o65_parentTokens F_o65_unmarkedRanks F_o65_searched F_o65_steps g_o65) (lenOf pd___V rfl) rfl rfl rfl (fun T v hh X q => ?_)
          obtain ⟨rfl, E_o65, F_o65_tokens, F_o65_nearestFewer, F_o65_nearestUnmarked, F_o65_firstNearestUnmarked, F_o65_markings, F_o65_parents, F_o65_stepsPerMarking, F_o65_searchedMarking, F_o65_searchedPlaces, F_o65_searchedTokens, F_o65_parentPlaces, F_o65_parentTokens, F_o65_unmarkedRanks, F_o65_searched, F_o65_steps, Kc⟩ := q
          have A_o1 := A_o1.keep Kc (ninS ne_o1_o65 nin0)
          have A_o2 := A_o2.keep Kc (ninS ne_o2_o65 nin0)
          have A_o11 := A_o11.keep Kc (ninS ne_o11_o65 nin0)
          have A_o31 := A_o31.keep Kc (ninS ne_o31_o65 nin0)
          have A_o4 := A_o4.keep Kc (ninS ne_o4_o65 nin0)
          have E_o5 := E_o5.keep Kc
          have F_o5_values := F_o5_values.keep Kc (ninS ne_o5_o65 nin0)
          have F_o5_size := F_o5_size.keep Kc (ninS ne_o5_o65 nin0)
          have A_o6 := A_o6.keep Kc (ninS ne_o6_o65 nin0)
          have E_o8 := E_o8.keep Kc
          have F_o8_values := F_o8_values.keep Kc (ninS ne_o8_o65 nin0)
          have F_o8_size := F_o8_size.keep Kc (ninS ne_o8_o65 nin0)
          have A_o9 := A_o9.keep Kc (ninS ne_o9_o65 nin0)
          have E_o60 := E_o60.keep Kc
          have F_o60_values := F_o60_values.keep Kc (ninS ne_o60_o65 nin0)
          have F_o60_size := F_o60_size.keep Kc (ninS ne_o60_o65 nin0)
          have A_o61 := A_o61.keep Kc (ninS ne_o61_o65 nin0)
          have A_o79 := A_o79.keep Kc (ninS (Ne.symm ne_o65_o79) nin0)
          have A_o80 := A_o80.keep Kc (ninS (Ne.symm ne_o65_o80) nin0)
          have A_o81 := A_o81.keep Kc (ninS (Ne.symm ne_o65_o81) nin0)
          have A_o66 := A_o66.keep Kc (ninS (Ne.symm ne_o65_o66) nin0)
          have A_o76 := A_o76.keep Kc (ninS (Ne.symm ne_o65_o76) nin0)
          have A_o77 := A_o77.keep Kc (ninS (Ne.symm ne_o65_o77) nin0)
          have A_o78 := A_o78.keep Kc (ninS (Ne.symm ne_o65_o78) nin0)
          have E_o67 := E_o67.keep Kc
          have F_o67_values := F_o67_values.keep Kc (ninS (Ne.symm ne_o65_o67) nin0)
          have F_o67_size := F_o67_size.keep Kc (ninS (Ne.symm ne_o65_o67) nin0)
          have A_o68 := A_o68.keep Kc (ninS (Ne.symm ne_o65_o68) nin0)
          have E_o73 := E_o73.keep Kc
          have F_o73_values := F_o73_values.keep Kc (ninS (Ne.symm ne_o65_o73) nin0)
          have F_o73_size := F_o73_size.keep Kc (ninS (Ne.symm ne_o65_o73) nin0)
          have A_o74 := A_o74.keep Kc (ninS (Ne.symm ne_o65_o74) nin0)
          have E_o70 := E_o70.keep Kc
          have F_o70_blocks := F_o70_blocks.keep Kc (ninS (Ne.symm ne_o65_o70) nin0)
          have F_o70_size := F_o70_size.keep Kc (ninS (Ne.symm ne_o65_o70) nin0)
          have E_o71 := E_o71.keep Kc
          have A_o71 := A_o71.keep Kc (ninS (Ne.symm ne_o65_o71) nin0)
          have E_o181 := E_o181.keep Kc
          have A_o181 := A_o181.keep Kc (ninS (Ne.symm ne_o65_o181) nin0)
          have E_o3 := E_o3.keep Kc
          have F_o3_bytes := F_o3_bytes.keep Kc (ninS ne_o3_o65 nin0)
          have F_o3_starts := F_o3_starts.keep Kc (ninS ne_o3_o65 nin0)
          have F_o3_hashes := F_o3_hashes.keep Kc (ninS ne_o3_o65 nin0)
          have F_o3_table := F_o3_table.keep Kc (ninS ne_o3_o65 nin0)
          have F_o3_encoded := F_o3_encoded.keep Kc (ninS ne_o3_o65 nin0)
          have F_o3_encodedLength := F_o3_encodedLength.keep Kc (ninS ne_o3_o65 nin0)
          have F_o3_encodedHash := F_o3_encodedHash.keep Kc (ninS ne_o3_o65 nin0)
          have F_o3_length := F_o3_length.keep Kc (ninS ne_o3_o65 nin0)
          have F_o3_position := F_o3_position.keep Kc (ninS ne_o3_o65 nin0)
          refine Run.cast (st' := []) rfl ?_
          refine s_aload 146 C X at_144 rfl rfl ?_
          refine s_aload 148 C X at_146 rfl rfl ?_
          refine s_iconst 149 C X at_148 kc_iconst_0 ?_
          refine s_callV 152 [(.ref o2), (.int (0 : Int32))] [] 0 C X at_149 (mW 150 rfl) (mW 151 rfl) (notFace_of_selects (args := #[]) (mvT C.2.1 (C.w (mW 153 rfl)))) (mW 153 rfl) (mW 152 rfl) (mW 96 rfl) (mW 154 rfl) E_o65 (rm_a237 l Z a0 hw x0 o2 o3 k_o2 o4 o5 k_o4 o6 k_o6 o8 o11 o31 o60 o65 o66 o67 k_o66 o70 o73 o76 o77 o78 o79 o80 o81 (stp + (x0).toInt64) _ n0 X.sz A_o2 A_o4 E_o5 F_o5_values F_o5_size A_o6 E_o65 F_o65_tokens F_o65_nearestFewer F_o65_nearestUnmarked F_o65_firstNearestUnmarked F_o65_markings F_o65_parents F_o65_stepsPerMarking F_o65_searchedMarking F_o65_searchedPlaces F_o65_searchedTokens F_o65_parentPlaces F_o65_parentTokens F_o65_unmarkedRanks F_o65_searched F_o65_steps A_o66 E_o3 F_o3_bytes F_o3_starts F_o3_hashes F_o3_table F_o3_encoded F_o3_encodedLength F_o3_encodedHash F_o3_length F_o3_position ne_o2_o3 g_o3 ne_o3_o4 ne_o3_o5 ne_o3_o6 ne_o2_o65 ne_o3_o65 ne_o4_o65 ne_o5_o65 ne_o6_o65 g_o65 ne_o3_o66 ne_o65_o66) (lenOf pd___JI_Z rfl) rfl rfl rfl (fun T v hh X q => ?_)
          obtain ⟨rfl, c20_206, Kc, E_o65, F_o65_tokens, F_o65_nearestFewer, F_o65_nearestUnmarked, F_o65_firstNearestUnmarked, F_o65_markings, F_o65_parents, F_o65_stepsPerMarking, F_o65_searchedMarking, F_o65_searchedPlaces, F_o65_searchedTokens, F_o65_parentPlaces, F_o65_parentTokens, F_o65_unmarkedRanks, F_o65_searched, F_o65_steps, E_o3, F_o3_bytes, F_o3_starts, F_o3_hashes, F_o3_table, F_o3_encoded, F_o3_encodedLength, F_o3_encodedHash, F_o3_length, F_o3_position⟩ | ⟨rfl, c20_206, E_o65, F_o65_tokens, F_o65_nearestFewer, F_o65_nearestUnmarked, F_o65_firstNearestUnmarked, F_o65_markings, F_o65_parents, F_o65_stepsPerMarking, F_o65_searchedMarking, F_o65_searchedPlaces, F_o65_searchedTokens, F_o65_parentPlaces, F_o65_parentTokens, F_o65_unmarkedRanks, F_o65_searched, F_o65_steps, E_o3, F_o3_bytes, F_o3_starts, F_o3_hashes, F_o3_table, F_o3_encoded, F_o3_encodedLength, F_o3_encodedHash, F_o3_length, F_o3_position, Kc⟩ := q
          · have t_c20_206 : (0 : Int) < ((stp + (x0).toInt64)).toInt := cl_gt.mp c20_206
            refine Run.cast (st' := [(.int (1 : Int32))]) rfl ?_
            refine s_istore 154 C X (l' := #[.val (.int x0), .val (.int x1), .val (.int x2), .val (.ref o1), .val (.ref o2), .val (.int (2 : Int32)), .val (.int mm), .val (.ref o3), .val (.ref o60), .val (.ref o65), .val (.long ((2 : Int64) * (x0).toInt64)), .second, .val (.int (-1 : Int32)), .val (.int (0 : Int32)), .val (.int (1 : Int32)), .unset, .unset, .unset, .unset, .unset, .unset]) at_152 rfl ?_
            have kl0 : (0 : Int64).toInt = 0 := by decide
            have kl1 := c_i2l x0
            have kl2 := rng32 x0
            have kl3 : ((stp + (x0).toInt64)).toInt = (stp).toInt + ((x0).toInt64).toInt := by have u := c_ladd stp (x0).toInt64; have r := rng64 (stp + (x0).toInt64); omega
            exfalso
            omega
          · have t_c20_206 : ¬ ((0 : Int) < ((stp + (x0).toInt64)).toInt) := fun q => c20_206 (cl_gt.mpr q)
            refine Run.cast (st' := [(.int (0 : Int32))]) rfl ?_
            refine s_istore 154 C X (l' := #[.val (.int x0), .val (.int x1), .val (.int x2), .val (.ref o1), .val (.ref o2), .val (.int (2 : Int32)), .val (.int mm), .val (.ref o3), .val (.ref o60), .val (.ref o65), .val (.long ((2 : Int64) * (x0).toInt64)), .second, .val (.int (-1 : Int32)), .val (.int (0 : Int32)), .val (.int (0 : Int32)), .unset, .unset, .unset, .unset, .unset, .unset]) at_152 rfl ?_
            have kl0 : (0 : Int64).toInt = 0 := by decide
            have kl1 := c_i2l x0
            have kl2 := rng32 x0
            have kl3 : ((stp + (x0).toInt64)).toInt = (stp).toInt + ((x0).toInt64).toInt := by have u := c_ladd stp (x0).toInt64; have r := rng64 (stp + (x0).toInt64); omega
            exact TL T _ _ _ X _ _ _ _ _ (by decide) (by decide) (by omega) (Or.inr ⟨hm.resolve_left c136_795, rfl⟩) (Or.inr (Or.inr ⟨by omega, rfl, rfl⟩))
  refine s_iloadN 29 C X at_28 rfl ?_
  refine s_iconst 30 C X at_29 kc_iconst_1 ?_
  refine s_iand 31 C X at_30 ?_
  refine s_if_eq 38 34 C X at_31 (fun c31_867 => ?_) (fun c31_867 => ?_)
  · have t_c31_867 : ((x2 &&& (1 : Int32))).toInt = (0 : Int) := congrArg Int32.toInt c31_867
    refine s_iconst 39 C X at_38 kc_iconst_0 ?_
    exact J _ (Or.inl rfl)
  have t_c31_867 : ¬ (((x2 &&& (1 : Int32))).toInt = (0 : Int)) := fun q => c31_867 (Int32.toInt_inj.mp q)
  refine s_iconst 35 C X at_34 kc_iconst_1 ?_
  refine s_goto 39 C X at_35 ?_
  exact J _ (Or.inr rfl)
set_option maxRecDepth 65536 in
set_option maxHeartbeats 40000000 in
theorem comes_1 {Post : Tables → Env → Array Value → State → Outcome → State → Prop} (hpost : ∀ tb e args s v u, (limb_1_1.after args s (.returned v) u = true ∧ limb_1_2.after args s (.returned v) u = true ∧ True) → FrameEnd s (.returned v) u (Jvm.fieldLocs frame_1_writes args s ++ Jvm.arrayLocs frame_1_arrays args s ++ Jvm.staticLocs frame_1_statics s) 64 10752 → Post tb e args s (.returned v) u) :
    ArmFor flags0 classFile x code maxLocals ret World_1 tables_1 room_1 Calls_1 rest_1 Pre_1 Post := by
  intro l hfl _ _ p e ha hc hk s m args below hf hA hF happ hP
  obtain ⟨hcalls, hrest, hpre⟩ := hP
  obtain ⟨-, -, -, hnamed, -, -, -, hat⟩ := (Spec.applies_iff hf).mp happ
  obtain ⟨hg, hn⟩ := and_e (Cond.before_iff.mp (show (Jvm.Cond.and given_1 narrow_1).before args s = true from hpre))
  obtain ⟨g0, g1⟩ := and_e hg
  obtain ⟨ga0, gr0⟩ := and_e g1
  obtain ⟨ga1, gr1⟩ := and_e gr0
  obtain ⟨w0, w1, w2, rfl⟩ : ∃ w0 w1 w2 : Value, args = #[w0, w1, w2] := by
    have hs : args.size = 3 := by simpa [Cond.value, given_1] using g0
    obtain ⟨L⟩ := args
    match L, hs with
    | [w0, w1, w2], _ => exact ⟨w0, w1, w2, rfl⟩
  have hw := fun d (hd : d ∈ tables_1) => atoms_spec (ws := Jvm.Cond.code x code maxLocals ret :: tables_1) hat d (List.mem_cons_of_mem _ hd)
  have hfit : Fit s := fun {y c} hc i hi => by
    obtain ⟨ha, rfl⟩ := Array.getElem?_eq_some_iff.mp hc
    have q := List.all_eq_true.mp ((Array.all_eq_true_iff_forall_mem.mp hF) _ (Array.getElem_mem ha)) i (List.mem_range.mpr hi)
    simpa [Array.getElem?_eq_getElem hi] using q
  obtain ⟨i0, e0⟩ := is_v ga0
  obtain rfl : w0 = (.int i0) := Option.some.inj e0
  obtain ⟨i1, e1⟩ := is_v ga1
  obtain rfl : w1 = (.int i1) := Option.some.inj e1
  obtain ⟨i2, e2⟩ := is_v gr1
  obtain rfl : w2 = (.int i2) := Option.some.inj e2
  obtain ⟨n, o, h1, h2, h3, _, L, rfl, ⟨rfl, N⟩, hq⟩ := rm0 l s _ hw i0 i1 i2  s.heap s.heap.size (Nat.le_refl _)  p e ha hc hk s m _ below hf ((Spec.applies_iff_loose hf).mp happ).1 ⟨rfl, State.Warmed39.refl s, rfl⟩ trivial
  exact ⟨n, _, h1, h2, h3, hpost _ _ _ _ _ _ ⟨Cond.after_iff.mpr rfl, Cond.after_iff.mpr (eq_i res_at (Term.int_eval (1)) rfl), trivial⟩ ⟨hq.1, hq.2.1, (hq.2.2.sift fun y hy => Or.inr (N y hy)).mono (by decide) (by decide)⟩⟩
theorem main_1_1 : Claimed_1_1 := comes_1 fun _ _ _ _ _ _ h hF => ⟨h.1, hF⟩
theorem main_1_2 : Claimed_1_2 := comes_1 fun _ _ _ _ _ _ h hF => ⟨h.2.1, hF⟩
end Jvm.Pilot.@@N@@
namespace Jvm.Pilot.@@N@@
open Jvm Jvm.ClassFile Sem Op Lib Jvm.Free Jvm.Stand Jvm.Pilot.@@N@@.Jvm.D
/-! MADE BY PROGRAM (witnessworld.py) out of the Statement's table words and the real class files: 16 classes; the members and pool entries that the words name. The judged class is class 1, her method 1. -/
namespace start1
open Jvm.ClassFile
def u (s : String) : CpInfo := .utf8 (stringToUtf16 s)
/-- a pool by its gaps: so many unusable entries, then the entry; so many at the end -/
def gap : Nat → List CpInfo → List CpInfo
  | 0, r => r
  | n + 1, r => .unusable :: gap n r
def poolList (es : List (Nat × CpInfo)) (last : Nat) : List CpInfo := es.foldr (fun e r => gap e.1 (e.2 :: r)) (gap last [])
def pool (es : List (Nat × CpInfo)) (last : Nat) : Array CpInfo := ⟨poolList es last⟩
def fileOf (pool : Array CpInfo) (this : Nat) (attrs : Array Attribute := #[]) (ms : Array MethodInfo := #[]) (fl : Nat := 33) (sup : Nat := 0) (ifs : Array Nat := #[]) (fds : Array FieldInfo := #[]) : ClassFile where
  minorVersion := 0
  majorVersion := 65
  constantPool := pool
  accessFlags := fl
  thisClass := this
  superClass := sup
  interfaces := ifs
  fields := fds
  methods := ms
  attributes := attrs
def plain (name : String) (sup : Option ClassId) : Class where
  name := name
  kind := .ordinary
  loader := none
  accessFlags := 33
  super := sup
  interfaces := #[]
  cf := none
  fields := #[]
  methods := #[]
  instanceTypes := #[]
  staticTypes := #[]
  resolved := #[]
  callSites := []
  init := .initialized
  statics := none
  mirror := none

def pool0 : Array CpInfo := pool [(5, u "<init>"), (0, u "()V"), (1, .class_ 10), (1, u "java/lang/Object")] 113

def k0c0 : Code := { maxStack := 0, maxLocals := 1, code := object_method_1_code, exceptionTable := #[], attributes := #[] }
def k0m0 : Method := { name := "<init>", desc := "()V", sig := { parameters := [], returnType := none }, accessFlags := 1, code := some k0c0 }
/-- java/lang/Object -/
def k0 : Class := { plain "java/lang/Object" none with
  accessFlags := 33
  interfaces := #[]
  cf := some (fileOf pool0 8 #[] #[{ accessFlags := 1, nameIndex := 5, descriptorIndex := 6, attributes := #[] }] 33 0 #[] #[])
  fields := #[]
  methods := #[k0m0]
  instanceTypes := #[]
  staticTypes := #[]
  resolved := Array.replicate 124 none
  statics := none }

def pool1 : Array CpInfo := pool [(2, .class_ 4), (0, .nameAndType 5 6), (0, u "java/lang/Object"), (0, u "<init>"), (0, u "()V"), (0, .long 2), (1, .integer 2147483647), (0, .class_ 11), (0, u "com/example/eventloom/eventloom/net/MarkingStore"), (0, .methodref 10 3), (0, .methodref 10 14), (0, .nameAndType 15 16), (0, u "add"), (0, u "([J)I"), (0, .class_ 18), (0, u "com/example/eventloom/eventloom/net/IntList"), (0, .methodref 17 3), (0, .methodref 17 21), (0, .nameAndType 15 22), (0, u "(I)V"), (0, .class_ 24), (0, u "com/example/eventloom/eventloom/verification/CoverSearch"), (0, .methodref 23 26), (0, .nameAndType 5 27), (0, u "(Lcom/example/eventloom/eventloom/net/MarkingStore;Lcom/example/eventloom/eventloom/net/IntList;II)V"), (0, .methodref 23 29), (0, .nameAndType 30 6), (0, u "grant"), (0, .methodref 23 32), (0, .nameAndType 33 34), (0, u "advance"), (0, u "()I"), (0, .methodref 23 36), (0, .nameAndType 37 38), (0, u "covers"), (0, u "([JI)Z"), (0, .long 3), (1, .class_ 42), (0, u "com/example/eventloom/eventloom/verification/CoverSearchGrantPinLaw"), (2, u "law"), (0, u "(III)Z")] 5

def k1m0 : Method := { name := "<init>", desc := "()V", sig := { parameters := [], returnType := none }, accessFlags := 1, code := none }
def k1c1 : Code := { maxStack := 6, maxLocals := 21, code := code, exceptionTable := #[], attributes := #[] }
def k1m1 : Method := { name := "law", desc := "(III)Z", sig := { parameters := [.int, .int, .int], returnType := some .boolean }, accessFlags := 9, code := some k1c1 }
/-- com/example/eventloom/eventloom/verification/CoverSearchGrantPinLaw -/
def k1 : Class := { plain "com/example/eventloom/eventloom/verification/CoverSearchGrantPinLaw" (some 0) with
  accessFlags := 49
  interfaces := #[]
  cf := some (fileOf pool1 41 #[] #[{ accessFlags := 1, nameIndex := 5, descriptorIndex := 6, attributes := #[] }, { accessFlags := 9, nameIndex := 45, descriptorIndex := 46, attributes := #[] }] 49 2 #[] #[])
  fields := #[]
  methods := #[k1m0, k1m1]
  instanceTypes := #[]
  staticTypes := #[]
  resolved := Array.replicate 52 none
  statics := none }

def pool2 : Array CpInfo := pool [(1, .methodref 2 3), (0, .class_ 4), (0, .nameAndType 5 6), (0, u "java/lang/Object"), (0, u "<init>"), (0, u "()V"), (0, .fieldref 8 9), (0, .class_ 10), (0, .nameAndType 11 12), (0, u "com/example/eventloom/eventloom/net/MarkingStore"), (0, u "bytes"), (0, u "[B"), (0, .class_ 14), (0, u "com/example/eventloom/eventloom/net/IntList"), (0, .methodref 13 3), (0, .fieldref 8 17), (0, .nameAndType 18 19), (0, u "starts"), (0, u "Lcom/example/eventloom/eventloom/net/IntList;"), (0, .fieldref 8 21), (0, .nameAndType 22 19), (0, u "hashes"), (0, .methodref 8 24), (0, .nameAndType 25 26), (0, u "emptyTable"), (0, u "(I)[I"), (0, .fieldref 8 28), (0, .nameAndType 29 30), (0, u "table"), (0, u "[I"), (0, .fieldref 8 32), (0, .nameAndType 33 12), (0, u "encoded"), (0, .methodref 13 35), (0, .nameAndType 36 37), (0, u "size"), (0, u "()I"), (0, .methodref 8 39), (0, .nameAndType 40 41), (0, u "encode"), (0, u "([J)V"), (0, .methodref 8 43), (0, .nameAndType 44 37), (0, u "slot"), (0, .methodref 8 35), (0, .fieldref 8 47), (0, .nameAndType 48 49), (0, u "length"), (0, u "I"), (0, .fieldref 8 51), (0, .nameAndType 52 49), (0, u "encodedLength"), (5, .class_ 60), (1, u "java/util/Arrays"), (2, .methodref 64 65), (0, .class_ 66), (0, .nameAndType 67 68), (0, u "java/lang/System"), (0, u "arraycopy"), (0, u "(Ljava/lang/Object;ILjava/lang/Object;II)V"), (0, .methodref 13 70), (0, .nameAndType 71 72), (0, u "add"), (0, u "(I)V"), (0, .fieldref 8 74), (0, .nameAndType 75 49), (0, u "encodedHash"), (0, .long 2), (6, u "fill"), (1, .methodref 13 86), (0, .nameAndType 87 88), (0, u "get"), (0, u "(I)I"), (0, .fieldref 8 90), (0, .nameAndType 91 49), (0, u "position"), (0, .methodref 8 93), (0, .nameAndType 94 88), (0, u "end"), (0, .methodref 8 96), (0, .nameAndType 97 98), (0, u "read"), (0, u "()J"), (0, .long 20), (1, .methodref 8 102), (0, .nameAndType 103 104), (0, u "write"), (0, u "(J)V"), (0, .long 18446744073709551488), (1, .long 127), (1, .long 128), (1, .methodref 8 112), (0, .nameAndType 113 88), (0, u "spread"), (8, .methodref 58 123), (0, .nameAndType 83 124), (0, u "([II)V"), (0, .integer 2246822507), (0, .integer 3266489909), (0, u "EMPTY"), (5, u "([J)I"), (2, u "getMarked"), (0, u "(I[I[J)I"), (0, u "uncovered"), (0, u "(I[J[I)I")] 5

def k2c0 : Code := { maxStack := 3, maxLocals := 1, code := prog_86_method_1_code, exceptionTable := #[], attributes := #[] }
def k2m0 : Method := { name := "<init>", desc := "()V", sig := { parameters := [], returnType := none }, accessFlags := 1, code := some k2c0 }
def k2c1 : Code := { maxStack := 1, maxLocals := 1, code := prog_86_method_2_code, exceptionTable := #[], attributes := #[] }
def k2m1 : Method := { name := "size", desc := "()I", sig := { parameters := [], returnType := some .int }, accessFlags := 1, code := some k2c1 }
def k2c2 : Code := { maxStack := 7, maxLocals := 4, code := prog_86_method_4_code, exceptionTable := #[], attributes := #[] }
def k2m2 : Method := { name := "add", desc := "([J)I", sig := { parameters := [(.array .long)], returnType := some .int }, accessFlags := 1, code := some k2c2 }
def k2c3 : Code := { maxStack := 4, maxLocals := 7, code := prog_86_method_6_code, exceptionTable := #[], attributes := #[] }
def k2m3 : Method := { name := "getMarked", desc := "(I[I[J)I", sig := { parameters := [.int, (.array .int), (.array .long)], returnType := some .int }, accessFlags := 1, code := some k2c3 }
def k2c4 : Code := { maxStack := 4, maxLocals := 11, code := prog_86_method_7_code, exceptionTable := #[], attributes := #[] }
def k2m4 : Method := { name := "uncovered", desc := "(I[J[I)I", sig := { parameters := [.int, (.array .long), (.array .int)], returnType := some .int }, accessFlags := 1, code := some k2c4 }
def k2c5 : Code := { maxStack := 3, maxLocals := 2, code := prog_86_method_8_code, exceptionTable := #[], attributes := #[] }
def k2m5 : Method := { name := "length", desc := "(I)I", sig := { parameters := [.int], returnType := some .int }, accessFlags := 1, code := some k2c5 }
def k2c6 : Code := { maxStack := 3, maxLocals := 2, code := prog_86_method_9_code, exceptionTable := #[], attributes := #[] }
def k2m6 : Method := { name := "end", desc := "(I)I", sig := { parameters := [.int], returnType := some .int }, accessFlags := 2, code := some k2c6 }
def k2c7 : Code := { maxStack := 5, maxLocals := 5, code := prog_86_method_10_code, exceptionTable := #[], attributes := #[] }
def k2m7 : Method := { name := "read", desc := "()J", sig := { parameters := [], returnType := some .long }, accessFlags := 2, code := some k2c7 }
def k2c8 : Code := { maxStack := 7, maxLocals := 5, code := prog_86_method_11_code, exceptionTable := #[], attributes := #[] }
def k2m8 : Method := { name := "encode", desc := "([J)V", sig := { parameters := [(.array .long)], returnType := none }, accessFlags := 2, code := some k2c8 }
def k2c9 : Code := { maxStack := 6, maxLocals := 5, code := prog_86_method_12_code, exceptionTable := #[], attributes := #[] }
def k2m9 : Method := { name := "write", desc := "(J)V", sig := { parameters := [.long], returnType := none }, accessFlags := 2, code := some k2c9 }
def k2c10 : Code := { maxStack := 2, maxLocals := 4, code := prog_86_method_13_code, exceptionTable := #[], attributes := #[] }
def k2m10 : Method := { name := "slot", desc := "()I", sig := { parameters := [], returnType := some .int }, accessFlags := 2, code := some k2c10 }
def k2c11 : Code := { maxStack := 2, maxLocals := 2, code := prog_86_method_16_code, exceptionTable := #[], attributes := #[] }
def k2m11 : Method := { name := "emptyTable", desc := "(I)[I", sig := { parameters := [.int], returnType := some (.array .int) }, accessFlags := 10, code := some k2c11 }
def k2c12 : Code := { maxStack := 3, maxLocals := 2, code := prog_86_method_17_code, exceptionTable := #[], attributes := #[] }
def k2m12 : Method := { name := "spread", desc := "(I)I", sig := { parameters := [.int], returnType := some .int }, accessFlags := 10, code := some k2c12 }
/-- com/example/eventloom/eventloom/net/MarkingStore -/
def k2 : Class := { plain "com/example/eventloom/eventloom/net/MarkingStore" (some 0) with
  accessFlags := 49
  interfaces := #[]
  cf := some (fileOf pool2 8 #[] #[{ accessFlags := 1, nameIndex := 5, descriptorIndex := 6, attributes := #[] }, { accessFlags := 1, nameIndex := 36, descriptorIndex := 37, attributes := #[] }, { accessFlags := 1, nameIndex := 71, descriptorIndex := 133, attributes := #[] }, { accessFlags := 1, nameIndex := 136, descriptorIndex := 137, attributes := #[] }, { accessFlags := 1, nameIndex := 138, descriptorIndex := 139, attributes := #[] }, { accessFlags := 1, nameIndex := 48, descriptorIndex := 88, attributes := #[] }, { accessFlags := 2, nameIndex := 94, descriptorIndex := 88, attributes := #[] }, { accessFlags := 2, nameIndex := 97, descriptorIndex := 98, attributes := #[] }, { accessFlags := 2, nameIndex := 40, descriptorIndex := 41, attributes := #[] }, { accessFlags := 2, nameIndex := 103, descriptorIndex := 104, attributes := #[] }, { accessFlags := 2, nameIndex := 44, descriptorIndex := 37, attributes := #[] }, { accessFlags := 10, nameIndex := 25, descriptorIndex := 26, attributes := #[] }, { accessFlags := 10, nameIndex := 113, descriptorIndex := 88, attributes := #[] }] 49 2 #[] #[{ accessFlags := 26, nameIndex := 127, descriptorIndex := 49, attributes := #[] }, { accessFlags := 2, nameIndex := 11, descriptorIndex := 12, attributes := #[] }, { accessFlags := 2, nameIndex := 48, descriptorIndex := 49, attributes := #[] }, { accessFlags := 18, nameIndex := 18, descriptorIndex := 19, attributes := #[] }, { accessFlags := 18, nameIndex := 22, descriptorIndex := 19, attributes := #[] }, { accessFlags := 2, nameIndex := 29, descriptorIndex := 30, attributes := #[] }, { accessFlags := 2, nameIndex := 33, descriptorIndex := 12, attributes := #[] }, { accessFlags := 2, nameIndex := 52, descriptorIndex := 49, attributes := #[] }, { accessFlags := 2, nameIndex := 75, descriptorIndex := 49, attributes := #[] }, { accessFlags := 2, nameIndex := 91, descriptorIndex := 49, attributes := #[] }])
  fields := #[{ name := "EMPTY", type := .int, accessFlags := 26, slot := 0, constantValue := 0 }, { name := "bytes", type := (.array .byte), accessFlags := 2, slot := 0, constantValue := 0 }, { name := "length", type := .int, accessFlags := 2, slot := 1, constantValue := 0 }, { name := "starts", type := (.object "com/example/eventloom/eventloom/net/IntList"), accessFlags := 18, slot := 2, constantValue := 0 }, { name := "hashes", type := (.object "com/example/eventloom/eventloom/net/IntList"), accessFlags := 18, slot := 3, constantValue := 0 }, { name := "table", type := (.array .int), accessFlags := 2, slot := 4, constantValue := 0 }, { name := "encoded", type := (.array .byte), accessFlags := 2, slot := 5, constantValue := 0 }, { name := "encodedLength", type := .int, accessFlags := 2, slot := 6, constantValue := 0 }, { name := "encodedHash", type := .int, accessFlags := 2, slot := 7, constantValue := 0 }, { name := "position", type := .int, accessFlags := 2, slot := 8, constantValue := 0 }]
  methods := #[k2m0, k2m1, k2m2, k2m3, k2m4, k2m5, k2m6, k2m7, k2m8, k2m9, k2m10, k2m11, k2m12]
  instanceTypes := #[(.array .byte), .int, (.object "com/example/eventloom/eventloom/net/IntList"), (.object "com/example/eventloom/eventloom/net/IntList"), (.array .int), (.array .byte), .int, .int, .int]
  staticTypes := #[.int]
  resolved := Array.replicate 145 none
  statics := none }

def pool3 : Array CpInfo := pool [(3, .methodref 4 5), (0, .class_ 6), (0, .nameAndType 7 8), (0, u "java/lang/Object"), (0, u "<init>"), (0, u "()V"), (0, .fieldref 10 11), (0, .class_ 12), (0, .nameAndType 13 14), (0, u "com/example/eventloom/eventloom/net/IntList"), (0, u "values"), (0, u "[I"), (0, .fieldref 10 16), (0, .nameAndType 17 18), (0, u "size"), (0, u "I"), (32, u "MAX_LENGTH"), (4, u "()I"), (0, u "get"), (0, u "(I)I"), (2, u "add"), (0, u "(I)V")] 18

def k3c0 : Code := { maxStack := 2, maxLocals := 1, code := prog_85_method_1_code, exceptionTable := #[], attributes := #[] }
def k3m0 : Method := { name := "<init>", desc := "()V", sig := { parameters := [], returnType := none }, accessFlags := 1, code := some k3c0 }
def k3c1 : Code := { maxStack := 1, maxLocals := 1, code := prog_85_method_2_code, exceptionTable := #[], attributes := #[] }
def k3m1 : Method := { name := "size", desc := "()I", sig := { parameters := [], returnType := some .int }, accessFlags := 1, code := some k3c1 }
def k3c2 : Code := { maxStack := 2, maxLocals := 2, code := prog_85_method_3_code, exceptionTable := #[], attributes := #[] }
def k3m2 : Method := { name := "get", desc := "(I)I", sig := { parameters := [.int], returnType := some .int }, accessFlags := 1, code := some k3c2 }
def k3c3 : Code := { maxStack := 7, maxLocals := 2, code := prog_85_method_5_code, exceptionTable := #[], attributes := #[] }
def k3m3 : Method := { name := "add", desc := "(I)V", sig := { parameters := [.int], returnType := none }, accessFlags := 1, code := some k3c3 }
/-- com/example/eventloom/eventloom/net/IntList -/
def k3 : Class := { plain "com/example/eventloom/eventloom/net/IntList" (some 0) with
  accessFlags := 49
  interfaces := #[]
  cf := some (fileOf pool3 10 #[] #[{ accessFlags := 1, nameIndex := 7, descriptorIndex := 8, attributes := #[] }, { accessFlags := 1, nameIndex := 17, descriptorIndex := 56, attributes := #[] }, { accessFlags := 1, nameIndex := 57, descriptorIndex := 58, attributes := #[] }, { accessFlags := 1, nameIndex := 61, descriptorIndex := 62, attributes := #[] }] 49 4 #[] #[{ accessFlags := 26, nameIndex := 51, descriptorIndex := 18, attributes := #[] }, { accessFlags := 2, nameIndex := 13, descriptorIndex := 14, attributes := #[] }, { accessFlags := 2, nameIndex := 17, descriptorIndex := 18, attributes := #[] }])
  fields := #[{ name := "MAX_LENGTH", type := .int, accessFlags := 26, slot := 0, constantValue := 0 }, { name := "values", type := (.array .int), accessFlags := 2, slot := 0, constantValue := 0 }, { name := "size", type := .int, accessFlags := 2, slot := 1, constantValue := 0 }]
  methods := #[k3m0, k3m1, k3m2, k3m3]
  instanceTypes := #[(.array .int), .int]
  staticTypes := #[.int]
  resolved := Array.replicate 81 none
  statics := none }

def pool4 : Array CpInfo := pool [(2, .class_ 4), (1, u "java/lang/Object"), (0, u "<init>"), (0, u "()V"), (7, .class_ 16), (1, u "java/util/Arrays"), (57, .class_ 76), (1, u "java/util/Arrays$NaturalOrder"), (36, .class_ 115), (1, u "java/util/Arrays$LegacyMergeSort"), (1, u "Z"), (257, .class_ 376), (0, u "java/util/Arrays$ArrayList"), (68, u "$assertionsDisabled"), (269, u "MIN_ARRAY_SORT_GRAN"), (0, u "I"), (2, u "INSERTIONSORT_THRESHOLD"), (120, u "fill"), (4, u "([II)V"), (129, .class_ 976), (0, u "java/util/Arrays$ArrayItr")] 52

def k4m0 : Method := { name := "<init>", desc := "()V", sig := { parameters := [], returnType := none }, accessFlags := 2, code := none }
def k4c1 : Code := { maxStack := 3, maxLocals := 4, code := jdk_65_method_103_code, exceptionTable := #[], attributes := #[] }
def k4m1 : Method := { name := "fill", desc := "([II)V", sig := { parameters := [(.array .int), .int], returnType := none }, accessFlags := 9, code := some k4c1 }
/-- java/util/Arrays -/
def k4 : Class := { plain "java/util/Arrays" (some 0) with
  accessFlags := 49
  interfaces := #[]
  cf := some (fileOf pool4 14 #[.nestMembers #[975, 375, 113, 74]] #[{ accessFlags := 2, nameIndex := 5, descriptorIndex := 6, attributes := #[] }, { accessFlags := 9, nameIndex := 840, descriptorIndex := 845, attributes := #[] }] 49 2 #[] #[{ accessFlags := 26, nameIndex := 715, descriptorIndex := 716, attributes := #[] }, { accessFlags := 26, nameIndex := 719, descriptorIndex := 716, attributes := #[] }, { accessFlags := 4120, nameIndex := 445, descriptorIndex := 117, attributes := #[] }])
  fields := #[{ name := "MIN_ARRAY_SORT_GRAN", type := .int, accessFlags := 26, slot := 0, constantValue := 0 }, { name := "INSERTIONSORT_THRESHOLD", type := .int, accessFlags := 26, slot := 1, constantValue := 0 }, { name := "$assertionsDisabled", type := .boolean, accessFlags := 4120, slot := 2, constantValue := 0 }]
  methods := #[k4m0, k4m1]
  instanceTypes := #[]
  staticTypes := #[.int, .int, .boolean]
  resolved := Array.replicate 1029 none
  statics := none }

def pool5 : Array CpInfo := pool [(2, .class_ 4), (1, u "java/lang/Object"), (0, u "<init>"), (0, u "()V"), (1, .class_ 10), (1, u "java/lang/System"), (0, u "allowSecurityManager"), (0, u "I"), (16, u "cons"), (0, u "Ljava/io/Console;"), (77, .class_ 110), (1, u "java/lang/System$CallersHolder"), (43, u "initialErrStream"), (0, u "Ljava/io/PrintStream;"), (19, u "security"), (0, u "Ljava/lang/SecurityManager;"), (31, .class_ 209), (0, u "java/lang/System$1"), (7, u "props"), (0, u "Ljava/util/Properties;"), (2, u "lineSeparator"), (0, u "Ljava/lang/String;"), (96, .class_ 321), (1, u "java/lang/System$LoggerFinder"), (5, .class_ 328), (0, u "java/lang/System$Logger"), (67, u "err"), (2, u "out"), (91, u "notSupportedJnuEncoding"), (15, u "in"), (17, u "initialIn"), (0, u "Ljava/io/InputStream;"), (35, u "bootLayer"), (0, u "Ljava/lang/ModuleLayer;"), (99, .class_ 664), (0, u "java/lang/System$2"), (9, u "NEVER"), (2, u "MAYBE"), (49, u "arraycopy"), (0, u "(Ljava/lang/Object;ILjava/lang/Object;II)V"), (72, .class_ 802), (0, u "java/lang/System$Logger$Level")] 31

def k5m0 : Method := { name := "<init>", desc := "()V", sig := { parameters := [], returnType := none }, accessFlags := 2, code := none }
def k5m1 : Method := { name := "arraycopy", desc := "(Ljava/lang/Object;ILjava/lang/Object;II)V", sig := { parameters := [(.object "java/lang/Object"), .int, (.object "java/lang/Object"), .int, .int], returnType := none }, accessFlags := 265, code := none }
/-- java/lang/System -/
def k5 : Class := { plain "java/lang/System" (some 0) with
  accessFlags := 49
  interfaces := #[]
  cf := some (fileOf pool5 8 #[.nestMembers #[319, 327, 801, 108, 663, 208]] #[{ accessFlags := 2, nameIndex := 5, descriptorIndex := 6, attributes := #[] }, { accessFlags := 265, nameIndex := 727, descriptorIndex := 728, attributes := #[] }] 49 2 #[] #[{ accessFlags := 25, nameIndex := 507, descriptorIndex := 526, attributes := #[] }, { accessFlags := 25, nameIndex := 399, descriptorIndex := 155, attributes := #[] }, { accessFlags := 25, nameIndex := 396, descriptorIndex := 155, attributes := #[] }, { accessFlags := 10, nameIndex := 525, descriptorIndex := 526, attributes := #[] }, { accessFlags := 26, nameIndex := 674, descriptorIndex := 12, attributes := #[] }, { accessFlags := 26, nameIndex := 677, descriptorIndex := 12, attributes := #[] }, { accessFlags := 10, nameIndex := 11, descriptorIndex := 12, attributes := #[] }, { accessFlags := 74, nameIndex := 175, descriptorIndex := 176, attributes := #[] }, { accessFlags := 10, nameIndex := 491, descriptorIndex := 222, attributes := #[] }, { accessFlags := 74, nameIndex := 29, descriptorIndex := 30, attributes := #[] }, { accessFlags := 74, nameIndex := 154, descriptorIndex := 155, attributes := #[] }, { accessFlags := 10, nameIndex := 217, descriptorIndex := 218, attributes := #[] }, { accessFlags := 10, nameIndex := 221, descriptorIndex := 222, attributes := #[] }, { accessFlags := 8, nameIndex := 562, descriptorIndex := 563, attributes := #[] }])
  fields := #[{ name := "in", type := (.object "java/io/InputStream"), accessFlags := 25, slot := 0, constantValue := 0 }, { name := "out", type := (.object "java/io/PrintStream"), accessFlags := 25, slot := 1, constantValue := 0 }, { name := "err", type := (.object "java/io/PrintStream"), accessFlags := 25, slot := 2, constantValue := 0 }, { name := "initialIn", type := (.object "java/io/InputStream"), accessFlags := 10, slot := 3, constantValue := 0 }, { name := "NEVER", type := .int, accessFlags := 26, slot := 4, constantValue := 0 }, { name := "MAYBE", type := .int, accessFlags := 26, slot := 5, constantValue := 0 }, { name := "allowSecurityManager", type := .int, accessFlags := 10, slot := 6, constantValue := 0 }, { name := "security", type := (.object "java/lang/SecurityManager"), accessFlags := 74, slot := 7, constantValue := 0 }, { name := "notSupportedJnuEncoding", type := (.object "java/lang/String"), accessFlags := 10, slot := 8, constantValue := 0 }, { name := "cons", type := (.object "java/io/Console"), accessFlags := 74, slot := 9, constantValue := 0 }, { name := "initialErrStream", type := (.object "java/io/PrintStream"), accessFlags := 74, slot := 10, constantValue := 0 }, { name := "props", type := (.object "java/util/Properties"), accessFlags := 10, slot := 11, constantValue := 0 }, { name := "lineSeparator", type := (.object "java/lang/String"), accessFlags := 10, slot := 12, constantValue := 0 }, { name := "bootLayer", type := (.object "java/lang/ModuleLayer"), accessFlags := 8, slot := 13, constantValue := 0 }]
  methods := #[k5m0, k5m1]
  instanceTypes := #[]
  staticTypes := #[(.object "java/io/InputStream"), (.object "java/io/PrintStream"), (.object "java/io/PrintStream"), (.object "java/io/InputStream"), .int, .int, .int, (.object "java/lang/SecurityManager"), (.object "java/lang/String"), (.object "java/io/Console"), (.object "java/io/PrintStream"), (.object "java/util/Properties"), (.object "java/lang/String"), (.object "java/lang/ModuleLayer")]
  resolved := Array.replicate 834 none
  statics := none }

def pool6 : Array CpInfo := pool [(1, .methodref 2 3), (0, .class_ 4), (0, .nameAndType 5 6), (0, u "java/lang/Object"), (0, u "<init>"), (0, u "()V"), (0, .fieldref 8 9), (0, .class_ 10), (0, .nameAndType 11 12), (0, u "com/example/eventloom/eventloom/verification/CoverSearch"), (0, u "tokens"), (0, u "[J"), (0, .class_ 14), (0, u "com/example/eventloom/eventloom/net/IntList"), (0, .methodref 13 3), (0, .fieldref 8 17), (0, .nameAndType 18 19), (0, u "nearestFewer"), (0, u "Lcom/example/eventloom/eventloom/net/IntList;"), (0, .class_ 21), (0, u "com/example/eventloom/eventloom/verification/IntBlockList"), (0, .methodref 20 3), (0, .fieldref 8 24), (0, .nameAndType 25 26), (0, u "nearestUnmarked"), (0, u "Lcom/example/eventloom/eventloom/verification/IntBlockList;"), (0, .fieldref 8 28), (0, .nameAndType 29 19), (0, u "firstNearestUnmarked"), (0, .fieldref 8 31), (0, .nameAndType 32 33), (0, u "markings"), (0, u "Lcom/example/eventloom/eventloom/net/MarkingStore;"), (0, .fieldref 8 35), (0, .nameAndType 36 19), (0, u "parents"), (0, .fieldref 8 38), (0, .nameAndType 39 40), (0, u "stepsPerMarking"), (0, u "I"), (0, .fieldref 8 42), (0, .nameAndType 43 12), (0, u "searchedMarking"), (0, .fieldref 8 45), (0, .nameAndType 46 47), (0, u "searchedPlaces"), (0, u "[I"), (0, .fieldref 8 49), (0, .nameAndType 50 12), (0, u "searchedTokens"), (0, .fieldref 8 52), (0, .nameAndType 53 47), (0, u "parentPlaces"), (0, .fieldref 8 55), (0, .nameAndType 56 12), (0, u "parentTokens"), (0, .fieldref 8 58), (0, .nameAndType 59 47), (0, u "unmarkedRanks"), (0, .fieldref 8 61), (0, .nameAndType 62 63), (0, u "steps"), (0, u "J"), (2, .fieldref 8 67), (0, .nameAndType 68 40), (0, u "searched"), (0, .methodref 70 71), (0, .class_ 72), (0, .nameAndType 73 74), (0, u "com/example/eventloom/eventloom/net/MarkingStore"), (0, u "size"), (0, u "()I"), (0, .methodref 70 76), (0, .nameAndType 77 78), (0, u "getMarked"), (0, u "(I[I[J)I"), (0, .methodref 13 80), (0, .nameAndType 81 82), (0, u "get"), (0, u "(I)I"), (0, .methodref 8 84), (0, .nameAndType 85 86), (0, u "walk"), (0, u "([JJI)I"), (10, .methodref 13 98), (0, .nameAndType 99 100), (0, u "add"), (0, u "(I)V"), (0, .methodref 8 102), (0, .nameAndType 103 104), (0, u "addNearestUnmarked"), (0, u "(II)V"), (0, .methodref 8 106), (0, .nameAndType 107 108), (0, u "total"), (0, u "([J)J"), (0, .methodref 70 110), (0, .nameAndType 111 82), (0, u "length"), (0, .methodref 70 113), (0, .nameAndType 114 115), (0, u "uncovered"), (0, u "(I[J[I)I"), (7, .methodref 20 71), (0, .methodref 20 98), (0, u "FINISHING_STEPS"), (1, u "COVERS"), (1, u "(Lcom/example/eventloom/eventloom/net/MarkingStore;Lcom/example/eventloom/eventloom/net/IntList;II)V"), (2, u "grant"), (1, u "advance"), (1, u "covers"), (0, u "([JI)Z")] 3

def k6c0 : Code := { maxStack := 3, maxLocals := 5, code := prog_117_method_1_code, exceptionTable := #[], attributes := #[] }
def k6m0 : Method := { name := "<init>", desc := "(Lcom/example/eventloom/eventloom/net/MarkingStore;Lcom/example/eventloom/eventloom/net/IntList;II)V", sig := { parameters := [(.object "com/example/eventloom/eventloom/net/MarkingStore"), (.object "com/example/eventloom/eventloom/net/IntList"), .int, .int], returnType := none }, accessFlags := 0, code := some k6c0 }
def k6c1 : Code := { maxStack := 5, maxLocals := 1, code := prog_117_method_2_code, exceptionTable := #[], attributes := #[] }
def k6m1 : Method := { name := "grant", desc := "()V", sig := { parameters := [], returnType := none }, accessFlags := 0, code := some k6c1 }
def k6c2 : Code := { maxStack := 7, maxLocals := 7, code := prog_117_method_4_code, exceptionTable := #[], attributes := #[] }
def k6m2 : Method := { name := "advance", desc := "()I", sig := { parameters := [], returnType := some .int }, accessFlags := 0, code := some k6c2 }
def k6c3 : Code := { maxStack := 5, maxLocals := 3, code := prog_117_method_5_code, exceptionTable := #[], attributes := #[] }
def k6m3 : Method := { name := "covers", desc := "([JI)Z", sig := { parameters := [(.array .long), .int], returnType := some .boolean }, accessFlags := 0, code := some k6c3 }
def k6c4 : Code := { maxStack := 5, maxLocals := 11, code := prog_117_method_6_code, exceptionTable := #[], attributes := #[] }
def k6m4 : Method := { name := "walk", desc := "([JJI)I", sig := { parameters := [(.array .long), .long, .int], returnType := some .int }, accessFlags := 2, code := some k6c4 }
def k6c5 : Code := { maxStack := 4, maxLocals := 9, code := prog_117_method_7_code, exceptionTable := #[], attributes := #[] }
def k6m5 : Method := { name := "addNearestUnmarked", desc := "(II)V", sig := { parameters := [.int, .int], returnType := none }, accessFlags := 2, code := some k6c5 }
def k6c6 : Code := { maxStack := 4, maxLocals := 8, code := prog_117_method_8_code, exceptionTable := #[], attributes := #[] }
def k6m6 : Method := { name := "total", desc := "([J)J", sig := { parameters := [(.array .long)], returnType := some .long }, accessFlags := 10, code := some k6c6 }
/-- com/example/eventloom/eventloom/verification/CoverSearch -/
def k6 : Class := { plain "com/example/eventloom/eventloom/verification/CoverSearch" (some 0) with
  accessFlags := 48
  interfaces := #[]
  cf := some (fileOf pool6 8 #[] #[{ accessFlags := 0, nameIndex := 5, descriptorIndex := 129, attributes := #[] }, { accessFlags := 0, nameIndex := 132, descriptorIndex := 6, attributes := #[] }, { accessFlags := 0, nameIndex := 134, descriptorIndex := 74, attributes := #[] }, { accessFlags := 0, nameIndex := 136, descriptorIndex := 137, attributes := #[] }, { accessFlags := 2, nameIndex := 85, descriptorIndex := 86, attributes := #[] }, { accessFlags := 2, nameIndex := 103, descriptorIndex := 104, attributes := #[] }, { accessFlags := 10, nameIndex := 107, descriptorIndex := 108, attributes := #[] }] 48 2 #[] #[{ accessFlags := 24, nameIndex := 125, descriptorIndex := 63, attributes := #[] }, { accessFlags := 26, nameIndex := 127, descriptorIndex := 40, attributes := #[] }, { accessFlags := 18, nameIndex := 32, descriptorIndex := 33, attributes := #[] }, { accessFlags := 18, nameIndex := 36, descriptorIndex := 19, attributes := #[] }, { accessFlags := 18, nameIndex := 39, descriptorIndex := 40, attributes := #[] }, { accessFlags := 2, nameIndex := 62, descriptorIndex := 63, attributes := #[] }, { accessFlags := 2, nameIndex := 68, descriptorIndex := 40, attributes := #[] }, { accessFlags := 2, nameIndex := 11, descriptorIndex := 12, attributes := #[] }, { accessFlags := 18, nameIndex := 18, descriptorIndex := 19, attributes := #[] }, { accessFlags := 18, nameIndex := 25, descriptorIndex := 26, attributes := #[] }, { accessFlags := 18, nameIndex := 29, descriptorIndex := 19, attributes := #[] }, { accessFlags := 18, nameIndex := 43, descriptorIndex := 12, attributes := #[] }, { accessFlags := 18, nameIndex := 46, descriptorIndex := 47, attributes := #[] }, { accessFlags := 18, nameIndex := 50, descriptorIndex := 12, attributes := #[] }, { accessFlags := 18, nameIndex := 53, descriptorIndex := 47, attributes := #[] }, { accessFlags := 18, nameIndex := 56, descriptorIndex := 12, attributes := #[] }, { accessFlags := 18, nameIndex := 59, descriptorIndex := 47, attributes := #[] }])
  fields := #[{ name := "FINISHING_STEPS", type := .long, accessFlags := 24, slot := 0, constantValue := 0 }, { name := "COVERS", type := .int, accessFlags := 26, slot := 1, constantValue := 0 }, { name := "markings", type := (.object "com/example/eventloom/eventloom/net/MarkingStore"), accessFlags := 18, slot := 0, constantValue := 0 }, { name := "parents", type := (.object "com/example/eventloom/eventloom/net/IntList"), accessFlags := 18, slot := 1, constantValue := 0 }, { name := "stepsPerMarking", type := .int, accessFlags := 18, slot := 2, constantValue := 0 }, { name := "steps", type := .long, accessFlags := 2, slot := 3, constantValue := 0 }, { name := "searched", type := .int, accessFlags := 2, slot := 4, constantValue := 0 }, { name := "tokens", type := (.array .long), accessFlags := 2, slot := 5, constantValue := 0 }, { name := "nearestFewer", type := (.object "com/example/eventloom/eventloom/net/IntList"), accessFlags := 18, slot := 6, constantValue := 0 }, { name := "nearestUnmarked", type := (.object "com/example/eventloom/eventloom/verification/IntBlockList"), accessFlags := 18, slot := 7, constantValue := 0 }, { name := "firstNearestUnmarked", type := (.object "com/example/eventloom/eventloom/net/IntList"), accessFlags := 18, slot := 8, constantValue := 0 }, { name := "searchedMarking", type := (.array .long), accessFlags := 18, slot := 9, constantValue := 0 }, { name := "searchedPlaces", type := (.array .int), accessFlags := 18, slot := 10, constantValue := 0 }, { name := "searchedTokens", type := (.array .long), accessFlags := 18, slot := 11, constantValue := 0 }, { name := "parentPlaces", type := (.array .int), accessFlags := 18, slot := 12, constantValue := 0 }, { name := "parentTokens", type := (.array .long), accessFlags := 18, slot := 13, constantValue := 0 }, { name := "unmarkedRanks", type := (.array .int), accessFlags := 18, slot := 14, constantValue := 0 }]
  methods := #[k6m0, k6m1, k6m2, k6m3, k6m4, k6m5, k6m6]
  instanceTypes := #[(.object "com/example/eventloom/eventloom/net/MarkingStore"), (.object "com/example/eventloom/eventloom/net/IntList"), .int, .long, .int, (.array .long), (.object "com/example/eventloom/eventloom/net/IntList"), (.object "com/example/eventloom/eventloom/verification/IntBlockList"), (.object "com/example/eventloom/eventloom/net/IntList"), (.array .long), (.array .int), (.array .long), (.array .int), (.array .long), (.array .int)]
  staticTypes := #[.long, .int]
  resolved := Array.replicate 141 none
  statics := none }

def pool7 : Array CpInfo := pool [(1, .class_ 2), (0, u "com/example/eventloom/eventloom/verification/IntBlockList"), (0, .methodref 4 5), (0, .class_ 6), (0, .nameAndType 7 8), (0, u "java/lang/Object"), (0, u "<init>"), (0, u "()V"), (0, .class_ 10), (0, u "[I"), (0, .fieldref 1 12), (0, .nameAndType 13 14), (0, u "blocks"), (0, u "[[I"), (0, .fieldref 1 16), (0, .nameAndType 17 18), (0, u "size"), (0, u "I"), (2, .integer 2147483647), (20, u "BLOCK_BITS"), (2, u "BLOCK_LENGTH"), (1, u "IN_BLOCK"), (3, u "()I"), (2, u "add"), (0, u "(I)V")] 3

def k7c0 : Code := { maxStack := 2, maxLocals := 1, code := prog_119_method_1_code, exceptionTable := #[], attributes := #[] }
def k7m0 : Method := { name := "<init>", desc := "()V", sig := { parameters := [], returnType := none }, accessFlags := 0, code := some k7c0 }
def k7c1 : Code := { maxStack := 1, maxLocals := 1, code := prog_119_method_2_code, exceptionTable := #[], attributes := #[] }
def k7m1 : Method := { name := "size", desc := "()I", sig := { parameters := [], returnType := some .int }, accessFlags := 0, code := some k7c1 }
def k7c2 : Code := { maxStack := 7, maxLocals := 3, code := prog_119_method_4_code, exceptionTable := #[], attributes := #[] }
def k7m2 : Method := { name := "add", desc := "(I)V", sig := { parameters := [.int], returnType := none }, accessFlags := 0, code := some k7c2 }
/-- com/example/eventloom/eventloom/verification/IntBlockList -/
def k7 : Class := { plain "com/example/eventloom/eventloom/verification/IntBlockList" (some 0) with
  accessFlags := 48
  interfaces := #[]
  cf := some (fileOf pool7 1 #[] #[{ accessFlags := 0, nameIndex := 7, descriptorIndex := 8, attributes := #[] }, { accessFlags := 0, nameIndex := 17, descriptorIndex := 51, attributes := #[] }, { accessFlags := 0, nameIndex := 54, descriptorIndex := 55, attributes := #[] }] 48 4 #[] #[{ accessFlags := 26, nameIndex := 42, descriptorIndex := 18, attributes := #[] }, { accessFlags := 26, nameIndex := 45, descriptorIndex := 18, attributes := #[] }, { accessFlags := 26, nameIndex := 47, descriptorIndex := 18, attributes := #[] }, { accessFlags := 2, nameIndex := 13, descriptorIndex := 14, attributes := #[] }, { accessFlags := 2, nameIndex := 17, descriptorIndex := 18, attributes := #[] }])
  fields := #[{ name := "BLOCK_BITS", type := .int, accessFlags := 26, slot := 0, constantValue := 0 }, { name := "BLOCK_LENGTH", type := .int, accessFlags := 26, slot := 1, constantValue := 0 }, { name := "IN_BLOCK", type := .int, accessFlags := 26, slot := 2, constantValue := 0 }, { name := "blocks", type := (.array (.array .int)), accessFlags := 2, slot := 0, constantValue := 0 }, { name := "size", type := .int, accessFlags := 2, slot := 1, constantValue := 0 }]
  methods := #[k7m0, k7m1, k7m2]
  instanceTypes := #[(.array (.array .int)), .int]
  staticTypes := #[.int, .int, .int]
  resolved := Array.replicate 59 none
  statics := none }

def pool8 : Array CpInfo := pool [(1, u "java/lang/Cloneable"), (0, .class_ 1), (0, u "java/lang/Object"), (0, .class_ 3)] 3

/-- java/lang/Cloneable -/
def k8 : Class := { plain "java/lang/Cloneable" (some 0) with
  accessFlags := 1537
  interfaces := #[]
  cf := some (fileOf pool8 2 #[] #[] 1537 4 #[] #[])
  fields := #[]
  methods := #[]
  instanceTypes := #[]
  staticTypes := #[]
  resolved := Array.replicate 8 none
  statics := none }

def pool9 : Array CpInfo := pool [(1, u "java/io/Serializable"), (0, .class_ 1), (0, u "java/lang/Object"), (0, .class_ 3)] 3

/-- java/io/Serializable -/
def k9 : Class := { plain "java/io/Serializable" (some 0) with
  accessFlags := 1537
  interfaces := #[]
  cf := some (fileOf pool9 2 #[] #[] 1537 4 #[] #[])
  fields := #[]
  methods := #[]
  instanceTypes := #[]
  staticTypes := #[]
  resolved := Array.replicate 8 none
  statics := none }

/-- the primitive byte -/
def k10 : Class := { plain "byte" none with kind := .primitive 'B', accessFlags := 0x411 }
/-- [B -/
def k11 : Class := { plain "[B" (some 0) with kind := .array 10 .byte, interfaces := #[8, 9], accessFlags := 1041 }

/-- the primitive int -/
def k12 : Class := { plain "int" none with kind := .primitive 'I', accessFlags := 0x411 }
/-- [I -/
def k13 : Class := { plain "[I" (some 0) with kind := .array 12 .int, interfaces := #[8, 9], accessFlags := 1041 }

/-- the primitive long -/
def k14 : Class := { plain "long" none with kind := .primitive 'J', accessFlags := 0x411 }
/-- [J -/
def k15 : Class := { plain "[J" (some 0) with kind := .array 14 .long, interfaces := #[8, 9], accessFlags := 1041 }

def k16 : Class := { plain "[[I" (some 0) with kind := .array 13 (.array .int), interfaces := #[8, 9], accessFlags := 1041 }
def heap : Heap := #[]
def classes : Array Class := #[k0, k1, k2, k3, k4, k5, k6, k7, k8, k9, k10, k11, k12, k13, k14, k15, k16]
def interned : List (Array UInt16 × Addr) := []
def slotsUsed : Nat := 0
def theMethod : MethodId := ⟨1, 1⟩
def args0 : Array Value := #[.int 5, .int 6, .int 7]
def aboutOver (below : List Frame) : State where
  vm := { classes := classes, interned := interned.toArray }
  heap := heap
  slotsUsed := slotsUsed
  threads := #[{ frames := .invoking theMethod args0 :: below }]
def below0 : List Frame := [.native { method := ⟨0, 0⟩, args := #[] }]
def about1 : State := aboutOver below0
def p0 : Program := .bare "" "" ""
def e0 : Env := launch0.env 0 0 0
theorem w_frames : about1.frames = Frame.invoking theMethod args0 :: below0 := rfl
set_option maxRecDepth 65536 in
theorem w_args : argsFit about1.vm theMethod args0 = true := by decide +kernel
set_option maxRecDepth 65536 in
theorem w_heap : heapFits about1 = true := by decide +kernel
set_option maxRecDepth 65536 in
theorem w_runnable : about1.curStatus? = some .runnable := by decide +kernel
set_option maxRecDepth 65536 in
theorem w_alone : about1.alone = true := by decide +kernel
set_option maxRecDepth 65536 in
theorem w_named : about1.methodNamed? x = some theMethod := by decide +kernel
set_option maxRecDepth 65536 in
theorem w_hears : about1.hears theMethod below0 = true := by decide +kernel
set_option maxRecDepth 65536 in
theorem w_ripe : about1.ripe theMethod args0 below0 = true := by decide +kernel
theorem w_running : about1.status = .running := rfl
set_option maxRecDepth 65536 in
theorem w_room : about1.hasRoom e0.platform room_1 = true :=
  launch0.hasRoom_least _ room_1 (by decide +kernel) (by decide +kernel) (by decide +kernel) (by decide +kernel) (by decide +kernel) (by decide +kernel)
theorem allAtoms_all (ts : List Jvm.Cond) (a : Array Jvm.Value) (st : Jvm.State) : (allAtoms ts).before a st = ts.all (fun c => c.before a st) := by
  induction ts with
  | nil => rfl
  | cons c t ih =>
    show (Jvm.Cond.and c (allAtoms t)).before a st = _
    rw [Jvm.Cond.before_and, ih, List.all_cons]
def words1 : List Jvm.Cond := Jvm.Cond.code x code maxLocals ret :: tables_1
/-- a 'code' word, met by the world's own term for the bytes: nothing is compared byte by byte -/
theorem code_word {y : MethodName} {bytes : ByteArray} {mx : Nat} {rt : Option FieldType} {a : Array Value} {s : State} {m : MethodId} {meth : Method} {c : Code} (h1 : s.methodNamed? y = some m) (h2 : s.vm.method? m = some meth) (h3 : meth.code = some c) (h4 : c.code = bytes)
    (h5 : (c.maxLocals == mx && c.exceptionTable.isEmpty && decide (c.maxStack ≤ mostOperands) && decide (meth.sig.returnType = rt) && !meth.locks && decide (parseMethodDescriptor y.desc = some meth.sig)) = true) : (Jvm.Cond.code y bytes mx rt).before a s = true := by
  simp only [Bool.and_eq_true, beq_iff_eq, Bool.not_eq_true', decide_eq_true_eq] at h5
  obtain ⟨⟨⟨⟨⟨g1, g2⟩, g3⟩, g4⟩, g5⟩, g6⟩ := h5
  simp [Cond.before, Cond.holds, Cond.value, h1, h2, h3, h4, g1, g2, g3, g4, g5, g6]
def isCode : Jvm.Cond → Bool
  | .code _ _ _ _ => true
  | _ => false
theorem all_split {L : List Jvm.Cond} {P : Jvm.Cond → Bool} (h1 : L.all (fun c => isCode c || P c) = true) (h2 : ∀ c ∈ L.filter isCode, P c = true) : L.all P = true := by
  refine List.all_eq_true.mpr fun c hc => ?_
  have h := List.all_eq_true.mp h1 c hc
  rcases Bool.eq_false_or_eq_true (isCode c) with hi | hi
  · exact h2 c (List.mem_filter.mpr ⟨hc, hi⟩)
  · simpa [hi] using h
set_option maxRecDepth 65536 in
theorem w_c0 : (Jvm.Cond.code x code maxLocals ret).before args0 about1 = true := code_word (m := ⟨1, 1⟩) (meth := k1m1) (c := k1c1) (by decide +kernel) rfl rfl rfl (by decide +kernel)
set_option maxRecDepth 65536 in
theorem w_c1 : (Jvm.Cond.code ({ cls := "com/example/eventloom/eventloom/net/MarkingStore", name := "<init>", desc := "()V" } : Jvm.MethodName) prog_86_method_1_code (1 : Nat) (Option.none : Option Jvm.ClassFile.FieldType)).before args0 about1 = true := code_word (m := ⟨2, 0⟩) (meth := k2m0) (c := k2c0) (by decide +kernel) rfl rfl rfl (by decide +kernel)
set_option maxRecDepth 65536 in
theorem w_c2 : (Jvm.Cond.code ({ cls := "java/lang/Object", name := "<init>", desc := "()V" } : Jvm.MethodName) object_method_1_code (1 : Nat) (Option.none : Option Jvm.ClassFile.FieldType)).before args0 about1 = true := code_word (m := ⟨0, 0⟩) (meth := k0m0) (c := k0c0) (by decide +kernel) rfl rfl rfl (by decide +kernel)
set_option maxRecDepth 65536 in
theorem w_c3 : (Jvm.Cond.code ({ cls := "com/example/eventloom/eventloom/net/IntList", name := "<init>", desc := "()V" } : Jvm.MethodName) prog_85_method_1_code (1 : Nat) (Option.none : Option Jvm.ClassFile.FieldType)).before args0 about1 = true := code_word (m := ⟨3, 0⟩) (meth := k3m0) (c := k3c0) (by decide +kernel) rfl rfl rfl (by decide +kernel)
set_option maxRecDepth 65536 in
theorem w_c4 : (Jvm.Cond.code ({ cls := "com/example/eventloom/eventloom/net/MarkingStore", name := "emptyTable", desc := "(I)[I" } : Jvm.MethodName) prog_86_method_16_code (2 : Nat) (Option.some (Jvm.ClassFile.FieldType.array Jvm.ClassFile.FieldType.int))).before args0 about1 = true := code_word (m := ⟨2, 11⟩) (meth := k2m11) (c := k2c11) (by decide +kernel) rfl rfl rfl (by decide +kernel)
set_option maxRecDepth 65536 in
theorem w_c5 : (Jvm.Cond.code ({ cls := "java/util/Arrays", name := "fill", desc := "([II)V" } : Jvm.MethodName) jdk_65_method_103_code (4 : Nat) (Option.none : Option Jvm.ClassFile.FieldType)).before args0 about1 = true := code_word (m := ⟨4, 1⟩) (meth := k4m1) (c := k4c1) (by decide +kernel) rfl rfl rfl (by decide +kernel)
set_option maxRecDepth 65536 in
theorem w_c6 : (Jvm.Cond.code ({ cls := "com/example/eventloom/eventloom/net/MarkingStore", name := "add", desc := "([J)I" } : Jvm.MethodName) prog_86_method_4_code (4 : Nat) (Option.some Jvm.ClassFile.FieldType.int)).before args0 about1 = true := code_word (m := ⟨2, 2⟩) (meth := k2m2) (c := k2c2) (by decide +kernel) rfl rfl rfl (by decide +kernel)
set_option maxRecDepth 65536 in
theorem w_c7 : (Jvm.Cond.code ({ cls := "com/example/eventloom/eventloom/net/MarkingStore", name := "encode", desc := "([J)V" } : Jvm.MethodName) prog_86_method_11_code (5 : Nat) (Option.none : Option Jvm.ClassFile.FieldType)).before args0 about1 = true := code_word (m := ⟨2, 8⟩) (meth := k2m8) (c := k2c8) (by decide +kernel) rfl rfl rfl (by decide +kernel)
set_option maxRecDepth 65536 in
theorem w_c8 : (Jvm.Cond.code ({ cls := "com/example/eventloom/eventloom/net/MarkingStore", name := "write", desc := "(J)V" } : Jvm.MethodName) prog_86_method_12_code (5 : Nat) (Option.none : Option Jvm.ClassFile.FieldType)).before args0 about1 = true := code_word (m := ⟨2, 9⟩) (meth := k2m9) (c := k2c9) (by decide +kernel) rfl rfl rfl (by decide +kernel)
set_option maxRecDepth 65536 in
theorem w_c9 : (Jvm.Cond.code ({ cls := "com/example/eventloom/eventloom/net/MarkingStore", name := "slot", desc := "()I" } : Jvm.MethodName) prog_86_method_13_code (4 : Nat) (Option.some Jvm.ClassFile.FieldType.int)).before args0 about1 = true := code_word (m := ⟨2, 10⟩) (meth := k2m10) (c := k2c10) (by decide +kernel) rfl rfl rfl (by decide +kernel)
set_option maxRecDepth 65536 in
theorem w_c10 : (Jvm.Cond.code ({ cls := "com/example/eventloom/eventloom/net/MarkingStore", name := "spread", desc := "(I)I" } : Jvm.MethodName) prog_86_method_17_code (2 : Nat) (Option.some Jvm.ClassFile.FieldType.int)).before args0 about1 = true := code_word (m := ⟨2, 12⟩) (meth := k2m12) (c := k2c12) (by decide +kernel) rfl rfl rfl (by decide +kernel)
set_option maxRecDepth 65536 in
theorem w_c11 : (Jvm.Cond.code ({ cls := "com/example/eventloom/eventloom/net/MarkingStore", name := "size", desc := "()I" } : Jvm.MethodName) prog_86_method_2_code (1 : Nat) (Option.some Jvm.ClassFile.FieldType.int)).before args0 about1 = true := code_word (m := ⟨2, 1⟩) (meth := k2m1) (c := k2c1) (by decide +kernel) rfl rfl rfl (by decide +kernel)
set_option maxRecDepth 65536 in
theorem w_c12 : (Jvm.Cond.code ({ cls := "com/example/eventloom/eventloom/net/IntList", name := "size", desc := "()I" } : Jvm.MethodName) prog_85_method_2_code (1 : Nat) (Option.some Jvm.ClassFile.FieldType.int)).before args0 about1 = true := code_word (m := ⟨3, 1⟩) (meth := k3m1) (c := k3c1) (by decide +kernel) rfl rfl rfl (by decide +kernel)
set_option maxRecDepth 65536 in
theorem w_c13 : (Jvm.Cond.code ({ cls := "com/example/eventloom/eventloom/net/IntList", name := "add", desc := "(I)V" } : Jvm.MethodName) prog_85_method_5_code (2 : Nat) (Option.none : Option Jvm.ClassFile.FieldType)).before args0 about1 = true := code_word (m := ⟨3, 3⟩) (meth := k3m3) (c := k3c3) (by decide +kernel) rfl rfl rfl (by decide +kernel)
set_option maxRecDepth 65536 in
theorem w_c14 : (Jvm.Cond.code ({ cls := "com/example/eventloom/eventloom/verification/CoverSearch", name := "<init>", desc := "(Lcom/example/eventloom/eventloom/net/MarkingStore;Lcom/example/eventloom/eventloom/net/IntList;II)V" } : Jvm.MethodName) prog_117_method_1_code (5 : Nat) (Option.none : Option Jvm.ClassFile.FieldType)).before args0 about1 = true := code_word (m := ⟨6, 0⟩) (meth := k6m0) (c := k6c0) (by decide +kernel) rfl rfl rfl (by decide +kernel)
set_option maxRecDepth 65536 in
theorem w_c15 : (Jvm.Cond.code ({ cls := "com/example/eventloom/eventloom/verification/IntBlockList", name := "<init>", desc := "()V" } : Jvm.MethodName) prog_119_method_1_code (1 : Nat) (Option.none : Option Jvm.ClassFile.FieldType)).before args0 about1 = true := code_word (m := ⟨7, 0⟩) (meth := k7m0) (c := k7c0) (by decide +kernel) rfl rfl rfl (by decide +kernel)
set_option maxRecDepth 65536 in
theorem w_c16 : (Jvm.Cond.code ({ cls := "com/example/eventloom/eventloom/verification/CoverSearch", name := "advance", desc := "()I" } : Jvm.MethodName) prog_117_method_4_code (7 : Nat) (Option.some Jvm.ClassFile.FieldType.int)).before args0 about1 = true := code_word (m := ⟨6, 2⟩) (meth := k6m2) (c := k6c2) (by decide +kernel) rfl rfl rfl (by decide +kernel)
set_option maxRecDepth 65536 in
theorem w_c17 : (Jvm.Cond.code ({ cls := "com/example/eventloom/eventloom/verification/CoverSearch", name := "covers", desc := "([JI)Z" } : Jvm.MethodName) prog_117_method_5_code (3 : Nat) (Option.some Jvm.ClassFile.FieldType.boolean)).before args0 about1 = true := code_word (m := ⟨6, 3⟩) (meth := k6m3) (c := k6c3) (by decide +kernel) rfl rfl rfl (by decide +kernel)
set_option maxRecDepth 65536 in
theorem w_c18 : (Jvm.Cond.code ({ cls := "com/example/eventloom/eventloom/verification/CoverSearch", name := "grant", desc := "()V" } : Jvm.MethodName) prog_117_method_2_code (1 : Nat) (Option.none : Option Jvm.ClassFile.FieldType)).before args0 about1 = true := code_word (m := ⟨6, 1⟩) (meth := k6m1) (c := k6c1) (by decide +kernel) rfl rfl rfl (by decide +kernel)
set_option maxRecDepth 65536 in
theorem w_c19 : (Jvm.Cond.code ({ cls := "com/example/eventloom/eventloom/net/MarkingStore", name := "getMarked", desc := "(I[I[J)I" } : Jvm.MethodName) prog_86_method_6_code (7 : Nat) (Option.some Jvm.ClassFile.FieldType.int)).before args0 about1 = true := code_word (m := ⟨2, 3⟩) (meth := k2m3) (c := k2c3) (by decide +kernel) rfl rfl rfl (by decide +kernel)
set_option maxRecDepth 65536 in
theorem w_c20 : (Jvm.Cond.code ({ cls := "com/example/eventloom/eventloom/net/IntList", name := "get", desc := "(I)I" } : Jvm.MethodName) prog_85_method_3_code (2 : Nat) (Option.some Jvm.ClassFile.FieldType.int)).before args0 about1 = true := code_word (m := ⟨3, 2⟩) (meth := k3m2) (c := k3c2) (by decide +kernel) rfl rfl rfl (by decide +kernel)
set_option maxRecDepth 65536 in
theorem w_c21 : (Jvm.Cond.code ({ cls := "com/example/eventloom/eventloom/net/MarkingStore", name := "end", desc := "(I)I" } : Jvm.MethodName) prog_86_method_9_code (2 : Nat) (Option.some Jvm.ClassFile.FieldType.int)).before args0 about1 = true := code_word (m := ⟨2, 6⟩) (meth := k2m6) (c := k2c6) (by decide +kernel) rfl rfl rfl (by decide +kernel)
set_option maxRecDepth 65536 in
theorem w_c22 : (Jvm.Cond.code ({ cls := "com/example/eventloom/eventloom/net/MarkingStore", name := "read", desc := "()J" } : Jvm.MethodName) prog_86_method_10_code (5 : Nat) (Option.some Jvm.ClassFile.FieldType.long)).before args0 about1 = true := code_word (m := ⟨2, 7⟩) (meth := k2m7) (c := k2c7) (by decide +kernel) rfl rfl rfl (by decide +kernel)
set_option maxRecDepth 65536 in
theorem w_c23 : (Jvm.Cond.code ({ cls := "com/example/eventloom/eventloom/verification/CoverSearch", name := "walk", desc := "([JJI)I" } : Jvm.MethodName) prog_117_method_6_code (11 : Nat) (Option.some Jvm.ClassFile.FieldType.int)).before args0 about1 = true := code_word (m := ⟨6, 4⟩) (meth := k6m4) (c := k6c4) (by decide +kernel) rfl rfl rfl (by decide +kernel)
set_option maxRecDepth 65536 in
theorem w_c24 : (Jvm.Cond.code ({ cls := "com/example/eventloom/eventloom/verification/CoverSearch", name := "addNearestUnmarked", desc := "(II)V" } : Jvm.MethodName) prog_117_method_7_code (9 : Nat) (Option.none : Option Jvm.ClassFile.FieldType)).before args0 about1 = true := code_word (m := ⟨6, 5⟩) (meth := k6m5) (c := k6c5) (by decide +kernel) rfl rfl rfl (by decide +kernel)
set_option maxRecDepth 65536 in
theorem w_c25 : (Jvm.Cond.code ({ cls := "com/example/eventloom/eventloom/verification/IntBlockList", name := "size", desc := "()I" } : Jvm.MethodName) prog_119_method_2_code (1 : Nat) (Option.some Jvm.ClassFile.FieldType.int)).before args0 about1 = true := code_word (m := ⟨7, 1⟩) (meth := k7m1) (c := k7c1) (by decide +kernel) rfl rfl rfl (by decide +kernel)
set_option maxRecDepth 65536 in
theorem w_c26 : (Jvm.Cond.code ({ cls := "com/example/eventloom/eventloom/verification/IntBlockList", name := "add", desc := "(I)V" } : Jvm.MethodName) prog_119_method_4_code (3 : Nat) (Option.none : Option Jvm.ClassFile.FieldType)).before args0 about1 = true := code_word (m := ⟨7, 2⟩) (meth := k7m2) (c := k7c2) (by decide +kernel) rfl rfl rfl (by decide +kernel)
set_option maxRecDepth 65536 in
theorem w_c27 : (Jvm.Cond.code ({ cls := "com/example/eventloom/eventloom/verification/CoverSearch", name := "total", desc := "([J)J" } : Jvm.MethodName) prog_117_method_8_code (8 : Nat) (Option.some Jvm.ClassFile.FieldType.long)).before args0 about1 = true := code_word (m := ⟨6, 6⟩) (meth := k6m6) (c := k6c6) (by decide +kernel) rfl rfl rfl (by decide +kernel)
set_option maxRecDepth 65536 in
theorem w_c28 : (Jvm.Cond.code ({ cls := "com/example/eventloom/eventloom/net/MarkingStore", name := "length", desc := "(I)I" } : Jvm.MethodName) prog_86_method_8_code (2 : Nat) (Option.some Jvm.ClassFile.FieldType.int)).before args0 about1 = true := code_word (m := ⟨2, 5⟩) (meth := k2m5) (c := k2c5) (by decide +kernel) rfl rfl rfl (by decide +kernel)
set_option maxRecDepth 65536 in
theorem w_c29 : (Jvm.Cond.code ({ cls := "com/example/eventloom/eventloom/net/MarkingStore", name := "uncovered", desc := "(I[J[I)I" } : Jvm.MethodName) prog_86_method_7_code (11 : Nat) (Option.some Jvm.ClassFile.FieldType.int)).before args0 about1 = true := code_word (m := ⟨2, 4⟩) (meth := k2m4) (c := k2c4) (by decide +kernel) rfl rfl rfl (by decide +kernel)
def codes1 : List Jvm.Cond := [Jvm.Cond.code x code maxLocals ret, Jvm.Cond.code ({ cls := "com/example/eventloom/eventloom/net/MarkingStore", name := "<init>", desc := "()V" } : Jvm.MethodName) prog_86_method_1_code (1 : Nat) (Option.none : Option Jvm.ClassFile.FieldType), Jvm.Cond.code ({ cls := "java/lang/Object", name := "<init>", desc := "()V" } : Jvm.MethodName) object_method_1_code (1 : Nat) (Option.none : Option Jvm.ClassFile.FieldType), Jvm.Cond.code ({ cls := "com/example/eventloom/eventloom/net/IntList", name := "<init>", desc := "()V" } : Jvm.MethodName) prog_85_method_1_code (1 : Nat) (Option.none : Option Jvm.ClassFile.FieldType), Jvm.Cond.code ({ cls := "com/example/eventloom/eventloom/net/MarkingStore", name := "emptyTable", desc := "(I)[I" } : Jvm.MethodName) prog_86_method_16_code (2 : Nat) (Option.some (Jvm.ClassFile.FieldType.array Jvm.ClassFile.FieldType.int)), Jvm.Cond.code ({ cls := "java/util/Arrays", name := "fill", desc := "([II)V" } : Jvm.MethodName) jdk_65_method_103_code (4 : Nat) (Option.none : Option Jvm.ClassFile.FieldType), Jvm.Cond.code ({ cls := "com/example/eventloom/eventloom/net/MarkingStore", name := "add", desc := "([J)I" } : Jvm.MethodName) prog_86_method_4_code (4 : Nat) (Option.some Jvm.ClassFile.FieldType.int), Jvm.Cond.code ({ cls := "com/example/eventloom/eventloom/net/MarkingStore", name := "encode", desc := "([J)V" } : Jvm.MethodName) prog_86_method_11_code (5 : Nat) (Option.none : Option Jvm.ClassFile.FieldType), Jvm.Cond.code ({ cls := "com/example/eventloom/eventloom/net/MarkingStore", name := "write", desc := "(J)V" } : Jvm.MethodName) prog_86_method_12_code (5 : Nat) (Option.none : Option Jvm.ClassFile.FieldType), Jvm.Cond.code ({ cls := "com/example/eventloom/eventloom/net/MarkingStore", name := "slot", desc := "()I" } : Jvm.MethodName) prog_86_method_13_code (4 : Nat) (Option.some Jvm.ClassFile.FieldType.int), Jvm.Cond.code ({ cls := "com/example/eventloom/eventloom/net/MarkingStore", name := "spread", desc := "(I)I" } : Jvm.MethodName) prog_86_method_17_code (2 : Nat) (Option.some Jvm.ClassFile.FieldType.int), Jvm.Cond.code ({ cls := "com/example/eventloom/eventloom/net/MarkingStore", name := "size", desc := "()I" } : Jvm.MethodName) prog_86_method_2_code (1 : Nat) (Option.some Jvm.ClassFile.FieldType.int), Jvm.Cond.code ({ cls := "com/example/eventloom/eventloom/net/IntList", name := "size", desc := "()I" } : Jvm.MethodName) prog_85_method_2_code (1 : Nat) (Option.some Jvm.ClassFile.FieldType.int), Jvm.Cond.code ({ cls := "com/example/eventloom/eventloom/net/IntList", name := "add", desc := "(I)V" } : Jvm.MethodName) prog_85_method_5_code (2 : Nat) (Option.none : Option Jvm.ClassFile.FieldType), Jvm.Cond.code ({ cls := "com/example/eventloom/eventloom/verification/CoverSearch", name := "<init>", desc := "(Lcom/example/eventloom/eventloom/net/MarkingStore;Lcom/example/eventloom/eventloom/net/IntList;II)V" } : Jvm.MethodName) prog_117_method_1_code (5 : Nat) (Option.none : Option Jvm.ClassFile.FieldType), Jvm.Cond.code ({ cls := "com/example/eventloom/eventloom/verification/IntBlockList", name := "<init>", desc := "()V" } : Jvm.MethodName) prog_119_method_1_code (1 : Nat) (Option.none : Option Jvm.ClassFile.FieldType), Jvm.Cond.code ({ cls := "com/example/eventloom/eventloom/verification/CoverSearch", name := "advance", desc := "()I" } : Jvm.MethodName) prog_117_method_4_code (7 : Nat) (Option.some Jvm.ClassFile.FieldType.int), Jvm.Cond.code ({ cls := "com/example/eventloom/eventloom/verification/CoverSearch", name := "covers", desc := "([JI)Z" } : Jvm.MethodName) prog_117_method_5_code (3 : Nat) (Option.some Jvm.ClassFile.FieldType.boolean), Jvm.Cond.code ({ cls := "com/example/eventloom/eventloom/verification/CoverSearch", name := "grant", desc := "()V" } : Jvm.MethodName) prog_117_method_2_code (1 : Nat) (Option.none : Option Jvm.ClassFile.FieldType), Jvm.Cond.code ({ cls := "com/example/eventloom/eventloom/net/MarkingStore", name := "getMarked", desc := "(I[I[J)I" } : Jvm.MethodName) prog_86_method_6_code (7 : Nat) (Option.some Jvm.ClassFile.FieldType.int), Jvm.Cond.code ({ cls := "com/example/eventloom/eventloom/net/IntList", name := "get", desc := "(I)I" } : Jvm.MethodName) prog_85_method_3_code (2 : Nat) (Option.some Jvm.ClassFile.FieldType.int), Jvm.Cond.code ({ cls := "com/example/eventloom/eventloom/net/MarkingStore", name := "end", desc := "(I)I" } : Jvm.MethodName) prog_86_method_9_code (2 : Nat) (Option.some Jvm.ClassFile.FieldType.int), Jvm.Cond.code ({ cls := "com/example/eventloom/eventloom/net/MarkingStore", name := "read", desc := "()J" } : Jvm.MethodName) prog_86_method_10_code (5 : Nat) (Option.some Jvm.ClassFile.FieldType.long), Jvm.Cond.code ({ cls := "com/example/eventloom/eventloom/verification/CoverSearch", name := "walk", desc := "([JJI)I" } : Jvm.MethodName) prog_117_method_6_code (11 : Nat) (Option.some Jvm.ClassFile.FieldType.int), Jvm.Cond.code ({ cls := "com/example/eventloom/eventloom/verification/CoverSearch", name := "addNearestUnmarked", desc := "(II)V" } : Jvm.MethodName) prog_117_method_7_code (9 : Nat) (Option.none : Option Jvm.ClassFile.FieldType), Jvm.Cond.code ({ cls := "com/example/eventloom/eventloom/verification/IntBlockList", name := "size", desc := "()I" } : Jvm.MethodName) prog_119_method_2_code (1 : Nat) (Option.some Jvm.ClassFile.FieldType.int), Jvm.Cond.code ({ cls := "com/example/eventloom/eventloom/verification/IntBlockList", name := "add", desc := "(I)V" } : Jvm.MethodName) prog_119_method_4_code (3 : Nat) (Option.none : Option Jvm.ClassFile.FieldType), Jvm.Cond.code ({ cls := "com/example/eventloom/eventloom/verification/CoverSearch", name := "total", desc := "([J)J" } : Jvm.MethodName) prog_117_method_8_code (8 : Nat) (Option.some Jvm.ClassFile.FieldType.long), Jvm.Cond.code ({ cls := "com/example/eventloom/eventloom/net/MarkingStore", name := "length", desc := "(I)I" } : Jvm.MethodName) prog_86_method_8_code (2 : Nat) (Option.some Jvm.ClassFile.FieldType.int), Jvm.Cond.code ({ cls := "com/example/eventloom/eventloom/net/MarkingStore", name := "uncovered", desc := "(I[J[I)I" } : Jvm.MethodName) prog_86_method_7_code (11 : Nat) (Option.some Jvm.ClassFile.FieldType.int)]
set_option maxRecDepth 65536 in
theorem codes_eq : words1.filter isCode = codes1 := rfl
theorem w_codes : ∀ c ∈ words1.filter isCode, c.before args0 about1 = true := by
  rw [codes_eq]
  intro c hc
  simp only [codes1, List.mem_cons, List.not_mem_nil, or_false] at hc
  rcases hc with rfl | rfl | rfl | rfl | rfl | rfl | rfl | rfl | rfl | rfl | rfl | rfl | rfl | rfl | rfl | rfl | rfl | rfl | rfl | rfl | rfl | rfl | rfl | rfl | rfl | rfl | rfl | rfl | rfl | rfl
  · exact w_c0
  · exact w_c1
  · exact w_c2
  · exact w_c3
  · exact w_c4
  · exact w_c5
  · exact w_c6
  · exact w_c7
  · exact w_c8
  · exact w_c9
  · exact w_c10
  · exact w_c11
  · exact w_c12
  · exact w_c13
  · exact w_c14
  · exact w_c15
  · exact w_c16
  · exact w_c17
  · exact w_c18
  · exact w_c19
  · exact w_c20
  · exact w_c21
  · exact w_c22
  · exact w_c23
  · exact w_c24
  · exact w_c25
  · exact w_c26
  · exact w_c27
  · exact w_c28
  · exact w_c29
set_option maxRecDepth 65536 in
theorem w_t1 : (words1.take 24).all (fun c => isCode c || c.before args0 about1) = true := by decide +kernel
set_option maxRecDepth 65536 in
theorem w_t2 : ((words1.drop 24).take 24).all (fun c => isCode c || c.before args0 about1) = true := by decide +kernel
set_option maxRecDepth 65536 in
theorem w_t3 : (((words1.drop 24).drop 24).take 24).all (fun c => isCode c || c.before args0 about1) = true := by decide +kernel
set_option maxRecDepth 65536 in
theorem w_t4 : ((((words1.drop 24).drop 24).drop 24).take 24).all (fun c => isCode c || c.before args0 about1) = true := by decide +kernel
set_option maxRecDepth 65536 in
theorem w_t5 : (((((words1.drop 24).drop 24).drop 24).drop 24).take 24).all (fun c => isCode c || c.before args0 about1) = true := by decide +kernel
set_option maxRecDepth 65536 in
theorem w_t6 : ((((((words1.drop 24).drop 24).drop 24).drop 24).drop 24).take 24).all (fun c => isCode c || c.before args0 about1) = true := by decide +kernel
set_option maxRecDepth 65536 in
theorem w_t7 : (((((((words1.drop 24).drop 24).drop 24).drop 24).drop 24).drop 24).take 24).all (fun c => isCode c || c.before args0 about1) = true := by decide +kernel
set_option maxRecDepth 65536 in
theorem w_t8 : ((((((((words1.drop 24).drop 24).drop 24).drop 24).drop 24).drop 24).drop 24).take 24).all (fun c => isCode c || c.before args0 about1) = true := by decide +kernel
set_option maxRecDepth 65536 in
theorem w_t9 : (((((((((words1.drop 24).drop 24).drop 24).drop 24).drop 24).drop 24).drop 24).drop 24).take 24).all (fun c => isCode c || c.before args0 about1) = true := by decide +kernel
set_option maxRecDepth 65536 in
theorem w_t10 : (((((((((words1.drop 24).drop 24).drop 24).drop 24).drop 24).drop 24).drop 24).drop 24).drop 24).all (fun c => isCode c || c.before args0 about1) = true := by decide +kernel
theorem w_tables : (allAtoms (Jvm.Cond.code x code maxLocals ret :: tables_1)).before args0 about1 = true := by
  rw [allAtoms_all]
  show words1.all (fun c => c.before args0 about1) = true
  refine all_split ?_ w_codes
  rw [← List.take_append_drop 24 words1, List.all_append, w_t1, ← List.take_append_drop 24 (words1.drop 24), List.all_append, w_t2, ← List.take_append_drop 24 ((words1.drop 24).drop 24), List.all_append, w_t3, ← List.take_append_drop 24 (((words1.drop 24).drop 24).drop 24), List.all_append, w_t4, ← List.take_append_drop 24 ((((words1.drop 24).drop 24).drop 24).drop 24), List.all_append, w_t5, ← List.take_append_drop 24 (((((words1.drop 24).drop 24).drop 24).drop 24).drop 24), List.all_append, w_t6, ← List.take_append_drop 24 ((((((words1.drop 24).drop 24).drop 24).drop 24).drop 24).drop 24), List.all_append, w_t7, ← List.take_append_drop 24 (((((((words1.drop 24).drop 24).drop 24).drop 24).drop 24).drop 24).drop 24), List.all_append, w_t8, ← List.take_append_drop 24 ((((((((words1.drop 24).drop 24).drop 24).drop 24).drop 24).drop 24).drop 24).drop 24), List.all_append, w_t9, w_t10]
  rfl
set_option maxRecDepth 65536 in
theorem w_case : (Jvm.Cond.and given_1 narrow_1).before args0 about1 = true := by decide +kernel
theorem w_applies : (headSpec (Jvm.Cond.code x code maxLocals ret :: tables_1) room_1).applies x e0.platform about1 = true :=
  (Spec.applies_iff w_frames).mpr ⟨w_running, w_runnable, w_alone, w_named, w_hears, w_ripe, w_room, w_tables⟩
theorem atStart : AtStart classFile x code maxLocals ret World_1 tables_1 room_1 Calls_1 rest_1 Pre_1 launch0 p0 e0 about1 theMethod args0 below0 :=
  ⟨lists_1, trivial, launch0.admits_env _ _ _, launch0.least_env, fairChoices_fair.cas, fairChoices_fair.clock, w_frames, w_args, w_heap, w_applies, trivial, trivial, w_case⟩
end start1
theorem witness_1 : WitnessClaimed_1 := ⟨start1.p0, start1.e0, start1.about1, start1.theMethod, start1.args0, start1.below0, start1.atStart⟩
end Jvm.Pilot.@@N@@
