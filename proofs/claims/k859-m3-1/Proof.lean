import JvmDerived
import JvmDerived.Pilot.@@N@@Statement
import JvmDerived.Pilot.@@N@@Code
set_option linter.unusedVariables false
set_option linter.unusedSimpArgs false
namespace Jvm.OwnK
open Jvm Sem ClassFile Op Lib Jvm.Stand Jvm.Free Jvm.LawKit Jvm.RoadKit
section A
variable {tabs : List Jvm.Cond} {a0 : Array Value} {Z : State} {own nm : String} {code : ByteArray} {ml : Nat} {ret : Option FieldType} {p : Program} {l : Launch} {e : Env} {R : Room} {s : State} {m : MethodId} {args : Array Value} {below : List Frame} {meth : Method} {c : Code} {n0 : Nat} {T : State} {h : Heap} {k n : Nat} {Q : Option Value → Heap → Prop} {G : Outcome → State → List Loc → Prop} {pc : Nat} {ls : Array Slot} {st : List Value}
/-- what stands fast through a method's walk -/
def Cx (tabs : List Jvm.Cond) (a0 : Array Value) (Z : State) (own nm : String) (code : ByteArray) (ml : Nat) (ret : Option FieldType) (p : Program) (s : State) (m : MethodId) (meth : Method) (c : Code) : Prop :=
  p.tables.exec = Jvm.exec ∧ Z.Warmed39 s.vm ∧ c.code = code ∧ c.maxLocals = ml ∧ s.vm.findClass own = some m.cls ∧ meth.sig.returnType = ret ∧ meth.locks = false ∧ meth.name = nm ∧ ∀ d ∈ tabs, d.before a0 Z = true
/-- where the walk stands: the heap h, k cells and n slots made so far, nothing below n0 written -/
def St (p : Program) (l : Launch) (e : Env) (R : Room) (s : State) (m : MethodId) (args : Array Value) (below : List Frame) (meth : Method) (c : Code) (n0 : Nat) (T : State) (h : Heap) (k n : Nat) : Prop :=
  ∃ locs, Stand p l e R s m args below meth c T locs k n ∧ T.heap = h ∧ Fr n0 locs ∧ n0 ≤ s.heap.size
/-- from this frame the method ends, and returns what Q says -/
def Run (p : Program) (e : Env) (below : List Frame) (n0 : Nat) (Q : Option Value → Heap → Prop) (G : Outcome → State → List Loc → Prop) (m : MethodId) (T : State) (pc : Nat) (ls : Array Slot) (st : List Value) : Prop :=
  ∃ s₂ o, Steps p.tables e below (T.setTop (mkF m pc ls st)) s₂ ∧ s₂.status = .running ∧ Ended s₂ below o ∧ ∃ v L, o = .returned v ∧ (Q v s₂.heap ∧ Fr n0 L) ∧ G o s₂ L
theorem Run.step {T' : State} {pc' : Nat} {ls' : Array Slot} {st' : List Value} (f : ∀ t, Steps p.tables e below (T'.setTop (mkF m pc' ls' st')) t → Steps p.tables e below (T.setTop (mkF m pc ls st)) t) (r : Run p e below n0 Q G m T' pc' ls' st') : Run p e below n0 Q G m T pc ls st := by
  obtain ⟨s₂, o, h1, h2⟩ := r
  exact ⟨s₂, o, f _ h1, h2⟩
theorem Run.steps {T' : State} {pc' : Nat} {ls' : Array Slot} {st' : List Value} (f : Steps p.tables e below (T.setTop (mkF m pc ls st)) (T'.setTop (mkF m pc' ls' st'))) (r : Run p e below n0 Q G m T' pc' ls' st') : Run p e below n0 Q G m T pc ls st := Run.step (fun _ q => f.trans q) r
theorem Run.cast {st' : List Value} (q : st = st') (r : Run p e below n0 Q G m T pc ls st') : Run p e below n0 Q G m T pc ls st := q ▸ r
theorem Run.castL {ls' : Array Slot} (q : ls = ls') (r : Run p e below n0 Q G m T pc ls' st) : Run p e below n0 Q G m T pc ls st := q ▸ r
theorem St.at' (X : St p l e R s m args below meth c n0 T h k n) : Jvm.At T m c below := by obtain ⟨_, X, -⟩ := X; exact X.here
theorem St.sz (X : St p l e R s m args below meth c n0 T h k n) : n0 ≤ h.size := by
  obtain ⟨_, X, rfl, -, q⟩ := X
  exact Nat.le_trans q X.same.2.1
theorem Cx.d {r : Except DecodeError (Instr × Nat)} (C : Cx tabs a0 Z own nm code ml ret p s m meth c) (q : decode code pc = r) : decode c.code pc = r := hb C.2.2.1 q
theorem Cx.w {d : Jvm.Cond} (C : Cx tabs a0 Z own nm code ml ret p s m meth c) (q : d ∈ tabs) : d.before a0 Z = true := C.2.2.2.2.2.2.2.2 d q
theorem s_iloadN (pc' : Nat) (C : Cx tabs a0 Z own nm code ml ret p s m meth c) (X : St p l e R s m args below meth c n0 T h k n) {i : Fin 4} {v : Int32} (hd : decode code pc = .ok (.iload_n i, 1)) (hl : ls[i.val]? = some (.val (.int v))) (r : Run p e below n0 Q G m T pc' ls (.int v :: st)) (hp : pc + 1 = pc' := by rfl) : Run p e below n0 Q G m T pc ls st := by
  subst hp
  exact Run.step (fun t q => XS.iloadN X.at' C.1 rfl (C.d hd) hl q) r
theorem s_iload (pc' : Nat) (C : Cx tabs a0 Z own nm code ml ret p s m meth c) (X : St p l e R s m args below meth c n0 T h k n) {i : Nat} {v : Int32} (hd : decode code pc = .ok (.iload i, 2)) (hl : ls[i]? = some (.val (.int v))) (r : Run p e below n0 Q G m T pc' ls (.int v :: st)) (hp : pc + 2 = pc' := by rfl) : Run p e below n0 Q G m T pc ls st := by
  subst hp
  exact Run.step (fun t q => XS.iload X.at' C.1 rfl (C.d hd) hl q) r
theorem s_aloadN (pc' : Nat) (C : Cx tabs a0 Z own nm code ml ret p s m meth c) (X : St p l e R s m args below meth c n0 T h k n) {i : Fin 4} {v : Value} (hd : decode code pc = .ok (.aload_n i, 1)) (hl : ls[i.val]? = some (.val v)) (hv : v.isRef = true) (r : Run p e below n0 Q G m T pc' ls (v :: st)) (hp : pc + 1 = pc' := by rfl) : Run p e below n0 Q G m T pc ls st := by
  subst hp
  exact Run.step (fun t q => XS.aloadN X.at' C.1 rfl (C.d hd) hl hv q) r
theorem s_aload (pc' : Nat) (C : Cx tabs a0 Z own nm code ml ret p s m meth c) (X : St p l e R s m args below meth c n0 T h k n) {i : Nat} {v : Value} (hd : decode code pc = .ok (.aload i, 2)) (hl : ls[i]? = some (.val v)) (hv : v.isRef = true) (r : Run p e below n0 Q G m T pc' ls (v :: st)) (hp : pc + 2 = pc' := by rfl) : Run p e below n0 Q G m T pc ls st := by
  subst hp
  exact Run.step (fun t q => XS.aload X.at' C.1 rfl (C.d hd) hl hv q) r
theorem s_istoreN (pc' : Nat) (C : Cx tabs a0 Z own nm code ml ret p s m meth c) (X : St p l e R s m args below meth c n0 T h k n) {i : Fin 4} {v : Int32} {l' : Array Slot} (hd : decode code pc = .ok (.istore_n i, 1)) (hl : storeLocals ls i.val (.int v) = some l') (r : Run p e below n0 Q G m T pc' l' st) (hp : pc + 1 = pc' := by rfl) : Run p e below n0 Q G m T pc ls (.int v :: st) := by
  subst hp
  exact Run.step (fun t q => XS.istoreN X.at' C.1 rfl (C.d hd) rfl hl q) r
theorem s_istore (pc' : Nat) (C : Cx tabs a0 Z own nm code ml ret p s m meth c) (X : St p l e R s m args below meth c n0 T h k n) {i : Nat} {v : Int32} {l' : Array Slot} (hd : decode code pc = .ok (.istore i, 2)) (hl : storeLocals ls i (.int v) = some l') (r : Run p e below n0 Q G m T pc' l' st) (hp : pc + 2 = pc' := by rfl) : Run p e below n0 Q G m T pc ls (.int v :: st) := by
  subst hp
  exact Run.step (fun t q => XS.istore X.at' C.1 rfl (C.d hd) rfl hl q) r
theorem s_astoreN (pc' : Nat) (C : Cx tabs a0 Z own nm code ml ret p s m meth c) (X : St p l e R s m args below meth c n0 T h k n) {i : Fin 4} {v : Value} {l' : Array Slot} (hd : decode code pc = .ok (.astore_n i, 1)) (hv : v.isRef = true) (hl : storeLocals ls i.val v = some l') (r : Run p e below n0 Q G m T pc' l' st) (hp : pc + 1 = pc' := by rfl) : Run p e below n0 Q G m T pc ls (v :: st) := by
  subst hp
  exact Run.step (fun t q => XS.astoreN X.at' C.1 rfl (C.d hd) rfl hv hl q) r
theorem s_astore (pc' : Nat) (C : Cx tabs a0 Z own nm code ml ret p s m meth c) (X : St p l e R s m args below meth c n0 T h k n) {i : Nat} {v : Value} {l' : Array Slot} (hd : decode code pc = .ok (.astore i, 2)) (hv : v.isRef = true) (hl : storeLocals ls i v = some l') (r : Run p e below n0 Q G m T pc' l' st) (hp : pc + 2 = pc' := by rfl) : Run p e below n0 Q G m T pc ls (v :: st) := by
  subst hp
  exact Run.step (fun t q => XS.astore X.at' C.1 rfl (C.d hd) rfl hv hl q) r
theorem s_iinc (pc' : Nat) (C : Cx tabs a0 Z own nm code ml ret p s m meth c) (X : St p l e R s m args below meth c n0 T h k n) {i : Nat} {cst : Int} {x z : Int32} {l' : Array Slot} (hd : decode code pc = .ok (.iinc i cst, 3)) (hz : Int32.ofInt cst = z) (hl : ls[i]? = some (.val (.int x))) (hl' : storeLocals ls i (.int (x + z)) = some l') (r : Run p e below n0 Q G m T pc' l' st) (hp : pc + 3 = pc' := by rfl) : Run p e below n0 Q G m T pc ls st := by
  subst hp
  exact Run.step (fun t q => XS.iinc X.at' C.1 rfl (C.d hd) hl (by rw [hz]; exact hl') q) r
theorem s_iconst (pc' : Nat) (C : Cx tabs a0 Z own nm code ml ret p s m meth c) (X : St p l e R s m args below meth c n0 T h k n) {i : Int} {z : Int32} (hd : decode code pc = .ok (.iconst i, 1)) (hz : Int32.ofInt i = z) (r : Run p e below n0 Q G m T pc' ls (.int z :: st)) (hp : pc + 1 = pc' := by rfl) : Run p e below n0 Q G m T pc ls st := by
  subst hp
  exact Run.step (fun t q => XS.iconst X.at' C.1 rfl (C.d hd) (by rw [hz]; exact q)) r
theorem s_bipush (pc' : Nat) (C : Cx tabs a0 Z own nm code ml ret p s m meth c) (X : St p l e R s m args below meth c n0 T h k n) {i : Int} {z : Int32} (hd : decode code pc = .ok (.bipush i, 2)) (hz : (Int8.ofInt i).toInt32 = z) (r : Run p e below n0 Q G m T pc' ls (.int z :: st)) (hp : pc + 2 = pc' := by rfl) : Run p e below n0 Q G m T pc ls st := by
  subst hp
  exact Run.step (fun t q => XS.bipush X.at' C.1 rfl (C.d hd) (by rw [hz]; exact q)) r
theorem s_sipush (pc' : Nat) (C : Cx tabs a0 Z own nm code ml ret p s m meth c) (X : St p l e R s m args below meth c n0 T h k n) {i : Int} {z : Int32} (hd : decode code pc = .ok (.sipush i, 3)) (hz : (Int16.ofInt i).toInt32 = z) (r : Run p e below n0 Q G m T pc' ls (.int z :: st)) (hp : pc + 3 = pc' := by rfl) : Run p e below n0 Q G m T pc ls st := by
  subst hp
  exact Run.step (fun t q => XS.sipush X.at' C.1 rfl (C.d hd) (by rw [hz]; exact q)) r
theorem s_aconstNull (pc' : Nat) (C : Cx tabs a0 Z own nm code ml ret p s m meth c) (X : St p l e R s m args below meth c n0 T h k n) (hd : decode code pc = .ok (.aconst_null, 1)) (r : Run p e below n0 Q G m T pc' ls (.null :: st)) (hp : pc + 1 = pc' := by rfl) : Run p e below n0 Q G m T pc ls st := by
  subst hp
  exact Run.step (fun t q => XS.aconstNull X.at' C.1 rfl (C.d hd) q) r
theorem s_iadd (pc' : Nat) (C : Cx tabs a0 Z own nm code ml ret p s m meth c) (X : St p l e R s m args below meth c n0 T h k n) {x y : Int32} (hd : decode code pc = .ok (.iadd, 1)) (r : Run p e below n0 Q G m T pc' ls (.int (x + y) :: st)) (hp : pc + 1 = pc' := by rfl) : Run p e below n0 Q G m T pc ls (.int y :: .int x :: st) := by
  subst hp
  exact Run.step (fun t q => XS.iadd X.at' C.1 rfl (C.d hd) rfl q) r
theorem s_isub (pc' : Nat) (C : Cx tabs a0 Z own nm code ml ret p s m meth c) (X : St p l e R s m args below meth c n0 T h k n) {x y : Int32} (hd : decode code pc = .ok (.isub, 1)) (r : Run p e below n0 Q G m T pc' ls (.int (x - y) :: st)) (hp : pc + 1 = pc' := by rfl) : Run p e below n0 Q G m T pc ls (.int y :: .int x :: st) := by
  subst hp
  exact Run.step (fun t q => XS.isub X.at' C.1 rfl (C.d hd) rfl q) r
theorem s_iand (pc' : Nat) (C : Cx tabs a0 Z own nm code ml ret p s m meth c) (X : St p l e R s m args below meth c n0 T h k n) {x y : Int32} (hd : decode code pc = .ok (.iand, 1)) (r : Run p e below n0 Q G m T pc' ls (.int (x &&& y) :: st)) (hp : pc + 1 = pc' := by rfl) : Run p e below n0 Q G m T pc ls (.int y :: .int x :: st) := by
  subst hp
  exact Run.step (fun t q => XS.iand X.at' C.1 rfl (C.d hd) rfl q) r
theorem s_ior (pc' : Nat) (C : Cx tabs a0 Z own nm code ml ret p s m meth c) (X : St p l e R s m args below meth c n0 T h k n) {x y : Int32} (hd : decode code pc = .ok (.ior, 1)) (r : Run p e below n0 Q G m T pc' ls (.int (x ||| y) :: st)) (hp : pc + 1 = pc' := by rfl) : Run p e below n0 Q G m T pc ls (.int y :: .int x :: st) := by
  subst hp
  exact Run.step (fun t q => XT.ior X.at' C.1 rfl (C.d hd) rfl q) r
theorem s_ishl (pc' : Nat) (C : Cx tabs a0 Z own nm code ml ret p s m meth c) (X : St p l e R s m args below meth c n0 T h k n) {x y : Int32} (hd : decode code pc = .ok (.ishl, 1)) (r : Run p e below n0 Q G m T pc' ls (.int (x <<< (y &&& 31)) :: st)) (hp : pc + 1 = pc' := by rfl) : Run p e below n0 Q G m T pc ls (.int y :: .int x :: st) := by
  subst hp
  exact Run.step (fun t q => XT.ishl X.at' C.1 rfl (C.d hd) rfl q) r
theorem s_ishr (pc' : Nat) (C : Cx tabs a0 Z own nm code ml ret p s m meth c) (X : St p l e R s m args below meth c n0 T h k n) {x y : Int32} (hd : decode code pc = .ok (.ishr, 1)) (r : Run p e below n0 Q G m T pc' ls (.int (x >>> (y &&& 31)) :: st)) (hp : pc + 1 = pc' := by rfl) : Run p e below n0 Q G m T pc ls (.int y :: .int x :: st) := by
  subst hp
  exact Run.step (fun t q => XT.ishr X.at' C.1 rfl (C.d hd) rfl q) r
theorem s_iushr (pc' : Nat) (C : Cx tabs a0 Z own nm code ml ret p s m meth c) (X : St p l e R s m args below meth c n0 T h k n) {x y : Int32} (hd : decode code pc = .ok (.iushr, 1)) (r : Run p e below n0 Q G m T pc' ls (.int ((x.toUInt32 >>> (y &&& 31).toUInt32).toInt32) :: st)) (hp : pc + 1 = pc' := by rfl) : Run p e below n0 Q G m T pc ls (.int y :: .int x :: st) := by
  subst hp
  exact Run.step (fun t q => XT.iushr X.at' C.1 rfl (C.d hd) rfl q) r
theorem s_irem (pc' : Nat) (C : Cx tabs a0 Z own nm code ml ret p s m meth c) (X : St p l e R s m args below meth c n0 T h k n) {x y : Int32} (hd : decode code pc = .ok (.irem, 1)) (hy : y ≠ 0) (r : Run p e below n0 Q G m T pc' ls (.int (x % y) :: st)) (hp : pc + 1 = pc' := by rfl) : Run p e below n0 Q G m T pc ls (.int y :: .int x :: st) := by
  subst hp
  exact Run.step (fun t q => XS.irem X.at' C.1 rfl (C.d hd) rfl hy (by rw [show x - x / y * y = x % y from irem_eq_mod x y]; exact q)) r
theorem s_i2b (pc' : Nat) (C : Cx tabs a0 Z own nm code ml ret p s m meth c) (X : St p l e R s m args below meth c n0 T h k n) {x : Int32} (hd : decode code pc = .ok (.i2b, 1)) (r : Run p e below n0 Q G m T pc' ls (.int x.toInt8.toInt32 :: st)) (hp : pc + 1 = pc' := by rfl) : Run p e below n0 Q G m T pc ls (.int x :: st) := by
  subst hp
  exact Run.step (fun t q => XT.i2b X.at' C.1 rfl (C.d hd) rfl q) r
theorem s_i2c (pc' : Nat) (C : Cx tabs a0 Z own nm code ml ret p s m meth c) (X : St p l e R s m args below meth c n0 T h k n) {x : Int32} (hd : decode code pc = .ok (.i2c, 1)) (r : Run p e below n0 Q G m T pc' ls (.int x.toUInt32.toUInt16.toUInt32.toInt32 :: st)) (hp : pc + 1 = pc' := by rfl) : Run p e below n0 Q G m T pc ls (.int x :: st) := by
  subst hp
  exact Run.step (fun t q => XT.i2c X.at' C.1 rfl (C.d hd) rfl q) r
theorem s_dup (pc' : Nat) (C : Cx tabs a0 Z own nm code ml ret p s m meth c) (X : St p l e R s m args below meth c n0 T h k n) {v : Value} (hd : decode code pc = .ok (.dup, 1)) (hc : v.category = 1) (r : Run p e below n0 Q G m T pc' ls (v :: v :: st)) (hp : pc + 1 = pc' := by rfl) : Run p e below n0 Q G m T pc ls (v :: st) := by
  subst hp
  exact Run.step (fun t q => XS.dup X.at' C.1 rfl (C.d hd) rfl hc q) r
theorem s_pop (pc' : Nat) (C : Cx tabs a0 Z own nm code ml ret p s m meth c) (X : St p l e R s m args below meth c n0 T h k n) {v : Value} (hd : decode code pc = .ok (.pop, 1)) (hc : v.category = 1) (r : Run p e below n0 Q G m T pc' ls st) (hp : pc + 1 = pc' := by rfl) : Run p e below n0 Q G m T pc ls (v :: st) := by
  subst hp
  exact Run.step (fun t q => XT.pop X.at' C.1 rfl (C.d hd) rfl hc q) r
theorem s_goto (pc' : Nat) (C : Cx tabs a0 Z own nm code ml ret p s m meth c) (X : St p l e R s m args below meth c n0 T h k n) {o : Int} (hd : decode code pc = .ok (.goto o, 3)) (r : Run p e below n0 Q G m T pc' ls st) (hp : 0 ≤ (pc : Int) + o ∧ ((pc : Int) + o).toNat = pc' := by decide) : Run p e below n0 Q G m T pc ls st := by
  exact Run.step (fun t q => XS.goto X.at' C.1 rfl rfl (C.d hd) hp.1 hp.2 q) r
theorem s_icmp_lt (pY pN : Nat) (C : Cx tabs a0 Z own nm code ml ret p s m meth c) (X : St p l e R s m args below meth c n0 T h k n) {x y : Int32} {o : Int} (hd : decode code pc = .ok (.if_icmp .lt o, 3)) (ry : x < y → Run p e below n0 Q G m T pY ls st) (rn : ¬ x < y → Run p e below n0 Q G m T pN ls st) (hp : 0 ≤ (pc : Int) + o ∧ ((pc : Int) + o).toNat = pY ∧ pc + 3 = pN := by decide) : Run p e below n0 Q G m T pc ls (.int y :: .int x :: st) := by
  by_cases g : x < y
  · exact Run.step (fun t q => XS.icmpYes X.at' C.1 rfl rfl (C.d hd) rfl (tlt g).1 hp.1 hp.2.1 q) (ry g)
  · obtain rfl := hp.2.2
    exact Run.step (fun t q => XS.icmpNo X.at' C.1 rfl (C.d hd) rfl (flt g).1 q) (rn g)
theorem s_if_lt (pY pN : Nat) (C : Cx tabs a0 Z own nm code ml ret p s m meth c) (X : St p l e R s m args below meth c n0 T h k n) {x : Int32} {o : Int} (hd : decode code pc = .ok (.ifCond .lt o, 3)) (ry : x < (0 : Int32) → Run p e below n0 Q G m T pY ls st) (rn : ¬ x < (0 : Int32) → Run p e below n0 Q G m T pN ls st) (hp : 0 ≤ (pc : Int) + o ∧ ((pc : Int) + o).toNat = pY ∧ pc + 3 = pN := by decide) : Run p e below n0 Q G m T pc ls (.int x :: st) := by
  by_cases g : x < (0 : Int32)
  · exact Run.step (fun t q => XS.ifYes X.at' C.1 rfl rfl (C.d hd) rfl ((if0 _ _).trans (tlt g).1) hp.1 hp.2.1 q) (ry g)
  · obtain rfl := hp.2.2
    exact Run.step (fun t q => XS.ifNo X.at' C.1 rfl (C.d hd) rfl ((if0 _ _).trans (flt g).1) q) (rn g)
theorem s_icmp_ge (pY pN : Nat) (C : Cx tabs a0 Z own nm code ml ret p s m meth c) (X : St p l e R s m args below meth c n0 T h k n) {x y : Int32} {o : Int} (hd : decode code pc = .ok (.if_icmp .ge o, 3)) (ry : ¬ x < y → Run p e below n0 Q G m T pY ls st) (rn : x < y → Run p e below n0 Q G m T pN ls st) (hp : 0 ≤ (pc : Int) + o ∧ ((pc : Int) + o).toNat = pY ∧ pc + 3 = pN := by decide) : Run p e below n0 Q G m T pc ls (.int y :: .int x :: st) := by
  by_cases g : x < y
  · obtain rfl := hp.2.2
    exact Run.step (fun t q => XS.icmpNo X.at' C.1 rfl (C.d hd) rfl (tlt g).2.1 q) (rn g)
  · exact Run.step (fun t q => XS.icmpYes X.at' C.1 rfl rfl (C.d hd) rfl (flt g).2.1 hp.1 hp.2.1 q) (ry g)
theorem s_if_ge (pY pN : Nat) (C : Cx tabs a0 Z own nm code ml ret p s m meth c) (X : St p l e R s m args below meth c n0 T h k n) {x : Int32} {o : Int} (hd : decode code pc = .ok (.ifCond .ge o, 3)) (ry : ¬ x < (0 : Int32) → Run p e below n0 Q G m T pY ls st) (rn : x < (0 : Int32) → Run p e below n0 Q G m T pN ls st) (hp : 0 ≤ (pc : Int) + o ∧ ((pc : Int) + o).toNat = pY ∧ pc + 3 = pN := by decide) : Run p e below n0 Q G m T pc ls (.int x :: st) := by
  by_cases g : x < (0 : Int32)
  · obtain rfl := hp.2.2
    exact Run.step (fun t q => XS.ifNo X.at' C.1 rfl (C.d hd) rfl ((if0 _ _).trans (tlt g).2.1) q) (rn g)
  · exact Run.step (fun t q => XS.ifYes X.at' C.1 rfl rfl (C.d hd) rfl ((if0 _ _).trans (flt g).2.1) hp.1 hp.2.1 q) (ry g)
theorem s_icmp_gt (pY pN : Nat) (C : Cx tabs a0 Z own nm code ml ret p s m meth c) (X : St p l e R s m args below meth c n0 T h k n) {x y : Int32} {o : Int} (hd : decode code pc = .ok (.if_icmp .gt o, 3)) (ry : y < x → Run p e below n0 Q G m T pY ls st) (rn : ¬ y < x → Run p e below n0 Q G m T pN ls st) (hp : 0 ≤ (pc : Int) + o ∧ ((pc : Int) + o).toNat = pY ∧ pc + 3 = pN := by decide) : Run p e below n0 Q G m T pc ls (.int y :: .int x :: st) := by
  by_cases g : y < x
  · exact Run.step (fun t q => XS.icmpYes X.at' C.1 rfl rfl (C.d hd) rfl (tlt g).2.2.1 hp.1 hp.2.1 q) (ry g)
  · obtain rfl := hp.2.2
    exact Run.step (fun t q => XS.icmpNo X.at' C.1 rfl (C.d hd) rfl (flt g).2.2.1 q) (rn g)
theorem s_icmp_le (pY pN : Nat) (C : Cx tabs a0 Z own nm code ml ret p s m meth c) (X : St p l e R s m args below meth c n0 T h k n) {x y : Int32} {o : Int} (hd : decode code pc = .ok (.if_icmp .le o, 3)) (ry : ¬ y < x → Run p e below n0 Q G m T pY ls st) (rn : y < x → Run p e below n0 Q G m T pN ls st) (hp : 0 ≤ (pc : Int) + o ∧ ((pc : Int) + o).toNat = pY ∧ pc + 3 = pN := by decide) : Run p e below n0 Q G m T pc ls (.int y :: .int x :: st) := by
  by_cases g : y < x
  · obtain rfl := hp.2.2
    exact Run.step (fun t q => XS.icmpNo X.at' C.1 rfl (C.d hd) rfl (tlt g).2.2.2 q) (rn g)
  · exact Run.step (fun t q => XS.icmpYes X.at' C.1 rfl rfl (C.d hd) rfl (flt g).2.2.2 hp.1 hp.2.1 q) (ry g)
theorem s_if_le (pY pN : Nat) (C : Cx tabs a0 Z own nm code ml ret p s m meth c) (X : St p l e R s m args below meth c n0 T h k n) {x : Int32} {o : Int} (hd : decode code pc = .ok (.ifCond .le o, 3)) (ry : ¬ (0 : Int32) < x → Run p e below n0 Q G m T pY ls st) (rn : (0 : Int32) < x → Run p e below n0 Q G m T pN ls st) (hp : 0 ≤ (pc : Int) + o ∧ ((pc : Int) + o).toNat = pY ∧ pc + 3 = pN := by decide) : Run p e below n0 Q G m T pc ls (.int x :: st) := by
  by_cases g : (0 : Int32) < x
  · obtain rfl := hp.2.2
    exact Run.step (fun t q => XS.ifNo X.at' C.1 rfl (C.d hd) rfl ((if0 _ _).trans (tlt g).2.2.2) q) (rn g)
  · exact Run.step (fun t q => XS.ifYes X.at' C.1 rfl rfl (C.d hd) rfl ((if0 _ _).trans (flt g).2.2.2) hp.1 hp.2.1 q) (ry g)
theorem s_icmp_eq (pY pN : Nat) (C : Cx tabs a0 Z own nm code ml ret p s m meth c) (X : St p l e R s m args below meth c n0 T h k n) {x y : Int32} {o : Int} (hd : decode code pc = .ok (.if_icmp .eq o, 3)) (ry : x = y → Run p e below n0 Q G m T pY ls st) (rn : ¬ x = y → Run p e below n0 Q G m T pN ls st) (hp : 0 ≤ (pc : Int) + o ∧ ((pc : Int) + o).toNat = pY ∧ pc + 3 = pN := by decide) : Run p e below n0 Q G m T pc ls (.int y :: .int x :: st) := by
  by_cases g : x = y
  · exact Run.step (fun t q => XS.icmpYes X.at' C.1 rfl rfl (C.d hd) rfl (teq g).1 hp.1 hp.2.1 q) (ry g)
  · obtain rfl := hp.2.2
    exact Run.step (fun t q => XS.icmpNo X.at' C.1 rfl (C.d hd) rfl (feq g).1 q) (rn g)
theorem s_if_eq (pY pN : Nat) (C : Cx tabs a0 Z own nm code ml ret p s m meth c) (X : St p l e R s m args below meth c n0 T h k n) {x : Int32} {o : Int} (hd : decode code pc = .ok (.ifCond .eq o, 3)) (ry : x = (0 : Int32) → Run p e below n0 Q G m T pY ls st) (rn : ¬ x = (0 : Int32) → Run p e below n0 Q G m T pN ls st) (hp : 0 ≤ (pc : Int) + o ∧ ((pc : Int) + o).toNat = pY ∧ pc + 3 = pN := by decide) : Run p e below n0 Q G m T pc ls (.int x :: st) := by
  by_cases g : x = (0 : Int32)
  · exact Run.step (fun t q => XS.ifYes X.at' C.1 rfl rfl (C.d hd) rfl ((if0 _ _).trans (teq g).1) hp.1 hp.2.1 q) (ry g)
  · obtain rfl := hp.2.2
    exact Run.step (fun t q => XS.ifNo X.at' C.1 rfl (C.d hd) rfl ((if0 _ _).trans (feq g).1) q) (rn g)
theorem s_icmp_ne (pY pN : Nat) (C : Cx tabs a0 Z own nm code ml ret p s m meth c) (X : St p l e R s m args below meth c n0 T h k n) {x y : Int32} {o : Int} (hd : decode code pc = .ok (.if_icmp .ne o, 3)) (ry : ¬ x = y → Run p e below n0 Q G m T pY ls st) (rn : x = y → Run p e below n0 Q G m T pN ls st) (hp : 0 ≤ (pc : Int) + o ∧ ((pc : Int) + o).toNat = pY ∧ pc + 3 = pN := by decide) : Run p e below n0 Q G m T pc ls (.int y :: .int x :: st) := by
  by_cases g : x = y
  · obtain rfl := hp.2.2
    exact Run.step (fun t q => XS.icmpNo X.at' C.1 rfl (C.d hd) rfl (teq g).2 q) (rn g)
  · exact Run.step (fun t q => XS.icmpYes X.at' C.1 rfl rfl (C.d hd) rfl (feq g).2 hp.1 hp.2.1 q) (ry g)
theorem s_if_ne (pY pN : Nat) (C : Cx tabs a0 Z own nm code ml ret p s m meth c) (X : St p l e R s m args below meth c n0 T h k n) {x : Int32} {o : Int} (hd : decode code pc = .ok (.ifCond .ne o, 3)) (ry : ¬ x = (0 : Int32) → Run p e below n0 Q G m T pY ls st) (rn : x = (0 : Int32) → Run p e below n0 Q G m T pN ls st) (hp : 0 ≤ (pc : Int) + o ∧ ((pc : Int) + o).toNat = pY ∧ pc + 3 = pN := by decide) : Run p e below n0 Q G m T pc ls (.int x :: st) := by
  by_cases g : x = (0 : Int32)
  · obtain rfl := hp.2.2
    exact Run.step (fun t q => XS.ifNo X.at' C.1 rfl (C.d hd) rfl ((if0 _ _).trans (teq g).2) q) (rn g)
  · exact Run.step (fun t q => XS.ifYes X.at' C.1 rfl rfl (C.d hd) rfl ((if0 _ _).trans (feq g).2) hp.1 hp.2.1 q) (ry g)
theorem s_ifnullN (pN : Nat) (C : Cx tabs a0 Z own nm code ml ret p s m meth c) (X : St p l e R s m args below meth c n0 T h k n) {b : Addr} {o : Int} (hd : decode code pc = .ok (.ifnull o, 3)) (rn : Run p e below n0 Q G m T pN ls st) (hp : pc + 3 = pN := by rfl) : Run p e below n0 Q G m T pc ls (.ref b :: st) := by
  subst hp
  exact Run.step (fun t q => XS.ifnullNo X.at' C.1 rfl (C.d hd) rfl q) rn
theorem s_ldcInt (pc' : Nat) (C : Cx tabs a0 Z own nm code ml ret p s m meth c) (X : St p l e R s m args below meth c n0 T h k n) {idx : Nat} {z : Int32} (hd : decode code pc = .ok (.ldc idx, 2)) (w : Jvm.Cond.constant own idx z ∈ tabs) (r : Run p e below n0 Q G m T pc' ls (.int z :: st)) (hp : pc + 2 = pc' := by rfl) : Run p e below n0 Q G m T pc ls st := by
  subst hp
  obtain ⟨_, Y, -⟩ := X
  exact Run.step (Y.ldcInt C.1 C.2.2.2.2.1 (mvT C.2.1 (C.w w)) (g := mkF m pc ls st) rfl (C.d hd)) r
theorem s_lsw (pc' : Nat) (C : Cx tabs a0 Z own nm code ml ret p s m meth c) (X : St p l e R s m args below meth c n0 T h k n) {df : Int} {ps : Array (Int × Int)} {len : Nat} {x : Int32} (hd : decode code pc = .ok (.lookupswitch df ps, len)) (hsort : (ps.toList.zip (ps.toList.drop 1)).all (fun (a, next) => a.1 < next.1) = true) (ho : 0 ≤ (pc : Int) + lookupswitch.offset ps.toList df x.toInt) (hp : ((pc : Int) + lookupswitch.offset ps.toList df x.toInt).toNat = pc') (r : Run p e below n0 Q G m T pc' ls st) : Run p e below n0 Q G m T pc ls (.int x :: st) := by
  subst hp
  refine Run.step (fun t q => ?_) r
  have hA := X.at'
  jvm_step hA [hA.top, C.1, C.d hd, lookupswitch.wp_chain, ho]
  exact ⟨by simpa using hsort, q⟩
theorem FE_mono {kc ks : Nat} (hk : k ≤ kc) (hn : n ≤ ks) : ∀ (v : Option Value) (t : State) (L : List Loc), t.heap = h → FrameEnd s (.returned v) t L k n → FrameEnd s (.returned v) t L kc ks := fun v t L _ h => ⟨h.1, h.2.1, h.2.2.mono hk hn⟩
theorem Run.done (C : Cx tabs a0 Z own nm code ml ret p s m meth c) (X : St p l e R s m args below meth c n0 T h k n) {v : Option Value} (hv : ret = none → v = none) (hG : ∀ (v : Option Value) (t : State) (L : List Loc), t.heap = h → FrameEnd s (.returned v) t L k n → G (.returned v) t L) (q : Q v h) (f : ∀ locs fs, Stand p l e R s m args below meth c T locs k n → (∀ (f : JFrame) (acts : List Action), f.method = m → f.locked = none → f.entered = [] → (doReturn e (T.setTop f) acts v).1 = T.setFrames fs) → Steps p.tables e below (T.setTop (mkF m pc ls st)) (T.setFrames fs)) : Run p e below n0 Q G m T pc ls st := by
  obtain ⟨locs, Y, rfl, N, -⟩ := X
  obtain ⟨fs, hr, hrun, hended, hW, hsame⟩ := Y.leave (v := v) (by rw [C.2.2.2.2.2.1]; exact hv) C.2.2.2.2.2.2.1
  exact ⟨_, _, f locs fs Y hr, hrun, hended, _, _, rfl, ⟨q, N⟩, hG _ _ _ rfl ⟨⟨_, rfl⟩, hW, hsame⟩⟩
theorem s_return (C : Cx tabs a0 Z own nm code ml ret p s m meth c) (X : St p l e R s m args below meth c n0 T h k n) (hd : decode code pc = .ok (.return_, 1)) (hr : ret = none) (q : Q none h) (hG : ∀ (v : Option Value) (t : State) (L : List Loc), t.heap = h → FrameEnd s (.returned v) t L k n → G (.returned v) t L := by exact FE_mono (by decide) (by decide)) : Run p e below n0 Q G m T pc ls [] := by
  subst hr
  exact Run.done C X (fun _ => rfl) hG q (fun locs fs Y hr => Y.returnOut C.1 C.2.2.2.2.2.1 (C.d hd) hr)
theorem s_ireturn (C : Cx tabs a0 Z own nm code ml ret p s m meth c) (X : St p l e R s m args below meth c n0 T h k n) {z : Int32} (hd : decode code pc = .ok (.ireturn, 1)) (hr : ret = some .int) (q : Q (some (.int z)) h) (hG : ∀ (v : Option Value) (t : State) (L : List Loc), t.heap = h → FrameEnd s (.returned v) t L k n → G (.returned v) t L := by exact FE_mono (by decide) (by decide)) : Run p e below n0 Q G m T pc ls (.int z :: st) := by
  subst hr
  refine Run.done C X (fun w => by cases w) hG q (fun locs fs Y hr => ?_)
  exact retOut Y C.1 C.2.2.2.2.2.1 (t := .int) rfl (Or.inl ⟨rfl, Or.inl rfl, _, rfl⟩) (C.d hd) hr
theorem s_nreturn (C : Cx tabs a0 Z own nm code ml ret p s m meth c) (X : St p l e R s m args below meth c n0 T h k n) {z z' : Int32} {t : FieldType} (hd : decode code pc = .ok (.ireturn, 1)) (hr : ret = some t) (ht : t = .boolean ∨ t = .byte ∨ t = .char ∨ t = .short) (hz : nar t z = z') (q : Q (some (.int z')) h) (hG : ∀ (v : Option Value) (t : State) (L : List Loc), t.heap = h → FrameEnd s (.returned v) t L k n → G (.returned v) t L := by exact FE_mono (by decide) (by decide)) : Run p e below n0 Q G m T pc ls (.int z :: st) := by
  subst hr hz
  refine Run.done C X (fun w => by cases w) hG q (fun locs fs Y hr => ?_)
  exact retN Y C.1 C.2.2.2.2.2.1 ht (C.d hd) hr
theorem s_areturn (C : Cx tabs a0 Z own nm code ml ret p s m meth c) (X : St p l e R s m args below meth c n0 T h k n) {v : Value} {t : FieldType} (hd : decode code pc = .ok (.areturn, 1)) (hr : ret = some t) (ht : t.isReference = true) (hv : v.isRef = true) (q : Q (some v) h) (hG : ∀ (v : Option Value) (t : State) (L : List Loc), t.heap = h → FrameEnd s (.returned v) t L k n → G (.returned v) t L := by exact FE_mono (by decide) (by decide)) : Run p e below n0 Q G m T pc ls (v :: st) := by
  subst hr
  refine Run.done C X (fun w => by cases w) hG q (fun locs fs Y hr => ?_)
  exact retOut Y C.1 C.2.2.2.2.2.1 (t := t) (by rcases ref_cases hv with rfl | ⟨_, rfl⟩ <;> cases t <;> first | rfl | simp [FieldType.isReference] at ht) (Or.inr (Or.inr (Or.inr (Or.inr ⟨rfl, ht, hv⟩)))) (C.d hd) hr
theorem s_getfield (pc' : Nat) (C : Cx tabs a0 Z own nm code ml ret p s m meth c) (X : St p l e R s m args below meth c n0 T h k n) {R0 O fn d host : String} {idx : Nat} {a : Addr} {v : Value} (hd : decode code pc = .ok (.getfield idx, 3)) (w : Jvm.Cond.fieldLink own idx R0 fn d ∈ tabs ∨ Jvm.Cond.fieldLinkNest own idx R0 fn d host ∈ tabs) (via : Via Z R0 O fn d) (F : Fld Z h a O fn d v) (r : ∀ T', St p l e R s m args below meth c n0 T' h k n → Run p e below n0 Q G m T' pc' ls (v :: st)) (hp : pc + 3 = pc' := by rfl) : Run p e below n0 Q G m T pc ls (.ref a :: st) := by
  subst hp
  obtain ⟨locs, Y, eT, N, q⟩ := X
  obtain ⟨T', Y', e', f⟩ := getF (host := host) Y C.1 C.2.1 C.2.2.2.2.1 (w.imp C.w C.w) via eT F (g := mkF m pc ls (.ref a :: st)) rfl rfl (C.d hd)
  exact Run.step f (r T' ⟨locs, Y', e', N, q⟩)
theorem s_getstatic (pc' : Nat) (C : Cx tabs a0 Z own nm code ml ret p s m meth c) (X : St p l e R s m args below meth c n0 T h k n) {R0 O fn d host : String} {idx : Nat} {v : Value} (hd : decode code pc = .ok (.getstatic idx, 3)) (w : Jvm.Cond.fieldLink own idx R0 fn d ∈ tabs ∨ Jvm.Cond.fieldLinkNest own idx R0 fn d host ∈ tabs) (via : Via Z R0 O fn d) (F : Sta Z h O fn d v) (r : ∀ T', St p l e R s m args below meth c n0 T' h k n → Run p e below n0 Q G m T' pc' ls (v :: st)) (hp : pc + 3 = pc' := by rfl) : Run p e below n0 Q G m T pc ls st := by
  subst hp
  obtain ⟨locs, Y, eT, N, q⟩ := X
  obtain ⟨T', Y', e', f⟩ := getS2 (host := host) Y C.1 C.2.1 C.2.2.2.2.1 (w.imp C.w C.w) via eT F (g := mkF m pc ls st) rfl (C.d hd)
  exact Run.step f (r T' ⟨locs, Y', e', N, q⟩)
theorem s_putfield (pc' : Nat) (C : Cx tabs a0 Z own nm code ml ret p s m meth c) (X : St p l e R s m args below meth c n0 T h k n) {R0 O fn d host K : String} {idx kk : Nat} {ty : FieldType} {a : Addr} {v old : Value} (hd : decode code pc = .ok (.putfield idx, 3)) (w : Jvm.Cond.fieldLink own idx R0 fn d ∈ tabs ∨ Jvm.Cond.fieldLinkNest own idx R0 fn d host ∈ tabs) (via : Via Z R0 O fn d) (F : Fld Z h a O fn d old) (E : Exa Z h a K) (L : Jvm.Cond.lays K O fn d ∈ tabs ∨ (Jvm.Cond.laysFinal K O fn d ∈ tabs ∧ own = O ∧ nm = "<init>")) (wi : Jvm.Cond.instantiable K kk ∈ tabs) (hty : parseFieldDescriptor d = some ty) (hn : narrow ty v = v) (hf : fits ty v = true) (ge : n0 ≤ a)
    (r : ∀ T' h', St p l e R s m args below meth c n0 T' h' k n → Wr h h' a (RoadKit.slotOf Z O fn d) v → Run p e below n0 Q G m T' pc' ls st) (hp : pc + 3 = pc' := by rfl) : Run p e below n0 Q G m T pc ls (v :: .ref a :: st) := by
  subst hp
  obtain ⟨locs, Y, eT, N, q⟩ := X
  obtain ⟨T', h', Y', e', W, f⟩ := putF (host := host) Y C.1 C.2.1 C.2.2.2.2.1 (w.imp C.w C.w) via eT F E (L.imp C.w fun z => ⟨C.w z.1, z.2.1, C.2.2.2.2.2.2.2.1.trans z.2.2⟩) (C.w wi) hty hn hf (g := mkF m pc ls (v :: .ref a :: st)) rfl rfl (C.d hd)
  exact Run.step f (r T' h' ⟨_, Y', e', Fr.snoc Y' N ge, q⟩ W)
theorem s_putfieldN (pc' : Nat) (C : Cx tabs a0 Z own nm code ml ret p s m meth c) (X : St p l e R s m args below meth c n0 T h k n) {R0 O fn d K : String} {idx kk : Nat} {ty : FieldType} {a : Addr} {v v' old : Value} (hd : decode code pc = .ok (.putfield idx, 3)) (w : Jvm.Cond.fieldLink own idx R0 fn d ∈ tabs) (via : Via Z R0 O fn d) (F : Fld Z h a O fn d old) (E : Exa Z h a K) (L : Jvm.Cond.lays K O fn d ∈ tabs ∨ (Jvm.Cond.laysFinal K O fn d ∈ tabs ∧ own = O ∧ nm = "<init>")) (wi : Jvm.Cond.instantiable K kk ∈ tabs) (hty : parseFieldDescriptor d = some ty) (hn : narrow ty v = v') (hf : fits ty v' = true) (ge : n0 ≤ a)
    (r : ∀ T' h', St p l e R s m args below meth c n0 T' h' k n → Wr h h' a (RoadKit.slotOf Z O fn d) v' → Run p e below n0 Q G m T' pc' ls st) (hp : pc + 3 = pc' := by rfl) : Run p e below n0 Q G m T pc ls (v :: .ref a :: st) := by
  subst hp
  obtain ⟨locs, Y, eT, N, q⟩ := X
  obtain ⟨T', h', Y', e', W, f⟩ := putFN Y C.1 C.2.1 C.2.2.2.2.1 (C.w w) via eT F E (L.imp C.w fun z => ⟨C.w z.1, z.2.1, C.2.2.2.2.2.2.2.1.trans z.2.2⟩) (C.w wi) hty hn hf (g := mkF m pc ls (v :: .ref a :: st)) rfl rfl (C.d hd)
  exact Run.step f (r T' h' ⟨_, Y', e', Fr.snoc Y' N ge, q⟩ W)
theorem s_new (pc' : Nat) (C : Cx tabs a0 Z own nm code ml ret p s m meth c) (X : St p l e R s m args below meth c n0 T h k n) {K : String} {idx nn : Nat} (hd : decode code pc = .ok (.new idx, 3)) (w1 : Jvm.Cond.classLink own idx K ∈ tabs) (w2 : Jvm.Cond.instantiable K nn ∈ tabs) (w3 : Jvm.Cond.initialized K ∈ tabs)
    (r : ∀ T' h' b, h.size = b → St p l e R s m args below meth c n0 T' h' (k + 1) (n + nn) → Ext h h' → Exa Z h' b K → (∀ {O fn d : String} {ty : FieldType}, Laid Z a0 K O fn d → parseFieldDescriptor d = some ty → Fld Z h' b O fn d (defaultValue ty)) → n0 ≤ b → Run p e below n0 Q G m T' pc' ls (.ref b :: st)) (hp : pc + 3 = pc' := by rfl) (hc : k + 1 ≤ R.cells ∧ n + nn ≤ R.slots := by decide) : Run p e below n0 Q G m T pc ls st := by
  subst hp
  have hz := X.sz
  obtain ⟨locs, Y, eT, N, q⟩ := X
  obtain ⟨T', h', Y', e', E, A, D, -, f⟩ := newO Y C.1 C.2.1 C.2.2.2.2.1 (C.w w1) (C.w w2) (C.w w3) eT (g := mkF m pc ls st) rfl (C.d hd) hc.1 hc.2
  exact Run.step f (r T' h' _ rfl ⟨locs, Y', e', N, q⟩ E A D hz)
theorem s_objInit (pc' : Nat) (C : Cx tabs a0 Z own nm code ml ret p s m meth c) (X : St p l e R s m args below meth c n0 T h k n) {idx W : Nat} {a : Addr} (hd : decode code pc = .ok (.invokespecial idx, 3)) (w1 : Jvm.Cond.methodLink own idx Lib.objectInit ∈ tabs) (w2 : Jvm.Cond.instanceMethod Lib.objectInit ∈ tabs) (w3 : Jvm.Cond.code Lib.objectInit ⟨#[0xb1]⟩ 1 none ∈ tabs) (hsz : ls.size = ml) (hW : (st.map fun v => v.category).sum = W) (hf : 1 ≤ R.frames ∧ W + 12 ≤ R.locals)
    (r : ∀ T', St p l e R s m args below meth c n0 T' h k n → Run p e below n0 Q G m T' pc' ls st) (hp : pc + 3 = pc' := by rfl) : Run p e below n0 Q G m T pc ls (.ref a :: st) := by
  subst hp
  obtain ⟨locs, Y, eT, N, q⟩ := X
  obtain ⟨T', Y', e', f⟩ := initO Y C.1 C.2.1 C.2.2.2.2.1 (C.w w1) (C.w w2) (C.w w3) eT (g := mkF m pc ls (.ref a :: st)) rfl (hsz.trans C.2.2.2.1.symm) rfl (C.d hd) hf.1 (W := W) (by show 2 * 0 + _ ≤ _; rw [hW]; omega) hf.2
  exact Run.step f (r T' ⟨locs, Y', e', N, q⟩)
theorem s_newarray (pc' : Nat) (cap : Nat) (C : Cx tabs a0 Z own nm code ml ret p s m meth c) (X : St p l e R s m args below meth c n0 T h k n) {aty : ArrayType} {z : Int32} (hd : decode code pc = .ok (.newarray aty, 2)) (w : Jvm.Cond.arrayClass (newarray.typeOf aty) ∈ tabs) (hz : ¬ z < 0) (hcap : z.toNatClampNeg ≤ cap)
    (r : ∀ T' h' b kA, h.size = b → St p l e R s m args below meth c n0 T' h' (k + 1) (n + cap) → Ext h h' → Arv Z h' b kA (newarray.typeOf aty) z [] (defaultValue (newarray.typeOf aty)) → n0 ≤ b → Run p e below n0 Q G m T' pc' ls (.ref b :: st)) (hp : pc + 2 = pc' := by rfl) (hc : cap * 8 ≤ 536870912 ∧ k + 1 ≤ R.cells ∧ n + cap ≤ R.slots := by decide) : Run p e below n0 Q G m T pc ls (.int z :: st) := by
  subst hp
  have hs := X.sz
  obtain ⟨locs, Y, eT, N, q⟩ := X
  obtain ⟨T', h', kA, Y', e', E, A, f⟩ := newP Y C.1 C.2.1 (C.w w) eT (g := mkF m pc ls (.int z :: st)) rfl (C.d hd) rfl hz hcap hc.1 hc.2.1 hc.2.2
  exact Run.step f (r T' h' _ kA rfl ⟨locs, Y', e', N, q⟩ E (Arv.new A hz) hs)
theorem s_castore (pc' : Nat) (i : Nat) (C : Cx tabs a0 Z own nm code ml ret p s m meth c) (X : St p l e R s m args below meth c n0 T h k n) {a : Addr} {kA : ClassId} {z j : Int32} {x : Int32} {vs : List Value} {dv : Value} (hd : decode code pc = .ok (.castore, 1)) (F : Arv Z h a kA .char z vs dv) (ge : n0 ≤ a) (hj : ¬ j < 0 ∧ j < z) (hi : j.toNatClampNeg = i) (hl : i < vs.length)
    (r : ∀ T' h', St p l e R s m args below meth c n0 T' h' k n → Wr h h' a j.toNatClampNeg (.int (nar .char x)) → Arv Z h' a kA .char z (vs.set i (.int (nar .char x))) dv → Run p e below n0 Q G m T' pc' ls st) (hp : pc + 1 = pc' := by rfl) : Run p e below n0 Q G m T pc ls (.int x :: .int j :: .ref a :: st) := by
  subst hp
  obtain ⟨locs, Y, eT, N, q⟩ := X
  obtain ⟨cl, A, q1, S, q3, H, G⟩ := F
  obtain ⟨T', h', Y', e', W, f⟩ := stC Y C.1 C.2.1 eT A (j := j) (inb_of S hj) (g := mkF m pc ls (.int x :: .int j :: .ref a :: st)) rfl rfl (C.d hd)
  exact Run.step f (r T' h' ⟨_, Y', e', Fr.snoc Y' N ge, q⟩ W (Arv.set A q1 S q3 H G (fits_nar_char x) W i hi hl))
theorem s_bastore (pc' : Nat) (i : Nat) (C : Cx tabs a0 Z own nm code ml ret p s m meth c) (X : St p l e R s m args below meth c n0 T h k n) {a : Addr} {kA : ClassId} {z j : Int32} {x : Int32} {vs : List Value} {dv : Value} (hd : decode code pc = .ok (.bastore, 1)) (F : Arv Z h a kA .byte z vs dv) (ge : n0 ≤ a) (hj : ¬ j < 0 ∧ j < z) (hi : j.toNatClampNeg = i) (hl : i < vs.length)
    (r : ∀ T' h', St p l e R s m args below meth c n0 T' h' k n → Wr h h' a j.toNatClampNeg (.int (nar .byte x)) → Arv Z h' a kA .byte z (vs.set i (.int (nar .byte x))) dv → Run p e below n0 Q G m T' pc' ls st) (hp : pc + 1 = pc' := by rfl) : Run p e below n0 Q G m T pc ls (.int x :: .int j :: .ref a :: st) := by
  subst hp
  obtain ⟨locs, Y, eT, N, q⟩ := X
  obtain ⟨cl, A, q1, S, q3, H, G⟩ := F
  obtain ⟨T', h', Y', e', W, f⟩ := stB Y C.1 C.2.1 eT A (j := j) (inb_of S hj) (g := mkF m pc ls (.int x :: .int j :: .ref a :: st)) rfl rfl (C.d hd)
  exact Run.step f (r T' h' ⟨_, Y', e', Fr.snoc Y' N ge, q⟩ W (Arv.set A q1 S q3 H G (fits_nar_byte x) W i hi hl))
theorem s_caload (pc' : Nat) (C : Cx tabs a0 Z own nm code ml ret p s m meth c) (X : St p l e R s m args below meth c n0 T h k n) {a : Addr} {kA : ClassId} {z j : Int32} {v : Value} {vs : List Value} {dv : Value} (hd : decode code pc = .ok (.caload, 1)) (F : Arv Z h a kA .char z vs dv) (hj : ¬ j < 0 ∧ j < z) (hv : vs.getD j.toNatClampNeg dv = v)
    (r : Run p e below n0 Q G m T pc' ls (v :: st)) (hp : pc + 1 = pc' := by rfl) : Run p e below n0 Q G m T pc ls (.int j :: .ref a :: st) := by
  subst hp
  obtain ⟨locs, Y, eT, N, q⟩ := X
  obtain ⟨cl, A, q1, S, q3, H, G⟩ := F
  exact Run.step (fun t q => Y.caload C.1 (j := j) (v := v) (by rw [eT]; exact A.1) (State.isArrayOf_alike C.2.1.alike A.2.1) A.2.2 (inb_of S hj) (H.at (inb_of S hj) hv) (g := mkF m pc ls (.int j :: .ref a :: st)) rfl rfl (C.d hd) t q) r
theorem s_baload (pc' : Nat) (C : Cx tabs a0 Z own nm code ml ret p s m meth c) (X : St p l e R s m args below meth c n0 T h k n) {a : Addr} {kA : ClassId} {z j : Int32} {v : Value} {vs : List Value} {dv : Value} (hd : decode code pc = .ok (.baload, 1)) (F : Arv Z h a kA .byte z vs dv) (hj : ¬ j < 0 ∧ j < z) (hv : vs.getD j.toNatClampNeg dv = v)
    (r : Run p e below n0 Q G m T pc' ls (v :: st)) (hp : pc + 1 = pc' := by rfl) : Run p e below n0 Q G m T pc ls (.int j :: .ref a :: st) := by
  subst hp
  obtain ⟨locs, Y, eT, N, q⟩ := X
  obtain ⟨cl, A, q1, S, q3, H, G⟩ := F
  exact Run.step (fun t q => Y.baloadBytes C.1 (j := j) (v := v) (by rw [eT]; exact A.1) (State.isArrayOf_alike C.2.1.alike A.2.1) A.2.2 (inb_of S hj) (H.at (inb_of S hj) hv) (g := mkF m pc ls (.int j :: .ref a :: st)) rfl rfl (C.d hd) t q) r
theorem s_arraylength (pc' : Nat) (C : Cx tabs a0 Z own nm code ml ret p s m meth c) (X : St p l e R s m args below meth c n0 T h k n) {a : Addr} {kA : ClassId} {z : Int32} {ty : FieldType} {vs : List Value} {dv : Value} (hd : decode code pc = .ok (.arraylength, 1)) (F : Arv Z h a kA ty z vs dv)
    (r : Run p e below n0 Q G m T pc' ls (.int z :: st)) (hp : pc + 1 = pc' := by rfl) : Run p e below n0 Q G m T pc ls (.ref a :: st) := by
  subst hp
  obtain ⟨locs, Y, eT, N, q⟩ := X
  obtain ⟨cl, A, q1, S, q3, H, G⟩ := F
  rw [← len_of S q3] at r
  exact Run.step (fun t q => Y.arraylength C.1 (by rw [eT]; exact A.1) (State.isArrayOf_alike C.2.1.alike A.2.1) (g := mkF m pc ls (.ref a :: st)) rfl rfl (C.d hd) t q) r
theorem s_arraycopy (pc' : Nat) (W : Nat) (vs' : List Value) (C : Cx tabs a0 Z own nm code ml ret p s m meth c) (X : St p l e R s m args below meth c n0 T h k n) {idx : Nat} {a b : Addr} {kA kB : ClassId} {ty : FieldType} {z z' sp dp nn : Int32} {va vb : List Value} {da db : Value} (hd : decode code pc = .ok (.invokestatic idx, 3)) (w1 : Jvm.Cond.methodLink own idx Jvm.Stand.acN ∈ tabs) (w2 : Jvm.Cond.native Jvm.Stand.acN ∈ tabs) (w3 : Jvm.Cond.static Jvm.Stand.acN ∈ tabs) (w4 : Jvm.Cond.initialized "java/lang/System" ∈ tabs)
    (A : Arv Z h a kA ty z va da) (B : Arv Z h b kB ty z' vb db) (hty : refKind ty = false) (h1 : ¬ sp < 0) (h2 : ¬ dp < 0) (h3 : ¬ nn < 0) (h4 : sp.toNatClampNeg + nn.toNatClampNeg ≤ z.toNatClampNeg) (h5 : dp.toNatClampNeg + nn.toNatClampNeg ≤ z'.toNatClampNeg) (hl : dp.toNatClampNeg + nn.toNatClampNeg ≤ vb.length) (ge : n0 ≤ b)
    (hv : vb.take dp.toNatClampNeg ++ ((List.range nn.toNatClampNeg).map fun i => va.getD (sp.toNatClampNeg + i) da) ++ vb.drop (dp.toNatClampNeg + nn.toNatClampNeg) = vs') (hsz : ls.size = ml) (hW : (st.map fun v => v.category).sum = W)
    (r : ∀ T' h', St p l e R s m args below meth c n0 T' h' k n → Keep h h' [b] → Arv Z h' b kB ty z' vs' db → Run p e below n0 Q G m T' pc' ls st) (hp : pc + 3 = pc' := by rfl) (hc : 1 ≤ R.frames ∧ W + (nativeFrameWords "java/lang/System" "arraycopy" 5 + 11) ≤ R.locals := by decide) : Run p e below n0 Q G m T pc ls (.int nn :: .int dp :: .ref b :: .int sp :: .ref a :: st) := by
  subst hp hv
  obtain ⟨locs, Y, eT, N, q⟩ := X
  obtain ⟨T', h', L, Y', e', N', K, F, f⟩ := cpA Y C.1 C.2.1 C.2.2.2.2.1 (C.w w1) (C.w w2) (C.w w3) (C.w w4) eT A B (Or.inl ⟨rfl, hty⟩) h1 h2 h3 h4 h5 rfl hl N ge (g := mkF m pc ls (.int nn :: .int dp :: .ref b :: .int sp :: .ref a :: st)) rfl (hsz.trans C.2.2.2.1.symm) rfl (C.d hd) hc.1 (W := W) (by show 2 * 0 + _ ≤ _; rw [hW]; omega) hc.2
  exact Run.step f (r T' h' ⟨_, Y', e', N', q⟩ K F)
/-- a method's contract at given arguments and a given heap -/
def Met (l : Launch) (Z : State) (y : MethodName) (bytes : ByteArray) (ml : Nat) (ret : Option FieldType) (rm : Room) (ws : List Jvm.Cond) (as : Array Value) (h : Heap) (n0 : Nat) (Q : Option Value → Heap → Prop) : Prop :=
  MetFree l y (head1 (Jvm.Cond.code y bytes ml ret :: ws) rm) (fun a U => a = as ∧ Z.Warmed39 U.vm ∧ U.heap = h) (fun _ _ _ _ _ => True) (fun _ U o U' => ∃ v L, o = .returned v ∧ (Q v U'.heap ∧ Fr n0 L) ∧ FrameEnd U o U' L rm.cells rm.slots)
theorem Met.mk {y : MethodName} {rm : Room} {ws : List Jvm.Cond} {as : Array Value} {ls0 : Array Slot} (hpl : plainFor y = true) (hw : ∀ d ∈ tabs, d.before a0 Z = true) (hn : n0 ≤ h.size) (hef : ∀ m, entryFrame m as ml = mkF m 0 ls0 [])
    (body : ∀ p e s m below meth c T, Cx tabs a0 Z y.cls y.name code ml ret p s m meth c → St p l e rm s m as below meth c n0 T h 0 0 → Run p e below n0 Q (fun o t L => FrameEnd s o t L rm.cells rm.slots) m T 0 ls0 []) : Met l Z y code ml ret rm ws as h n0 Q := by
  refine MetFree.of_bodySF hpl hisR ?_
  intro p e s m args below meth c s₁ Bd hml0 hP hK
  obtain ⟨rfl, hZ, rfl⟩ := hP
  have X0 : Stand p l e rm s m args below meth c s₁ [] 0 0 := Stand.of_body Bd
  have e0 : s₁.heap = s.heap := by rw [Bd.state]; rfl
  have r := body p e s m below meth c s₁ ⟨Bd.exec, hZ, Bd.bytes, hml0, findClass_of_methodNamed Bd.named, Bd.returns, Bd.notSynchronized, (name_of_methodNamed Bd.named Bd.method).1, hw⟩ ⟨[], X0, e0, Fr.nil n0, hn⟩
  obtain ⟨s₂, o, h1, h2⟩ := r
  exact ⟨s₂, o, castTop (hef m) h1, h2⟩
theorem Met.imp {y : MethodName} {rm : Room} {ws : List Jvm.Cond} {as : Array Value} {Q' : Option Value → Heap → Prop} (M : Met l Z y code ml ret rm ws as h n0 Q) (f : ∀ v h', Q v h' → Q' v h') : Met l Z y code ml ret rm ws as h n0 Q' := fun p e a b c s m x y z w u v => by
  obtain ⟨s2, o, h1, h2, h3, v', L, h4, h5, h6⟩ := M p e a b c s m x y z w u v
  exact ⟨s2, o, h1, h2, h3, v', L, h4, ⟨f _ _ h5.1, h5.2⟩, h6⟩
theorem s_callS (pc' : Nat) (argsL rest : List Value) (W : Nat) (C : Cx tabs a0 Z own nm code ml ret p s m meth c) (X : St p l e R s m args below meth c n0 T h k n) {idx : Nat} {y : MethodName} {bytes : ByteArray} {maxL : Nat} {rt : Option FieldType} {rm : Room} {stk : List Value} {Q1 : Option Value → Heap → Prop} (hd : decode code pc = .ok (.invokestatic idx, 3)) (w1 : Jvm.Cond.methodLink own idx y ∈ tabs) (w2 : Jvm.Cond.static y ∈ tabs) (w3 : Jvm.Cond.initialized y.cls ∈ tabs) (w4 : Jvm.Cond.code y bytes maxL rt ∈ tabs)
    (M : Met l Z y bytes maxL rt rm [] argsL.toArray h n0 Q1) (hlen : ∀ sig, parseMethodDescriptor y.desc = some sig → argsL.length = sig.parameters.length) (hs : stk = argsL.reverse ++ rest) (hsz : ls.size = ml) (hW : (rest.map fun v => v.category).sum = W)
    (r : ∀ T' v h', St p l e R s m args below meth c n0 T' h' (k + rm.cells) (n + rm.slots) → Q1 v h' → Run p e below n0 Q G m T' pc' ls (v.toList ++ rest)) (hp : pc + 3 = pc' := by rfl) (hr : rm.frames + 1 ≤ R.frames ∧ W + (maxL + 11) + rm.locals ≤ R.locals ∧ k + rm.cells ≤ R.cells ∧ n + rm.slots ≤ R.slots := by decide) (hy : y.cls ≠ "java/lang/invoke/MethodHandle" ∧ y.cls ≠ "java/lang/invoke/VarHandle" := by decide) : Run p e below n0 Q G m T pc ls stk := by
  subst hp hs
  obtain ⟨locs, Y, eT, N, q⟩ := X
  obtain ⟨v, _, ⟨T1, L1, k1, n1⟩, -, Y', ⟨Lc, hQ, l1, y1, z1⟩, f⟩ := Jvm.LawKit.callS Y C.1 C.2.2.2.2.1 (mvT C.2.1 (C.w w1)) (mvT C.2.1 (C.w w2)) (mvT C.2.1 (C.w w3)) (mvT C.2.1 (C.w w4)) hy (backOf (W := W) (Q := fun v h L => Q1 v h ∧ Fr n0 L) M C.2.1 (C.w w4) (C.w w3) hr.1 hr.2.1) (g := mkF m pc ls (argsL.reverse ++ rest)) rfl (hsz.trans C.2.2.2.1.symm) (argsL := argsL) (rest := rest) hlen rfl (by show 2 * 0 + _ ≤ _; rw [hW]; omega) (C.d hd) (fun _ _ => ⟨rfl, eT, hr.2.2.1, hr.2.2.2⟩)
  dsimp only [Pt.U, Pt.locs, Pt.cells, Pt.slots] at Y' l1 y1 z1 f hQ
  subst l1 y1 z1
  exact Run.step f (r T1 v _ ⟨_, Y', rfl, Fr.app N hQ.2, q⟩ hQ.1)
theorem s_callC (pc' : Nat) (argsL rest : List Value) (W : Nat) (C : Cx tabs a0 Z own nm code ml ret p s m meth c) (X : St p l e R s m args below meth c n0 T h k n) {idx : Nat} {y : MethodName} {bytes : ByteArray} {maxL : Nat} {rm : Room} {stk : List Value} {Q1 : Option Value → Heap → Prop} {a : Addr} (hd : decode code pc = .ok (.invokespecial idx, 3)) (hi : y.name = "<init>") (w1 : Jvm.Cond.methodLink own idx y ∈ tabs) (w2 : Jvm.Cond.instanceMethod y ∈ tabs) (w3 : Jvm.Cond.initialized y.cls ∈ tabs) (w4 : Jvm.Cond.code y bytes maxL none ∈ tabs)
    (M : Met l Z y bytes maxL none rm [] (.ref a :: argsL).toArray h n0 Q1) (hlen : ∀ sig, parseMethodDescriptor y.desc = some sig → argsL.length = sig.parameters.length) (hs : stk = argsL.reverse ++ .ref a :: rest) (hsz : ls.size = ml) (hW : (rest.map fun v => v.category).sum = W)
    (r : ∀ T' v h', St p l e R s m args below meth c n0 T' h' (k + rm.cells) (n + rm.slots) → Q1 v h' → Run p e below n0 Q G m T' pc' ls (v.toList ++ rest)) (hp : pc + 3 = pc' := by rfl) (hr : rm.frames + 1 ≤ R.frames ∧ W + (maxL + 11) + rm.locals ≤ R.locals ∧ k + rm.cells ≤ R.cells ∧ n + rm.slots ≤ R.slots := by decide) (hy : y.cls ≠ "java/lang/invoke/MethodHandle" ∧ y.cls ≠ "java/lang/invoke/VarHandle" := by decide) : Run p e below n0 Q G m T pc ls stk := by
  subst hp hs
  obtain ⟨locs, Y, eT, N, q⟩ := X
  obtain ⟨v, _, ⟨T1, L1, k1, n1⟩, -, Y', ⟨Lc, hQ, l1, y1, z1⟩, f⟩ := Y.specialBack C.1 (y := y) hi C.2.2.2.2.1 (mvT C.2.1 (C.w w1)) (mvT C.2.1 (C.w w2)) (mvT C.2.1 (C.w w4)) hy (backOf (W := W) (Q := fun v h L => Q1 v h ∧ Fr n0 L) M C.2.1 (C.w w4) (C.w w3) hr.1 hr.2.1) (g := mkF m pc ls (argsL.reverse ++ .ref a :: rest)) rfl (hsz.trans C.2.2.2.1.symm) (Steps.refl _) (a := a) (argsL := argsL) (rest := rest) hlen rfl (by show 2 * 0 + _ ≤ _; rw [hW]; omega) (C.d hd) (fun _ _ => ⟨rfl, eT, hr.2.2.1, hr.2.2.2⟩)
  dsimp only [Pt.U, Pt.locs, Pt.cells, Pt.slots] at Y' l1 y1 z1 f hQ
  subst l1 y1 z1
  exact Run.steps f (r T1 v _ ⟨_, Y', rfl, Fr.app N hQ.2, q⟩ hQ.1)
theorem s_callV (pc' : Nat) (argsL rest : List Value) (W : Nat) (C : Cx tabs a0 Z own nm code ml ret p s m meth c) (X : St p l e R s m args below meth c n0 T h k n) {idx : Nat} {y : MethodName} {bytes : ByteArray} {maxL : Nat} {rt : Option FieldType} {rm : Room} {stk : List Value} {Q1 : Option Value → Heap → Prop} {y0 : MethodName} {K : String} {a : Addr} (hd : decode code pc = .ok (.invokevirtual idx, 3)) (w1 : Jvm.Cond.methodLink own idx y0 ∈ tabs) (w2 : Jvm.Cond.declares y0 ∈ tabs) (hnf : NotFace s y0) (w5 : Jvm.Cond.selects K y0 y ∈ tabs) (w6 : Jvm.Cond.instanceMethod y ∈ tabs) (w3 : Jvm.Cond.initialized y.cls ∈ tabs) (w4 : Jvm.Cond.code y bytes maxL rt ∈ tabs)
    (E : Exa Z h a K) (M : Met l Z y bytes maxL rt rm [] (.ref a :: argsL).toArray h n0 Q1) (hlen : ∀ sig, parseMethodDescriptor y0.desc = some sig → argsL.length = sig.parameters.length) (hs : stk = argsL.reverse ++ .ref a :: rest) (hsz : ls.size = ml) (hW : (rest.map fun v => v.category).sum = W)
    (r : ∀ T' v h', St p l e R s m args below meth c n0 T' h' (k + rm.cells) (n + rm.slots) → Q1 v h' → Run p e below n0 Q G m T' pc' ls (v.toList ++ rest)) (hp : pc + 3 = pc' := by rfl) (hr : rm.frames + 1 ≤ R.frames ∧ W + (maxL + 11) + rm.locals ≤ R.locals ∧ k + rm.cells ≤ R.cells ∧ n + rm.slots ≤ R.slots := by decide) (hy : y0.cls ≠ "java/lang/invoke/MethodHandle" ∧ y0.cls ≠ "java/lang/invoke/VarHandle" := by decide) : Run p e below n0 Q G m T pc ls stk := by
  subst hp hs
  obtain ⟨locs, Y, eT, N, q⟩ := X
  obtain ⟨cq, kq, qa, qb, qc⟩ := isOf C.2.1 eT E
  obtain ⟨v, _, ⟨T1, L1, k1, n1⟩, -, Y', ⟨Lc, hQ, l1, y1, z1⟩, f⟩ := Y.virtualBack C.1 (y := y0) (z := y) C.2.2.2.2.1 (mvT C.2.1 (C.w w1)) (mvT C.2.1 (C.w w2)) hnf (mvT C.2.1 (C.w w5)) (mvT C.2.1 (C.w w6)) hy (backOf (W := W) (Q := fun v h L => Q1 v h ∧ Fr n0 L) M C.2.1 (C.w w4) (C.w w3) hr.1 hr.2.1) qa qc (g := mkF m pc ls (argsL.reverse ++ .ref a :: rest)) rfl (hsz.trans C.2.2.2.1.symm) (Steps.refl _) (argsL := argsL) (rest := rest) hlen rfl (by show 2 * 0 + _ ≤ _; rw [hW]; omega) (C.d hd) (fun _ _ => ⟨rfl, eT, hr.2.2.1, hr.2.2.2⟩)
  dsimp only [Pt.U, Pt.locs, Pt.cells, Pt.slots] at Y' l1 y1 z1 f hQ
  subst l1 y1 z1
  exact Run.steps f (r T1 v _ ⟨_, Y', rfl, Fr.app N hQ.2, q⟩ hQ.1)
/-- the contract of a method that may intern a text -/
def MetW (l : Launch) (Z : State) (y : MethodName) (bytes : ByteArray) (ml : Nat) (ret : Option FieldType) (rm : Room) (ws : List Jvm.Cond) (as : Array Value) (h : Heap) (n0 : Nat) (Q : Option Value → Heap → Prop) : Prop :=
  MetFree l y (head1 (Jvm.Cond.code y bytes ml ret :: ws) rm) (fun a U => a = as ∧ Z.Warmed39 U.vm ∧ U.heap = h) (fun _ _ _ _ _ => True) (fun _ U o U' => ∃ v L, o = .returned v ∧ (Q v U'.heap ∧ Fr n0 L) ∧ ReturnedEndW U o U' L rm.cells rm.slots)
theorem MetW.mk {y : MethodName} {rm : Room} {ws : List Jvm.Cond} {as : Array Value} {ls0 : Array Slot} (hpl : plainFor y = true) (hw : ∀ d ∈ tabs, d.before a0 Z = true) (hn : n0 ≤ h.size) (hef : ∀ m, entryFrame m as ml = mkF m 0 ls0 [])
    (body : ∀ p e s m below meth c T, Cx tabs a0 Z y.cls y.name code ml ret p s m meth c → St p l e rm s m as below meth c n0 T h 0 0 → Run p e below n0 Q (fun o t L => ReturnedEndW s o t L rm.cells rm.slots) m T 0 ls0 []) : MetW l Z y code ml ret rm ws as h n0 Q := by
  refine MetFree.of_bodySF hpl hisR ?_
  intro p e s m args below meth c s₁ Bd hml0 hP hK
  obtain ⟨rfl, hZ, rfl⟩ := hP
  have X0 : Stand p l e rm s m args below meth c s₁ [] 0 0 := Stand.of_body Bd
  have e0 : s₁.heap = s.heap := by rw [Bd.state]; rfl
  have r := body p e s m below meth c s₁ ⟨Bd.exec, hZ, Bd.bytes, hml0, findClass_of_methodNamed Bd.named, Bd.returns, Bd.notSynchronized, (name_of_methodNamed Bd.named Bd.method).1, hw⟩ ⟨[], X0, e0, Fr.nil n0, hn⟩
  obtain ⟨s₂, o, h1, h2⟩ := r
  exact ⟨s₂, o, castTop (hef m) h1, h2⟩
theorem Met.mkQ {y : MethodName} {rm : Room} {ws : List Jvm.Cond} {as : Array Value} {ls0 : Array Slot} (hpl : plainFor y = true) (hw : ∀ d ∈ tabs, d.before a0 Z = true) (hn : n0 ≤ h.size) (hef : ∀ m, entryFrame m as ml = mkF m 0 ls0 [])
    (body : ∀ p e s m below meth c T (Q' : Option Value → Heap → Prop) (G' : Outcome → State → List Loc → Prop), (∀ v h', Q v h' → Q' v h') → (∀ v t L, FrameEnd s (.returned v) t L rm.cells rm.slots → G' (.returned v) t L) → Cx tabs a0 Z y.cls y.name code ml ret p s m meth c → St p l e rm s m as below meth c n0 T h 0 0 → Run p e below n0 Q' G' m T 0 ls0 []) : Met l Z y code ml ret rm ws as h n0 Q :=
  Met.mk hpl hw hn hef (fun p e s m below meth c T C X => body p e s m below meth c T Q _ (fun _ _ q => q) (fun _ _ _ q => q) C X)
theorem FG {kc ks : Nat} {G' : Outcome → State → List Loc → Prop} (hG : ∀ v t L, FrameEnd s (.returned v) t L kc ks → G' (.returned v) t L) (hk : k ≤ kc) (hn : n ≤ ks) : ∀ (v : Option Value) (t : State) (L : List Loc), t.heap = h → FrameEnd s (.returned v) t L k n → G' (.returned v) t L := fun v t L _ q => hG v t L ⟨q.1, q.2.1, q.2.2.mono hk hn⟩
theorem nF {K : String} {y : MethodName} (C : Cx tabs a0 Z own nm code ml ret p s m meth c) (w : Jvm.Cond.selects K y y ∈ tabs) : NotFace s y := notFace_of_selects (args := #[]) (mvT C.2.1 (C.w w))
theorem mW {α : Type} {l : List α} {a : α} (i : Nat) (h : l[i]? = some a) : a ∈ l := List.mem_of_getElem? h
theorem oth {Z : State} {h h' : Heap} {a b : Addr} {v w : Value} {a0 : Array Value} {K C n d O' n' d' : String} (F : Fld Z h b C n d w) (W : Wr h h' a (Jvm.RoadKit.slotOf Z O' n' d') v) (L : Laid Z a0 K C n d) (L' : Laid Z a0 K O' n' d') (q : (n != n' && (parseFieldDescriptor d).isSome && (parseFieldDescriptor d').isSome) = true) : Fld Z h' b C n d w := by
  simp only [Bool.and_eq_true, bne_iff_ne, Option.isSome_iff_exists] at q
  obtain ⟨⟨q1, t, q2⟩, t', q3⟩ := q
  exact F.other W (Or.inr (slot_ne L L' q1 q2 q3))
variable {EL : List (String × Nat)} {so : List Addr} {vm : Vm} {k1 : Nat}
/-- the contract of a method that may intern texts, where what is held goes on -/
def MetH (l : Launch) (Z : State) (EL : List (String × Nat)) (so : List Addr) (y : MethodName) (bytes : ByteArray) (ml : Nat) (ret : Option FieldType) (rm : Room) (ws : List Jvm.Cond) (as : Array Value) (h : Heap) (n0 : Nat) (Q : Option Value → Heap → Prop) : Prop :=
  MetFree l y (head1 (Jvm.Cond.code y bytes ml ret :: ws) rm) (fun a U => a = as ∧ Z.Warmed39 U.vm ∧ U.heap = h ∧ CHv Z EL U.vm h ∧ ∀ x ∈ so, Safe Z EL U.vm h x) (fun _ _ _ _ _ => True) (fun _ U o U' => ∃ v L, o = .returned v ∧ (Q v U'.heap ∧ Fr n0 L) ∧ CHr Z EL U.vm U.heap U'.vm U'.heap ∧ ReturnedEndW U o U' L rm.cells rm.slots)
theorem Cx.since (C : Cx tabs a0 Z own nm code ml ret p (s.setVm vm) m meth c) {vm' : Vm} {k2 : Nat} (hS : (s.setVm vm).Since vm' k2) : Cx tabs a0 Z own nm code ml ret p (s.setVm vm') m meth c :=
  ⟨C.1, State.Warmed39.trans (t := s.setVm vm) C.2.1 hS.1, C.2.2.1, C.2.2.2.1, (by rw [show (s.setVm vm').vm = vm' from rfl, hS.1.alike.findClass]; exact C.2.2.2.2.1), C.2.2.2.2.2⟩
theorem St.mono {k' n' : Nat} (X : St p l e R s m args below meth c n0 T h k n) (hk : k ≤ k') (hn : n ≤ n') : St p l e R s m args below meth c n0 T h k' n' := by
  obtain ⟨locs, Y, r⟩ := X
  exact ⟨locs, Y.mono hk hn, r⟩
def Rk (Z : State) (EL : List (String × Nat)) (vS : Vm) (h0 : Heap) (vm : Vm) (k1 : Nat) (h : Heap) : Prop := CHr Z EL vS h0 vm h ∧ k1 ≤ h.size
theorem Rk.ext {vS : Vm} {h0 h' : Heap} (R : Rk Z EL vS h0 vm k1 h) (E : Ext h h') : Rk Z EL vS h0 vm k1 h' := ⟨R.1.trans (CHr.ext E R.1.1), Nat.le_trans R.2 E.1⟩
theorem Rk.wr {vS : Vm} {h0 h' : Heap} {a : Addr} {sl : Nat} {v : Value} (R : Rk Z EL vS h0 vm k1 h) (W : Wr h h' a sl v) (S : Safe Z EL vm h a) : Rk Z EL vS h0 vm k1 h' := ⟨R.1.trans (CHr.wr W S R.1.1), Nat.le_trans R.2 (Nat.le_of_eq W.size.symm)⟩
theorem Rk.keep {vS : Vm} {h0 h' : Heap} {ws : List Addr} (R : Rk Z EL vS h0 vm k1 h) (K : Keep h h' ws) (hs : ∀ x ∈ ws, Safe Z EL vm h x) : Rk Z EL vS h0 vm k1 h' := ⟨R.1.trans (CHr.keep K hs R.1.1), Nat.le_trans R.2 K.1⟩
theorem Rk.call {vS vm' : Vm} {h0 h' : Heap} {k2 : Nat} (R : Rk Z EL vS h0 vm k1 h) (Rn : CHr Z EL vm h vm' h') (Nk : k2 ≤ h'.size) : Rk Z EL vS h0 vm' k2 h' := ⟨R.1.trans Rn, Nk⟩
theorem MetH.mkQ {y : MethodName} {rm : Room} {ws : List Jvm.Cond} {as : Array Value} {ls0 : Array Slot} (hpl : plainFor y = true) (hw : ∀ d ∈ tabs, d.before a0 Z = true) (hn : n0 ≤ h.size) (hef : ∀ m, entryFrame m as ml = mkF m 0 ls0 [])
    (body : ∀ p e s m below meth c T (Q' : Option Value → Heap → Prop) (G' : Outcome → State → List Loc → Prop) (vm : Vm) (k1 : Nat), (∀ v h', Q v h' → Q' v h') → (∀ v t L, CHr Z EL s.vm h t.vm t.heap → ReturnedEndW s (.returned v) t L rm.cells rm.slots → G' (.returned v) t L) → Cx tabs a0 Z y.cls y.name code ml ret p (s.setVm vm) m meth c → St p l e rm (s.setVm vm) m as below meth c n0 T h 0 0 → s.Since vm k1 → Rk Z EL s.vm h vm k1 h → (∀ x ∈ so, Safe Z EL vm h x) → Run p e below n0 Q' G' m T 0 ls0 []) : MetH l Z EL so y code ml ret rm ws as h n0 Q := by
  refine MetFree.of_bodySF hpl hisR ?_
  intro p e s m args below meth c s₁ Bd hml0 hP hK
  obtain ⟨rfl, hZ, rfl, hC, hso⟩ := hP
  have X0 : Stand p l e rm s m args below meth c s₁ [] 0 0 := Stand.of_body Bd
  have e0 : s₁.heap = s.heap := by rw [Bd.state]; rfl
  have r := body p e s m below meth c s₁ Q (fun o t L => CHr Z EL s.vm s.heap t.vm t.heap ∧ ReturnedEndW s o t L rm.cells rm.slots) s.vm 0 (fun _ _ q => q) (fun _ _ _ a b => ⟨a, b⟩) ⟨Bd.exec, hZ, Bd.bytes, hml0, findClass_of_methodNamed Bd.named, Bd.returns, Bd.notSynchronized, (name_of_methodNamed Bd.named Bd.method).1, hw⟩ ⟨[], X0, e0, Fr.nil n0, hn⟩ ((State.WarmedH.refl s).since 0) ⟨CHr.refl hC, Nat.zero_le _⟩ hso
  obtain ⟨s₂, o, h1, h2⟩ := r
  exact ⟨s₂, o, castTop (hef m) h1, h2⟩
theorem CHw (hZ : Z.Warmed39 vm) (hEL : EW Z a0 EL) {vm' : Vm} (hW : (s.setVm vm).WarmedH vm') (H : CHv Z EL vm h) : CHr Z EL vm h vm' h := by
  have q := CHv.later (h' := h) hZ (hW := (show (Wst Z vm h).Warmed39 vm' from hW.wide)) hEL ⟨Nat.le_refl _, fun _ _ q => q⟩ (Or.inl hW.interned_eq) H
  exact ⟨q.1, Nat.le_refl _, q.2⟩
theorem FGH {h0 : Heap} {kc ks : Nat} {G' : Outcome → State → List Loc → Prop} (hG : ∀ v t L, CHr Z EL s.vm h0 t.vm t.heap → ReturnedEndW s (.returned v) t L kc ks → G' (.returned v) t L) (hS : s.Since vm k1) (Rc : Rk Z EL s.vm h0 vm k1 h) (C : Cx tabs a0 Z own nm code ml ret p (s.setVm vm) m meth c) (hEL : EW Z a0 EL) (hk : k ≤ kc := by decide) (hn : n ≤ ks := by decide) : ∀ (v : Option Value) (t : State) (L : List Loc), t.heap = h → FrameEnd (s.setVm vm) (.returned v) t L k n → G' (.returned v) t L := fun v t L e q =>
  hG v t L (by rw [e]; exact Rc.1.trans (CHw C.2.1 hEL q.2.1 Rc.1.1)) (by
    have z := hS.ended q.2.1 (by rw [e]; exact Rc.2) q.2.2
    exact ⟨⟨_, rfl⟩, z.1, z.2.1, z.2.2.mono hk hn⟩)
theorem backH {y : MethodName} {bytes : ByteArray} {maxL : Nat} {rt : Option FieldType} {rm : Room} {len W : Nat} {as' : Array Value} {Q1 : Option Value → Heap → Prop}
    (M : MetH l Z EL so y bytes maxL rt rm [] as' h n0 Q1) (hZ : Z.Warmed39 vm) (wc : (Jvm.Cond.code y bytes maxL rt).before a0 Z = true) (wz : (Jvm.Cond.initialized y.cls).before a0 Z = true) (hf : rm.frames + 1 ≤ R.frames) (hl : W + (maxL + 11) + rm.locals ≤ R.locals) (hEL : EW Z a0 EL) (H : CHv Z EL vm h) (hso : ∀ x ∈ so, x < h.size ∧ Safe Z EL vm h x) :
    BackS l R p e below (s.setVm vm) args y len W (fun A a => a = as' ∧ A.U.heap = h ∧ A.cells + rm.cells ≤ R.cells ∧ A.slots + rm.slots ≤ R.slots)
      (fun A _ v B => ∃ L, (Q1 v B.U.heap ∧ Fr n0 L) ∧ B.locs = A.locs ++ L ∧ B.cells = A.cells + rm.cells ∧ B.slots = A.slots + rm.slots ∧ CHr Z EL vm h B.U.vm B.U.heap) :=
  BackS.of_freeW (bytes := bytes) (maxL := maxL) (ret := rt) (E := fun _ first o t L k n => k = rm.cells ∧ n = rm.slots ∧ (∃ v, o = .returned v ∧ Q1 v t.heap ∧ Fr n0 L) ∧ CHr Z EL first.vm first.heap t.vm t.heap) M hf hl
    (fun m meth c A a Y hp => have hU : Z.Warmed39 A.U.vm := wtrans (s := s.setVm vm) hZ Y.warmed
      ⟨by show (Jvm.Cond.and _ .tt).before a A.U = true; rw [Cond.before_and, mv hU wc]; rfl, mv hU wc, mv hU wz, hp.2.2.1, hp.2.2.2⟩)
    (fun m meth c A a g mk Y hp => have q := CHw hZ hEL Y.warmed H; ⟨hp.1, wtrans (s := s.setVm vm) hZ Y.warmed, hp.2.1, q.1, fun x hx => q.safe (hso x hx).1 (hso x hx).2⟩)
    (fun _ _ _ _ _ _ _ _ _ => trivial)
    (fun _ _ _ _ ⟨v, L, h1, h2, h3, h4⟩ => ⟨L, _, _, h4, rfl, rfl, ⟨v, h1, h2⟩, h3⟩)
    (fun m meth c A a g mk v t L k n Y hp _ _ ⟨e1, e2, ⟨v', e3, e4⟩, e5⟩ => by
      cases e3; subst e1 e2
      refine ⟨L, e4, rfl, rfl, rfl, (CHw hZ hEL Y.warmed H).trans ?_⟩
      rw [← hp.2.1]; exact e5)
theorem soS {P : Addr → Prop} {a : Addr} {ws : List Addr} (n : P a) (r : ∀ x ∈ ws, P x) : ∀ x ∈ a :: ws, P x := fun x q => by
  rcases List.mem_cons.mp q with rfl | q
  · exact n
  · exact r x q
theorem so0 {P : Addr → Prop} : ∀ x ∈ ([] : List Addr), P x := fun _ q => nomatch q
theorem s_hcallS (pc' : Nat) (argsL rest : List Value) (W : Nat) (C : Cx tabs a0 Z own nm code ml ret p (s.setVm vm) m meth c) (X : St p l e R (s.setVm vm) m args below meth c n0 T h k n) (hS : s.Since vm k1) (Nk : k1 ≤ h.size) (hEL : EW Z a0 EL) (H : CHv Z EL vm h) {idx : Nat} {y : MethodName} {bytes : ByteArray} {maxL : Nat} {rt : Option FieldType} {rm : Room} {stk : List Value} {Q1 : Option Value → Heap → Prop} (hd : decode code pc = .ok (.invokestatic idx, 3)) (w1 : Jvm.Cond.methodLink own idx y ∈ tabs) (w2 : Jvm.Cond.static y ∈ tabs) (w3 : Jvm.Cond.initialized y.cls ∈ tabs) (w4 : Jvm.Cond.code y bytes maxL rt ∈ tabs)
    (M : MetH l Z EL so y bytes maxL rt rm [] argsL.toArray h n0 Q1) (hlen : ∀ sig, parseMethodDescriptor y.desc = some sig → argsL.length = sig.parameters.length) (hs : stk = argsL.reverse ++ rest) (hsz : ls.size = ml) (hW : (rest.map fun v => v.category).sum = W)
    (hso : ∀ x ∈ so, x < h.size ∧ Safe Z EL vm h x) (r : ∀ T' v h' vm' k2, Cx tabs a0 Z own nm code ml ret p (s.setVm vm') m meth c → St p l e R (s.setVm vm') m args below meth c n0 T' h' (k + rm.cells) (n + rm.slots) → s.Since vm' k2 → k2 ≤ h'.size → CHr Z EL vm h vm' h' → Q1 v h' → Run p e below n0 Q G m T' pc' ls (v.toList ++ rest)) (hp : pc + 3 = pc' := by rfl) (hr : rm.frames + 1 ≤ R.frames ∧ W + (maxL + 11) + rm.locals ≤ R.locals ∧ k + rm.cells ≤ R.cells ∧ n + rm.slots ≤ R.slots := by decide) (hy : y.cls ≠ "java/lang/invoke/MethodHandle" ∧ y.cls ≠ "java/lang/invoke/VarHandle" := by decide) : Run p e below n0 Q G m T pc ls stk := by
  subst hp hs
  obtain ⟨locs, Y, eT, N, q⟩ := X
  obtain ⟨v, _, ⟨T1, L1, kk1, n1⟩, -, Y', hS2, hgr, ⟨Lc, hQ, l1, y1, z1, hR⟩, f⟩ := Jvm.RoadKit.callSS Y C.1 C.2.2.2.2.1 (mvT C.2.1 (C.w w1)) (mvT C.2.1 (C.w w2)) (mvT C.2.1 (C.w w3)) (mvT C.2.1 (C.w w4)) hy (backH (W := W) M C.2.1 (C.w w4) (C.w w3) hr.1 hr.2.1 hEL H hso) (g := mkF m pc ls (argsL.reverse ++ rest)) rfl (hsz.trans C.2.2.2.1.symm) (argsL := argsL) (rest := rest) hlen rfl (by show 2 * 0 + _ ≤ _; rw [hW]; omega) (C.d hd) (fun _ _ => ⟨rfl, eT, hr.2.2.1, hr.2.2.2⟩)
  dsimp only [Pt.U, Pt.locs, Pt.cells, Pt.slots] at Y' hS2 hgr l1 y1 z1 hR f hQ
  subst l1 y1 z1
  exact Run.steps f (r T1 v _ T1.vm _ (C.since hS2) ⟨_, Y', rfl, Fr.app N hQ.2, q⟩ (foldS hS (by rw [eT]; exact Nk) hS2 hgr) (Nat.le_refl _) hR hQ.1)
theorem s_hcallC (pc' : Nat) (argsL rest : List Value) (W : Nat) (C : Cx tabs a0 Z own nm code ml ret p (s.setVm vm) m meth c) (X : St p l e R (s.setVm vm) m args below meth c n0 T h k n) (hS : s.Since vm k1) (Nk : k1 ≤ h.size) (hEL : EW Z a0 EL) (H : CHv Z EL vm h) {idx : Nat} {y : MethodName} {bytes : ByteArray} {maxL : Nat} {rm : Room} {stk : List Value} {Q1 : Option Value → Heap → Prop} {a : Addr} (hd : decode code pc = .ok (.invokespecial idx, 3)) (hi : y.name = "<init>") (w1 : Jvm.Cond.methodLink own idx y ∈ tabs) (w2 : Jvm.Cond.instanceMethod y ∈ tabs) (w3 : Jvm.Cond.initialized y.cls ∈ tabs) (w4 : Jvm.Cond.code y bytes maxL none ∈ tabs)
    (M : MetH l Z EL so y bytes maxL none rm [] (.ref a :: argsL).toArray h n0 Q1) (hlen : ∀ sig, parseMethodDescriptor y.desc = some sig → argsL.length = sig.parameters.length) (hs : stk = argsL.reverse ++ .ref a :: rest) (hsz : ls.size = ml) (hW : (rest.map fun v => v.category).sum = W)
    (hso : ∀ x ∈ so, x < h.size ∧ Safe Z EL vm h x) (r : ∀ T' v h' vm' k2, Cx tabs a0 Z own nm code ml ret p (s.setVm vm') m meth c → St p l e R (s.setVm vm') m args below meth c n0 T' h' (k + rm.cells) (n + rm.slots) → s.Since vm' k2 → k2 ≤ h'.size → CHr Z EL vm h vm' h' → Q1 v h' → Run p e below n0 Q G m T' pc' ls (v.toList ++ rest)) (hp : pc + 3 = pc' := by rfl) (hr : rm.frames + 1 ≤ R.frames ∧ W + (maxL + 11) + rm.locals ≤ R.locals ∧ k + rm.cells ≤ R.cells ∧ n + rm.slots ≤ R.slots := by decide) (hy : y.cls ≠ "java/lang/invoke/MethodHandle" ∧ y.cls ≠ "java/lang/invoke/VarHandle" := by decide) : Run p e below n0 Q G m T pc ls stk := by
  subst hp hs
  obtain ⟨locs, Y, eT, N, q⟩ := X
  obtain ⟨v, _, ⟨T1, L1, kk1, n1⟩, -, Y', hS2, hgr, ⟨Lc, hQ, l1, y1, z1, hR⟩, f⟩ := Y.specialBackS C.1 (y := y) hi C.2.2.2.2.1 (mvT C.2.1 (C.w w1)) (mvT C.2.1 (C.w w2)) (mvT C.2.1 (C.w w4)) hy (backH (W := W) M C.2.1 (C.w w4) (C.w w3) hr.1 hr.2.1 hEL H hso) (g := mkF m pc ls (argsL.reverse ++ .ref a :: rest)) rfl (hsz.trans C.2.2.2.1.symm) (Steps.refl _) (a := a) (argsL := argsL) (rest := rest) hlen rfl (by show 2 * 0 + _ ≤ _; rw [hW]; omega) (C.d hd) (fun _ _ => ⟨rfl, eT, hr.2.2.1, hr.2.2.2⟩)
  dsimp only [Pt.U, Pt.locs, Pt.cells, Pt.slots] at Y' hS2 hgr l1 y1 z1 hR f hQ
  subst l1 y1 z1
  exact Run.steps f (r T1 v _ T1.vm _ (C.since hS2) ⟨_, Y', rfl, Fr.app N hQ.2, q⟩ (foldS hS (by rw [eT]; exact Nk) hS2 hgr) (Nat.le_refl _) hR hQ.1)
theorem s_hcallV (pc' : Nat) (argsL rest : List Value) (W : Nat) (C : Cx tabs a0 Z own nm code ml ret p (s.setVm vm) m meth c) (X : St p l e R (s.setVm vm) m args below meth c n0 T h k n) (hS : s.Since vm k1) (Nk : k1 ≤ h.size) (hEL : EW Z a0 EL) (H : CHv Z EL vm h) {idx : Nat} {y : MethodName} {bytes : ByteArray} {maxL : Nat} {rt : Option FieldType} {rm : Room} {stk : List Value} {Q1 : Option Value → Heap → Prop} {y0 : MethodName} {K : String} {a : Addr} (hd : decode code pc = .ok (.invokevirtual idx, 3)) (w1 : Jvm.Cond.methodLink own idx y0 ∈ tabs) (w2 : Jvm.Cond.declares y0 ∈ tabs) (hnf : NotFace (s.setVm vm) y0) (w5 : Jvm.Cond.selects K y0 y ∈ tabs) (w6 : Jvm.Cond.instanceMethod y ∈ tabs) (w3 : Jvm.Cond.initialized y.cls ∈ tabs) (w4 : Jvm.Cond.code y bytes maxL rt ∈ tabs)
    (E : Exa Z h a K) (M : MetH l Z EL so y bytes maxL rt rm [] (.ref a :: argsL).toArray h n0 Q1) (hlen : ∀ sig, parseMethodDescriptor y0.desc = some sig → argsL.length = sig.parameters.length) (hs : stk = argsL.reverse ++ .ref a :: rest) (hsz : ls.size = ml) (hW : (rest.map fun v => v.category).sum = W)
    (hso : ∀ x ∈ so, x < h.size ∧ Safe Z EL vm h x) (r : ∀ T' v h' vm' k2, Cx tabs a0 Z own nm code ml ret p (s.setVm vm') m meth c → St p l e R (s.setVm vm') m args below meth c n0 T' h' (k + rm.cells) (n + rm.slots) → s.Since vm' k2 → k2 ≤ h'.size → CHr Z EL vm h vm' h' → Q1 v h' → Run p e below n0 Q G m T' pc' ls (v.toList ++ rest)) (hp : pc + 3 = pc' := by rfl) (hr : rm.frames + 1 ≤ R.frames ∧ W + (maxL + 11) + rm.locals ≤ R.locals ∧ k + rm.cells ≤ R.cells ∧ n + rm.slots ≤ R.slots := by decide) (hy : y0.cls ≠ "java/lang/invoke/MethodHandle" ∧ y0.cls ≠ "java/lang/invoke/VarHandle" := by decide) : Run p e below n0 Q G m T pc ls stk := by
  subst hp hs
  obtain ⟨locs, Y, eT, N, q⟩ := X
  obtain ⟨cq, kq, qa, qb, qc⟩ := isOf C.2.1 eT E
  obtain ⟨v, _, ⟨T1, L1, kk1, n1⟩, -, Y', hS2, hgr, ⟨Lc, hQ, l1, y1, z1, hR⟩, f⟩ := Y.virtualBackS C.1 (y := y0) (z := y) C.2.2.2.2.1 (mvT C.2.1 (C.w w1)) (mvT C.2.1 (C.w w2)) hnf (mvT C.2.1 (C.w w5)) (mvT C.2.1 (C.w w6)) hy (backH (W := W) M C.2.1 (C.w w4) (C.w w3) hr.1 hr.2.1 hEL H hso) qa qc (g := mkF m pc ls (argsL.reverse ++ .ref a :: rest)) rfl (hsz.trans C.2.2.2.1.symm) (Steps.refl _) (argsL := argsL) (rest := rest) hlen rfl (by show 2 * 0 + _ ≤ _; rw [hW]; omega) (C.d hd) (fun _ _ => ⟨rfl, eT, hr.2.2.1, hr.2.2.2⟩)
  dsimp only [Pt.U, Pt.locs, Pt.cells, Pt.slots] at Y' hS2 hgr l1 y1 z1 hR f hQ
  subst l1 y1 z1
  exact Run.steps f (r T1 v _ T1.vm _ (C.since hS2) ⟨_, Y', rfl, Fr.app N hQ.2, q⟩ (foldS hS (by rw [eT]; exact Nk) hS2 hgr) (Nat.le_refl _) hR hQ.1)
theorem s_ldcH (pc' : Nat) (nn : Nat) (C : Cx tabs a0 Z own nm code ml ret p (s.setVm vm) m meth c) (X : St p l e R (s.setVm vm) m args below meth c n0 T h k n) (hS : s.Since vm k1) (Nk : k1 ≤ h.size) (hEL : EW Z a0 EL) (H : CHv Z EL vm h) {idx : Nat} {text : String} {vs : List Value} {z : Int32} (hd : decode code pc = .ok (.ldc idx, 2)) (w : Jvm.Cond.stringLink own idx text ∈ tabs) (wS : ∀ a ∈ Bundle.stringAtoms, a.before a0 Z = true) (hmem : (own, idx) ∈ EL) (ht : (∀ c ∈ text.toList, c.toNat < 256) ∧ text.toList.map (fun c => Value.int (Jvm.Lit.byteI c.toNat.toUInt16)) = vs) (hz : ¬ z < 0) (hl : z.toNatClampNeg = vs.length)
    (r : ∀ T' h' a b kb vm' k2, Cx tabs a0 Z own nm code ml ret p (s.setVm vm') m meth c → St p l e R (s.setVm vm') m args below meth c n0 T' h' (k + 2) (n + (nn + 4)) → Ext h h' → s.Since vm' k2 → k2 ≤ h'.size → CHr Z EL vm h vm' h' → Exa Z h' a "java/lang/String" → Fld Z h' a "java/lang/String" "coder" "B" (.int 0) → Fld Z h' a "java/lang/String" "value" "[B" (.ref b) → Arv Z h' b kb .byte z vs (.int 0) → (∀ x, Safe Z EL vm' h' x → x ≠ a ∧ x ≠ b) → Run p e below n0 Q G m T' pc' ls (.ref a :: st)) (hp : pc + 2 = pc' := by rfl) (hc : 4 * text.toList.length ≤ nn ∧ nn ≤ 536870912 ∧ k + 2 ≤ R.cells ∧ n + (nn + 4) ≤ R.slots := by decide) : Run p e below n0 Q G m T pc ls st := by
  subst hp
  obtain ⟨locs, Y, eT, N, q⟩ := X
  obtain ⟨a, T', h', k2, b, kb, Y2, e', E, hS', hk, hZ, ho, q1, q2, q3, q4, -, -, hR, -, nS, f⟩ := ldcCH Y C.1 C.2.1 C.2.2.2.2.1 (C.w w) wS eT hS Nk hEL hmem H ht hz hl (g := mkF m pc ls st) rfl (C.d hd) hc.1 hc.2.1 hc.2.2.1 hc.2.2.2
  exact Run.step f (r T' h' a b kb T'.vm k2 ⟨C.1, hZ, C.2.2.1, C.2.2.2.1, ho, C.2.2.2.2.2⟩ ⟨locs, Y2, e', N, q⟩ E hS' hk hR q1 q2 q3 q4 nS)
end A
end Jvm.OwnK
namespace Jvm.Pilot.@@N@@
open Jvm Jvm.ClassFile Sem Op Lib Jvm.Free Jvm.Stand Jvm.LawKit Jvm.RoadKit Bundle Jvm.OwnK Jvm.Pilot.@@N@@.Jvm.D
abbrev bA : ByteArray := jdk_42_method_152_code
abbrev bB : ByteArray := jdk_42_method_155_code
abbrev bC : ByteArray := jdk_42_method_149_code
abbrev bD : ByteArray := jdk_42_method_151_code
abbrev bE : ByteArray := jdk_65_method_131_code
abbrev bF : ByteArray := jdk_65_method_133_code
abbrev bG : ByteArray := jdk_42_method_157_code
abbrev bH : ByteArray := jdk_42_method_154_code
abbrev bI : ByteArray := jdk_42_method_158_code
abbrev bJ : ByteArray := jdk_65_method_132_code
abbrev bK : ByteArray := jdk_29_method_69_code
abbrev bL : ByteArray := jdk_52_method_69_code
abbrev bM : ByteArray := jdk_52_method_91_code
abbrev bN : ByteArray := jdk_52_method_14_code
abbrev bO : ByteArray := jdk_52_method_21_code
abbrev bP : ByteArray := jdk_42_method_56_code
abbrev bQ : ByteArray := jdk_41_method_11_code
abbrev bR : ByteArray := jdk_41_method_12_code
abbrev bS : ByteArray := jdk_52_method_16_code
abbrev bT : ByteArray := jdk_41_method_13_code
abbrev bU : ByteArray := jdk_43_method_47_code
abbrev bV : ByteArray := jdk_42_method_54_code
abbrev bW : ByteArray := jdk_52_method_17_code
abbrev bX : ByteArray := jdk_52_method_83_code
abbrev bY : ByteArray := jdk_52_method_22_code
abbrev bZ : ByteArray := jdk_42_method_92_code
abbrev baA : ByteArray := jdk_52_method_15_code
abbrev baB : ByteArray := jdk_52_method_94_code
abbrev baC : ByteArray := jdk_52_method_2_code
abbrev baD : ByteArray := jdk_43_method_2_code
abbrev baE : ByteArray := jdk_52_method_3_code
abbrev baF : ByteArray := jdk_52_method_5_code
abbrev baG : ByteArray := jdk_42_method_3_code
abbrev baH : ByteArray := prog_3_method_3_code
abbrev baI : ByteArray := jdk_52_method_6_code
abbrev baJ : ByteArray := jdk_52_method_4_code
abbrev baK : ByteArray := prog_3_method_2_code
abbrev baL : ByteArray := method_3_code
abbrev baM : ByteArray := method_2_code
abbrev dK (b : ByteArray) (p : Nat) (i : Instr) (n : Nat) : Prop := decode b p = .ok (i, n)
theorem pn_com_example_tinsel_tally_tinseltally_Blanks : plainName "com/example/tinsel_tally/tinseltally/Blanks" = true := by first | (simp [plainName, overriddenIn]; done) | decide +kernel
theorem d20_0 : dK baH 0 (.iload_n 0) 1 := by decide +kernel
theorem d20_1 : dK baH 1 (.lookupswitch 231 #[(9, 219), (10, 219), (11, 219), (12, 219), (13, 219), (32, 219), (133, 219), (160, 219), (5760, 219), (8192, 223), (8193, 223), (8194, 223), (8195, 223), (8196, 223), (8197, 223), (8198, 223), (8199, 223), (8200, 223), (8201, 227), (8202, 227), (8232, 227), (8233, 227), (8239, 227), (8287, 227), (12288, 227), (65279, 227)]) 219 := by decide +kernel
theorem d20_220 : dK baH 220 (.iconst 1) 1 := by decide +kernel
theorem kc_iconst_1 : Int32.ofInt 1 = (1 : Int32) := by decide +kernel
theorem d20_221 : dK baH 221 (.goto 12) 3 := by decide +kernel
theorem d20_233 : dK baH 233 .ireturn 1 := by decide +kernel
theorem d20_224 : dK baH 224 (.iconst 1) 1 := by decide +kernel
theorem d20_225 : dK baH 225 (.goto 8) 3 := by decide +kernel
theorem d20_228 : dK baH 228 (.iconst 1) 1 := by decide +kernel
theorem d20_229 : dK baH 229 (.goto 4) 3 := by decide +kernel
theorem d20_232 : dK baH 232 (.iconst 0) 1 := by decide +kernel
theorem kc_iconst_0 : Int32.ofInt 0 = (0 : Int32) := by decide +kernel
theorem pn_com_example_tinsel_tally_tinseltally_BlanksStripPinLaw : plainName "com/example/tinsel_tally/tinseltally/BlanksStripPinLaw" = true := by first | (simp [plainName, overriddenIn]; done) | decide +kernel
theorem d14_0 : dK baL 0 (.iload_n 0) 1 := by decide +kernel
theorem d14_1 : dK baL 1 (.bipush 9) 2 := by decide +kernel
theorem kc_bipush_9 : (Int8.ofInt 9).toInt32 = (9 : Int32) := by decide +kernel
theorem d14_3 : dK baL 3 (.if_icmp .lt 11) 3 := by decide +kernel
theorem d14_14 : dK baL 14 (.iload_n 0) 1 := by decide +kernel
theorem d14_15 : dK baL 15 (.bipush 32) 2 := by decide +kernel
theorem kc_bipush_32 : (Int8.ofInt 32).toInt32 = (32 : Int32) := by decide +kernel
theorem d14_17 : dK baL 17 (.if_icmp .eq 24) 3 := by decide +kernel
theorem d14_41 : dK baL 41 (.iconst 1) 1 := by decide +kernel
theorem d14_42 : dK baL 42 .ireturn 1 := by decide +kernel
theorem d14_20 : dK baL 20 (.iload_n 0) 1 := by decide +kernel
theorem d14_21 : dK baL 21 (.sipush 133) 3 := by decide +kernel
theorem kc_sipush_133 : (Int16.ofInt 133).toInt32 = (133 : Int32) := by decide +kernel
theorem d14_24 : dK baL 24 (.if_icmp .eq 17) 3 := by decide +kernel
theorem d14_27 : dK baL 27 (.iload_n 0) 1 := by decide +kernel
theorem d14_28 : dK baL 28 (.sipush 160) 3 := by decide +kernel
theorem kc_sipush_160 : (Int16.ofInt 160).toInt32 = (160 : Int32) := by decide +kernel
theorem d14_31 : dK baL 31 (.if_icmp .eq 10) 3 := by decide +kernel
theorem d14_34 : dK baL 34 (.iload_n 0) 1 := by decide +kernel
theorem d14_35 : dK baL 35 (.sipush 5760) 3 := by decide +kernel
theorem kc_sipush_5760 : (Int16.ofInt 5760).toInt32 = (5760 : Int32) := by decide +kernel
theorem d14_38 : dK baL 38 (.if_icmp .ne 5) 3 := by decide +kernel
theorem d14_43 : dK baL 43 (.iload_n 0) 1 := by decide +kernel
theorem d14_44 : dK baL 44 (.sipush 8192) 3 := by decide +kernel
theorem kc_sipush_8192 : (Int16.ofInt 8192).toInt32 = (8192 : Int32) := by decide +kernel
theorem d14_47 : dK baL 47 (.if_icmp .lt 12) 3 := by decide +kernel
theorem d14_59 : dK baL 59 (.iload_n 0) 1 := by decide +kernel
theorem d14_60 : dK baL 60 (.sipush 8232) 3 := by decide +kernel
theorem kc_sipush_8232 : (Int16.ofInt 8232).toInt32 = (8232 : Int32) := by decide +kernel
theorem d14_63 : dK baL 63 (.if_icmp .eq 37) 3 := by decide +kernel
theorem d14_100 : dK baL 100 (.iconst 1) 1 := by decide +kernel
theorem d14_101 : dK baL 101 .ireturn 1 := by decide +kernel
theorem d14_66 : dK baL 66 (.iload_n 0) 1 := by decide +kernel
theorem d14_67 : dK baL 67 (.sipush 8233) 3 := by decide +kernel
theorem kc_sipush_8233 : (Int16.ofInt 8233).toInt32 = (8233 : Int32) := by decide +kernel
theorem d14_70 : dK baL 70 (.if_icmp .eq 30) 3 := by decide +kernel
theorem d14_73 : dK baL 73 (.iload_n 0) 1 := by decide +kernel
theorem d14_74 : dK baL 74 (.sipush 8239) 3 := by decide +kernel
theorem kc_sipush_8239 : (Int16.ofInt 8239).toInt32 = (8239 : Int32) := by decide +kernel
theorem d14_77 : dK baL 77 (.if_icmp .eq 23) 3 := by decide +kernel
theorem d14_80 : dK baL 80 (.iload_n 0) 1 := by decide +kernel
theorem d14_81 : dK baL 81 (.sipush 8287) 3 := by decide +kernel
theorem kc_sipush_8287 : (Int16.ofInt 8287).toInt32 = (8287 : Int32) := by decide +kernel
theorem d14_84 : dK baL 84 (.if_icmp .eq 16) 3 := by decide +kernel
theorem d14_87 : dK baL 87 (.iload_n 0) 1 := by decide +kernel
theorem d14_88 : dK baL 88 (.sipush 12288) 3 := by decide +kernel
theorem kc_sipush_12288 : (Int16.ofInt 12288).toInt32 = (12288 : Int32) := by decide +kernel
theorem d14_91 : dK baL 91 (.if_icmp .eq 9) 3 := by decide +kernel
theorem d14_94 : dK baL 94 (.iload_n 0) 1 := by decide +kernel
theorem d14_95 : dK baL 95 (.ldc 7) 2 := by decide +kernel
theorem d14_97 : dK baL 97 (.if_icmp .ne 5) 3 := by decide +kernel
theorem d14_102 : dK baL 102 (.iconst 0) 1 := by decide +kernel
theorem d14_103 : dK baL 103 .ireturn 1 := by decide +kernel
theorem d14_50 : dK baL 50 (.iload_n 0) 1 := by decide +kernel
theorem d14_51 : dK baL 51 (.sipush 8202) 3 := by decide +kernel
theorem kc_sipush_8202 : (Int16.ofInt 8202).toInt32 = (8202 : Int32) := by decide +kernel
theorem d14_54 : dK baL 54 (.if_icmp .gt 5) 3 := by decide +kernel
theorem d14_57 : dK baL 57 (.iconst 1) 1 := by decide +kernel
theorem d14_58 : dK baL 58 .ireturn 1 := by decide +kernel
theorem d14_6 : dK baL 6 (.iload_n 0) 1 := by decide +kernel
theorem d14_7 : dK baL 7 (.bipush 13) 2 := by decide +kernel
theorem kc_bipush_13 : (Int8.ofInt 13).toInt32 = (13 : Int32) := by decide +kernel
theorem d14_9 : dK baL 9 (.if_icmp .gt 5) 3 := by decide +kernel
theorem d14_12 : dK baL 12 (.iconst 1) 1 := by decide +kernel
theorem d14_13 : dK baL 13 .ireturn 1 := by decide +kernel
theorem kc_iconst_5 : Int32.ofInt 5 = (5 : Int32) := by decide +kernel
theorem d1_0 : dK baM 0 (.iload_n 0) 1 := by decide +kernel
theorem d1_1 : dK baM 1 (.iconst 1) 1 := by decide +kernel
theorem d1_2 : dK baM 2 .iand 1 := by decide +kernel
theorem d1_3 : dK baM 3 (.ifCond .ne 9) 3 := by decide +kernel
theorem d1_12 : dK baM 12 (.bipush 52) 2 := by decide +kernel
theorem kc_bipush_52 : (Int8.ofInt 52).toInt32 = (52 : Int32) := by decide +kernel
theorem d1_14 : dK baM 14 (.newarray .char) 2 := by decide +kernel
theorem d1_16 : dK baM 16 .dup 1 := by decide +kernel
theorem d1_17 : dK baM 17 (.iconst 0) 1 := by decide +kernel
theorem d1_18 : dK baM 18 (.bipush 9) 2 := by decide +kernel
theorem d1_20 : dK baM 20 .castore 1 := by decide +kernel
theorem d1_21 : dK baM 21 .dup 1 := by decide +kernel
theorem d1_22 : dK baM 22 (.iconst 1) 1 := by decide +kernel
theorem d1_23 : dK baM 23 (.bipush 10) 2 := by decide +kernel
theorem kc_bipush_10 : (Int8.ofInt 10).toInt32 = (10 : Int32) := by decide +kernel
theorem d1_25 : dK baM 25 .castore 1 := by decide +kernel
theorem d1_26 : dK baM 26 .dup 1 := by decide +kernel
theorem d1_27 : dK baM 27 (.iconst 2) 1 := by decide +kernel
theorem kc_iconst_2 : Int32.ofInt 2 = (2 : Int32) := by decide +kernel
theorem d1_28 : dK baM 28 (.bipush 11) 2 := by decide +kernel
theorem kc_bipush_11 : (Int8.ofInt 11).toInt32 = (11 : Int32) := by decide +kernel
theorem d1_30 : dK baM 30 .castore 1 := by decide +kernel
theorem d1_31 : dK baM 31 .dup 1 := by decide +kernel
theorem d1_32 : dK baM 32 (.iconst 3) 1 := by decide +kernel
theorem kc_iconst_3 : Int32.ofInt 3 = (3 : Int32) := by decide +kernel
theorem d1_33 : dK baM 33 (.bipush 12) 2 := by decide +kernel
theorem kc_bipush_12 : (Int8.ofInt 12).toInt32 = (12 : Int32) := by decide +kernel
theorem d1_35 : dK baM 35 .castore 1 := by decide +kernel
theorem d1_36 : dK baM 36 .dup 1 := by decide +kernel
theorem d1_37 : dK baM 37 (.iconst 4) 1 := by decide +kernel
theorem kc_iconst_4 : Int32.ofInt 4 = (4 : Int32) := by decide +kernel
theorem d1_38 : dK baM 38 (.bipush 13) 2 := by decide +kernel
theorem d1_40 : dK baM 40 .castore 1 := by decide +kernel
theorem d1_41 : dK baM 41 .dup 1 := by decide +kernel
theorem d1_42 : dK baM 42 (.iconst 5) 1 := by decide +kernel
theorem d1_43 : dK baM 43 (.bipush 32) 2 := by decide +kernel
theorem d1_45 : dK baM 45 .castore 1 := by decide +kernel
theorem d1_46 : dK baM 46 .dup 1 := by decide +kernel
theorem d1_47 : dK baM 47 (.bipush 6) 2 := by decide +kernel
theorem kc_bipush_6 : (Int8.ofInt 6).toInt32 = (6 : Int32) := by decide +kernel
theorem d1_49 : dK baM 49 (.sipush 133) 3 := by decide +kernel
theorem d1_52 : dK baM 52 .castore 1 := by decide +kernel
theorem d1_53 : dK baM 53 .dup 1 := by decide +kernel
theorem d1_54 : dK baM 54 (.bipush 7) 2 := by decide +kernel
theorem kc_bipush_7 : (Int8.ofInt 7).toInt32 = (7 : Int32) := by decide +kernel
theorem d1_56 : dK baM 56 (.sipush 160) 3 := by decide +kernel
theorem d1_59 : dK baM 59 .castore 1 := by decide +kernel
theorem d1_60 : dK baM 60 .dup 1 := by decide +kernel
theorem d1_61 : dK baM 61 (.bipush 8) 2 := by decide +kernel
theorem kc_bipush_8 : (Int8.ofInt 8).toInt32 = (8 : Int32) := by decide +kernel
theorem d1_63 : dK baM 63 (.sipush 5760) 3 := by decide +kernel
theorem d1_66 : dK baM 66 .castore 1 := by decide +kernel
theorem d1_67 : dK baM 67 .dup 1 := by decide +kernel
theorem d1_68 : dK baM 68 (.bipush 9) 2 := by decide +kernel
theorem d1_70 : dK baM 70 (.sipush 8192) 3 := by decide +kernel
theorem d1_73 : dK baM 73 .castore 1 := by decide +kernel
theorem d1_74 : dK baM 74 .dup 1 := by decide +kernel
theorem d1_75 : dK baM 75 (.bipush 10) 2 := by decide +kernel
theorem d1_77 : dK baM 77 (.sipush 8193) 3 := by decide +kernel
theorem kc_sipush_8193 : (Int16.ofInt 8193).toInt32 = (8193 : Int32) := by decide +kernel
theorem d1_80 : dK baM 80 .castore 1 := by decide +kernel
theorem d1_81 : dK baM 81 .dup 1 := by decide +kernel
theorem d1_82 : dK baM 82 (.bipush 11) 2 := by decide +kernel
theorem d1_84 : dK baM 84 (.sipush 8194) 3 := by decide +kernel
theorem kc_sipush_8194 : (Int16.ofInt 8194).toInt32 = (8194 : Int32) := by decide +kernel
theorem d1_87 : dK baM 87 .castore 1 := by decide +kernel
theorem d1_88 : dK baM 88 .dup 1 := by decide +kernel
theorem d1_89 : dK baM 89 (.bipush 12) 2 := by decide +kernel
theorem d1_91 : dK baM 91 (.sipush 8195) 3 := by decide +kernel
theorem kc_sipush_8195 : (Int16.ofInt 8195).toInt32 = (8195 : Int32) := by decide +kernel
theorem d1_94 : dK baM 94 .castore 1 := by decide +kernel
theorem d1_95 : dK baM 95 .dup 1 := by decide +kernel
theorem d1_96 : dK baM 96 (.bipush 13) 2 := by decide +kernel
theorem d1_98 : dK baM 98 (.sipush 8196) 3 := by decide +kernel
theorem kc_sipush_8196 : (Int16.ofInt 8196).toInt32 = (8196 : Int32) := by decide +kernel
theorem d1_101 : dK baM 101 .castore 1 := by decide +kernel
theorem d1_102 : dK baM 102 .dup 1 := by decide +kernel
theorem d1_103 : dK baM 103 (.bipush 14) 2 := by decide +kernel
theorem kc_bipush_14 : (Int8.ofInt 14).toInt32 = (14 : Int32) := by decide +kernel
theorem d1_105 : dK baM 105 (.sipush 8197) 3 := by decide +kernel
theorem kc_sipush_8197 : (Int16.ofInt 8197).toInt32 = (8197 : Int32) := by decide +kernel
theorem d1_108 : dK baM 108 .castore 1 := by decide +kernel
theorem d1_109 : dK baM 109 .dup 1 := by decide +kernel
theorem d1_110 : dK baM 110 (.bipush 15) 2 := by decide +kernel
theorem kc_bipush_15 : (Int8.ofInt 15).toInt32 = (15 : Int32) := by decide +kernel
theorem d1_112 : dK baM 112 (.sipush 8198) 3 := by decide +kernel
theorem kc_sipush_8198 : (Int16.ofInt 8198).toInt32 = (8198 : Int32) := by decide +kernel
theorem d1_115 : dK baM 115 .castore 1 := by decide +kernel
theorem d1_116 : dK baM 116 .dup 1 := by decide +kernel
theorem d1_117 : dK baM 117 (.bipush 16) 2 := by decide +kernel
theorem kc_bipush_16 : (Int8.ofInt 16).toInt32 = (16 : Int32) := by decide +kernel
theorem d1_119 : dK baM 119 (.sipush 8199) 3 := by decide +kernel
theorem kc_sipush_8199 : (Int16.ofInt 8199).toInt32 = (8199 : Int32) := by decide +kernel
theorem d1_122 : dK baM 122 .castore 1 := by decide +kernel
theorem d1_123 : dK baM 123 .dup 1 := by decide +kernel
theorem d1_124 : dK baM 124 (.bipush 17) 2 := by decide +kernel
theorem kc_bipush_17 : (Int8.ofInt 17).toInt32 = (17 : Int32) := by decide +kernel
theorem d1_126 : dK baM 126 (.sipush 8200) 3 := by decide +kernel
theorem kc_sipush_8200 : (Int16.ofInt 8200).toInt32 = (8200 : Int32) := by decide +kernel
theorem d1_129 : dK baM 129 .castore 1 := by decide +kernel
theorem d1_130 : dK baM 130 .dup 1 := by decide +kernel
theorem d1_131 : dK baM 131 (.bipush 18) 2 := by decide +kernel
theorem kc_bipush_18 : (Int8.ofInt 18).toInt32 = (18 : Int32) := by decide +kernel
theorem d1_133 : dK baM 133 (.sipush 8201) 3 := by decide +kernel
theorem kc_sipush_8201 : (Int16.ofInt 8201).toInt32 = (8201 : Int32) := by decide +kernel
theorem d1_136 : dK baM 136 .castore 1 := by decide +kernel
theorem d1_137 : dK baM 137 .dup 1 := by decide +kernel
theorem d1_138 : dK baM 138 (.bipush 19) 2 := by decide +kernel
theorem kc_bipush_19 : (Int8.ofInt 19).toInt32 = (19 : Int32) := by decide +kernel
theorem d1_140 : dK baM 140 (.sipush 8202) 3 := by decide +kernel
theorem d1_143 : dK baM 143 .castore 1 := by decide +kernel
theorem d1_144 : dK baM 144 .dup 1 := by decide +kernel
theorem d1_145 : dK baM 145 (.bipush 20) 2 := by decide +kernel
theorem kc_bipush_20 : (Int8.ofInt 20).toInt32 = (20 : Int32) := by decide +kernel
theorem d1_147 : dK baM 147 (.sipush 8232) 3 := by decide +kernel
theorem d1_150 : dK baM 150 .castore 1 := by decide +kernel
theorem d1_151 : dK baM 151 .dup 1 := by decide +kernel
theorem d1_152 : dK baM 152 (.bipush 21) 2 := by decide +kernel
theorem kc_bipush_21 : (Int8.ofInt 21).toInt32 = (21 : Int32) := by decide +kernel
theorem d1_154 : dK baM 154 (.sipush 8233) 3 := by decide +kernel
theorem d1_157 : dK baM 157 .castore 1 := by decide +kernel
theorem d1_158 : dK baM 158 .dup 1 := by decide +kernel
theorem d1_159 : dK baM 159 (.bipush 22) 2 := by decide +kernel
theorem kc_bipush_22 : (Int8.ofInt 22).toInt32 = (22 : Int32) := by decide +kernel
theorem d1_161 : dK baM 161 (.sipush 8239) 3 := by decide +kernel
theorem d1_164 : dK baM 164 .castore 1 := by decide +kernel
theorem d1_165 : dK baM 165 .dup 1 := by decide +kernel
theorem d1_166 : dK baM 166 (.bipush 23) 2 := by decide +kernel
theorem kc_bipush_23 : (Int8.ofInt 23).toInt32 = (23 : Int32) := by decide +kernel
theorem d1_168 : dK baM 168 (.sipush 8287) 3 := by decide +kernel
theorem d1_171 : dK baM 171 .castore 1 := by decide +kernel
theorem d1_172 : dK baM 172 .dup 1 := by decide +kernel
theorem d1_173 : dK baM 173 (.bipush 24) 2 := by decide +kernel
theorem kc_bipush_24 : (Int8.ofInt 24).toInt32 = (24 : Int32) := by decide +kernel
theorem d1_175 : dK baM 175 (.sipush 12288) 3 := by decide +kernel
theorem d1_178 : dK baM 178 .castore 1 := by decide +kernel
theorem d1_179 : dK baM 179 .dup 1 := by decide +kernel
theorem d1_180 : dK baM 180 (.bipush 25) 2 := by decide +kernel
theorem kc_bipush_25 : (Int8.ofInt 25).toInt32 = (25 : Int32) := by decide +kernel
theorem d1_182 : dK baM 182 (.ldc 7) 2 := by decide +kernel
theorem d1_184 : dK baM 184 .castore 1 := by decide +kernel
theorem d1_185 : dK baM 185 .dup 1 := by decide +kernel
theorem d1_186 : dK baM 186 (.bipush 26) 2 := by decide +kernel
theorem kc_bipush_26 : (Int8.ofInt 26).toInt32 = (26 : Int32) := by decide +kernel
theorem d1_188 : dK baM 188 (.iconst 0) 1 := by decide +kernel
theorem d1_189 : dK baM 189 .castore 1 := by decide +kernel
theorem d1_190 : dK baM 190 .dup 1 := by decide +kernel
theorem d1_191 : dK baM 191 (.bipush 27) 2 := by decide +kernel
theorem kc_bipush_27 : (Int8.ofInt 27).toInt32 = (27 : Int32) := by decide +kernel
theorem d1_193 : dK baM 193 (.bipush 8) 2 := by decide +kernel
theorem d1_195 : dK baM 195 .castore 1 := by decide +kernel
theorem d1_196 : dK baM 196 .dup 1 := by decide +kernel
theorem d1_197 : dK baM 197 (.bipush 28) 2 := by decide +kernel
theorem kc_bipush_28 : (Int8.ofInt 28).toInt32 = (28 : Int32) := by decide +kernel
theorem d1_199 : dK baM 199 (.bipush 14) 2 := by decide +kernel
theorem d1_201 : dK baM 201 .castore 1 := by decide +kernel
theorem d1_202 : dK baM 202 .dup 1 := by decide +kernel
theorem d1_203 : dK baM 203 (.bipush 29) 2 := by decide +kernel
theorem kc_bipush_29 : (Int8.ofInt 29).toInt32 = (29 : Int32) := by decide +kernel
theorem d1_205 : dK baM 205 (.bipush 28) 2 := by decide +kernel
theorem d1_207 : dK baM 207 .castore 1 := by decide +kernel
theorem d1_208 : dK baM 208 .dup 1 := by decide +kernel
theorem d1_209 : dK baM 209 (.bipush 30) 2 := by decide +kernel
theorem kc_bipush_30 : (Int8.ofInt 30).toInt32 = (30 : Int32) := by decide +kernel
theorem d1_211 : dK baM 211 (.bipush 31) 2 := by decide +kernel
theorem kc_bipush_31 : (Int8.ofInt 31).toInt32 = (31 : Int32) := by decide +kernel
theorem d1_213 : dK baM 213 .castore 1 := by decide +kernel
theorem d1_214 : dK baM 214 .dup 1 := by decide +kernel
theorem d1_215 : dK baM 215 (.bipush 31) 2 := by decide +kernel
theorem d1_217 : dK baM 217 (.bipush 33) 2 := by decide +kernel
theorem kc_bipush_33 : (Int8.ofInt 33).toInt32 = (33 : Int32) := by decide +kernel
theorem d1_219 : dK baM 219 .castore 1 := by decide +kernel
theorem d1_220 : dK baM 220 .dup 1 := by decide +kernel
theorem d1_221 : dK baM 221 (.bipush 32) 2 := by decide +kernel
theorem d1_223 : dK baM 223 (.bipush 97) 2 := by decide +kernel
theorem kc_bipush_97 : (Int8.ofInt 97).toInt32 = (97 : Int32) := by decide +kernel
theorem d1_225 : dK baM 225 .castore 1 := by decide +kernel
theorem d1_226 : dK baM 226 .dup 1 := by decide +kernel
theorem d1_227 : dK baM 227 (.bipush 33) 2 := by decide +kernel
theorem d1_229 : dK baM 229 (.sipush 132) 3 := by decide +kernel
theorem kc_sipush_132 : (Int16.ofInt 132).toInt32 = (132 : Int32) := by decide +kernel
theorem d1_232 : dK baM 232 .castore 1 := by decide +kernel
theorem d1_233 : dK baM 233 .dup 1 := by decide +kernel
theorem d1_234 : dK baM 234 (.bipush 34) 2 := by decide +kernel
theorem kc_bipush_34 : (Int8.ofInt 34).toInt32 = (34 : Int32) := by decide +kernel
theorem d1_236 : dK baM 236 (.sipush 134) 3 := by decide +kernel
theorem kc_sipush_134 : (Int16.ofInt 134).toInt32 = (134 : Int32) := by decide +kernel
theorem d1_239 : dK baM 239 .castore 1 := by decide +kernel
theorem d1_240 : dK baM 240 .dup 1 := by decide +kernel
theorem d1_241 : dK baM 241 (.bipush 35) 2 := by decide +kernel
theorem kc_bipush_35 : (Int8.ofInt 35).toInt32 = (35 : Int32) := by decide +kernel
theorem d1_243 : dK baM 243 (.sipush 159) 3 := by decide +kernel
theorem kc_sipush_159 : (Int16.ofInt 159).toInt32 = (159 : Int32) := by decide +kernel
theorem d1_246 : dK baM 246 .castore 1 := by decide +kernel
theorem d1_247 : dK baM 247 .dup 1 := by decide +kernel
theorem d1_248 : dK baM 248 (.bipush 36) 2 := by decide +kernel
theorem kc_bipush_36 : (Int8.ofInt 36).toInt32 = (36 : Int32) := by decide +kernel
theorem d1_250 : dK baM 250 (.sipush 161) 3 := by decide +kernel
theorem kc_sipush_161 : (Int16.ofInt 161).toInt32 = (161 : Int32) := by decide +kernel
theorem d1_253 : dK baM 253 .castore 1 := by decide +kernel
theorem d1_254 : dK baM 254 .dup 1 := by decide +kernel
theorem d1_255 : dK baM 255 (.bipush 37) 2 := by decide +kernel
theorem kc_bipush_37 : (Int8.ofInt 37).toInt32 = (37 : Int32) := by decide +kernel
theorem d1_257 : dK baM 257 (.sipush 5759) 3 := by decide +kernel
theorem kc_sipush_5759 : (Int16.ofInt 5759).toInt32 = (5759 : Int32) := by decide +kernel
theorem d1_260 : dK baM 260 .castore 1 := by decide +kernel
theorem d1_261 : dK baM 261 .dup 1 := by decide +kernel
theorem d1_262 : dK baM 262 (.bipush 38) 2 := by decide +kernel
theorem kc_bipush_38 : (Int8.ofInt 38).toInt32 = (38 : Int32) := by decide +kernel
theorem d1_264 : dK baM 264 (.sipush 5761) 3 := by decide +kernel
theorem kc_sipush_5761 : (Int16.ofInt 5761).toInt32 = (5761 : Int32) := by decide +kernel
theorem d1_267 : dK baM 267 .castore 1 := by decide +kernel
theorem d1_268 : dK baM 268 .dup 1 := by decide +kernel
theorem d1_269 : dK baM 269 (.bipush 39) 2 := by decide +kernel
theorem kc_bipush_39 : (Int8.ofInt 39).toInt32 = (39 : Int32) := by decide +kernel
theorem d1_271 : dK baM 271 (.sipush 6158) 3 := by decide +kernel
theorem kc_sipush_6158 : (Int16.ofInt 6158).toInt32 = (6158 : Int32) := by decide +kernel
theorem d1_274 : dK baM 274 .castore 1 := by decide +kernel
theorem d1_275 : dK baM 275 .dup 1 := by decide +kernel
theorem d1_276 : dK baM 276 (.bipush 40) 2 := by decide +kernel
theorem kc_bipush_40 : (Int8.ofInt 40).toInt32 = (40 : Int32) := by decide +kernel
theorem d1_278 : dK baM 278 (.sipush 8191) 3 := by decide +kernel
theorem kc_sipush_8191 : (Int16.ofInt 8191).toInt32 = (8191 : Int32) := by decide +kernel
theorem d1_281 : dK baM 281 .castore 1 := by decide +kernel
theorem d1_282 : dK baM 282 .dup 1 := by decide +kernel
theorem d1_283 : dK baM 283 (.bipush 41) 2 := by decide +kernel
theorem kc_bipush_41 : (Int8.ofInt 41).toInt32 = (41 : Int32) := by decide +kernel
theorem d1_285 : dK baM 285 (.sipush 8203) 3 := by decide +kernel
theorem kc_sipush_8203 : (Int16.ofInt 8203).toInt32 = (8203 : Int32) := by decide +kernel
theorem d1_288 : dK baM 288 .castore 1 := by decide +kernel
theorem d1_289 : dK baM 289 .dup 1 := by decide +kernel
theorem d1_290 : dK baM 290 (.bipush 42) 2 := by decide +kernel
theorem kc_bipush_42 : (Int8.ofInt 42).toInt32 = (42 : Int32) := by decide +kernel
theorem d1_292 : dK baM 292 (.sipush 8231) 3 := by decide +kernel
theorem kc_sipush_8231 : (Int16.ofInt 8231).toInt32 = (8231 : Int32) := by decide +kernel
theorem d1_295 : dK baM 295 .castore 1 := by decide +kernel
theorem d1_296 : dK baM 296 .dup 1 := by decide +kernel
theorem d1_297 : dK baM 297 (.bipush 43) 2 := by decide +kernel
theorem kc_bipush_43 : (Int8.ofInt 43).toInt32 = (43 : Int32) := by decide +kernel
theorem d1_299 : dK baM 299 (.sipush 8234) 3 := by decide +kernel
theorem kc_sipush_8234 : (Int16.ofInt 8234).toInt32 = (8234 : Int32) := by decide +kernel
theorem d1_302 : dK baM 302 .castore 1 := by decide +kernel
theorem d1_303 : dK baM 303 .dup 1 := by decide +kernel
theorem d1_304 : dK baM 304 (.bipush 44) 2 := by decide +kernel
theorem kc_bipush_44 : (Int8.ofInt 44).toInt32 = (44 : Int32) := by decide +kernel
theorem d1_306 : dK baM 306 (.sipush 8238) 3 := by decide +kernel
theorem kc_sipush_8238 : (Int16.ofInt 8238).toInt32 = (8238 : Int32) := by decide +kernel
theorem d1_309 : dK baM 309 .castore 1 := by decide +kernel
theorem d1_310 : dK baM 310 .dup 1 := by decide +kernel
theorem d1_311 : dK baM 311 (.bipush 45) 2 := by decide +kernel
theorem kc_bipush_45 : (Int8.ofInt 45).toInt32 = (45 : Int32) := by decide +kernel
theorem d1_313 : dK baM 313 (.sipush 8240) 3 := by decide +kernel
theorem kc_sipush_8240 : (Int16.ofInt 8240).toInt32 = (8240 : Int32) := by decide +kernel
theorem d1_316 : dK baM 316 .castore 1 := by decide +kernel
theorem d1_317 : dK baM 317 .dup 1 := by decide +kernel
theorem d1_318 : dK baM 318 (.bipush 46) 2 := by decide +kernel
theorem kc_bipush_46 : (Int8.ofInt 46).toInt32 = (46 : Int32) := by decide +kernel
theorem d1_320 : dK baM 320 (.sipush 8286) 3 := by decide +kernel
theorem kc_sipush_8286 : (Int16.ofInt 8286).toInt32 = (8286 : Int32) := by decide +kernel
theorem d1_323 : dK baM 323 .castore 1 := by decide +kernel
theorem d1_324 : dK baM 324 .dup 1 := by decide +kernel
theorem d1_325 : dK baM 325 (.bipush 47) 2 := by decide +kernel
theorem kc_bipush_47 : (Int8.ofInt 47).toInt32 = (47 : Int32) := by decide +kernel
theorem d1_327 : dK baM 327 (.sipush 8288) 3 := by decide +kernel
theorem kc_sipush_8288 : (Int16.ofInt 8288).toInt32 = (8288 : Int32) := by decide +kernel
theorem d1_330 : dK baM 330 .castore 1 := by decide +kernel
theorem d1_331 : dK baM 331 .dup 1 := by decide +kernel
theorem d1_332 : dK baM 332 (.bipush 48) 2 := by decide +kernel
theorem kc_bipush_48 : (Int8.ofInt 48).toInt32 = (48 : Int32) := by decide +kernel
theorem d1_334 : dK baM 334 (.sipush 12287) 3 := by decide +kernel
theorem kc_sipush_12287 : (Int16.ofInt 12287).toInt32 = (12287 : Int32) := by decide +kernel
theorem d1_337 : dK baM 337 .castore 1 := by decide +kernel
theorem d1_338 : dK baM 338 .dup 1 := by decide +kernel
theorem d1_339 : dK baM 339 (.bipush 49) 2 := by decide +kernel
theorem kc_bipush_49 : (Int8.ofInt 49).toInt32 = (49 : Int32) := by decide +kernel
theorem d1_341 : dK baM 341 (.sipush 12289) 3 := by decide +kernel
theorem kc_sipush_12289 : (Int16.ofInt 12289).toInt32 = (12289 : Int32) := by decide +kernel
theorem d1_344 : dK baM 344 .castore 1 := by decide +kernel
theorem d1_345 : dK baM 345 .dup 1 := by decide +kernel
theorem d1_346 : dK baM 346 (.bipush 50) 2 := by decide +kernel
theorem kc_bipush_50 : (Int8.ofInt 50).toInt32 = (50 : Int32) := by decide +kernel
theorem d1_348 : dK baM 348 (.ldc 8) 2 := by decide +kernel
theorem d1_350 : dK baM 350 .castore 1 := by decide +kernel
theorem d1_351 : dK baM 351 .dup 1 := by decide +kernel
theorem d1_352 : dK baM 352 (.bipush 51) 2 := by decide +kernel
theorem kc_bipush_51 : (Int8.ofInt 51).toInt32 = (51 : Int32) := by decide +kernel
theorem d1_354 : dK baM 354 (.ldc 9) 2 := by decide +kernel
theorem d1_356 : dK baM 356 .castore 1 := by decide +kernel
theorem d1_357 : dK baM 357 (.astore_n 1) 1 := by decide +kernel
theorem d1_358 : dK baM 358 (.iload_n 0) 1 := by decide +kernel
theorem d1_359 : dK baM 359 (.iconst 1) 1 := by decide +kernel
theorem d1_360 : dK baM 360 .iushr 1 := by decide +kernel
theorem d1_361 : dK baM 361 (.sipush 32767) 3 := by decide +kernel
theorem kc_sipush_32767 : (Int16.ofInt 32767).toInt32 = (32767 : Int32) := by decide +kernel
theorem d1_364 : dK baM 364 .iand 1 := by decide +kernel
theorem d1_365 : dK baM 365 (.aload_n 1) 1 := by decide +kernel
theorem d1_366 : dK baM 366 .arraylength 1 := by decide +kernel
theorem d1_367 : dK baM 367 .irem 1 := by decide +kernel
theorem d1_368 : dK baM 368 (.istore_n 2) 1 := by decide +kernel
theorem d1_369 : dK baM 369 (.aload_n 1) 1 := by decide +kernel
theorem d1_370 : dK baM 370 (.iload_n 2) 1 := by decide +kernel
theorem d1_371 : dK baM 371 .caload 1 := by decide +kernel
theorem d1_372 : dK baM 372 .ireturn 1 := by decide +kernel
theorem d1_6 : dK baM 6 (.iload_n 0) 1 := by decide +kernel
theorem d1_7 : dK baM 7 (.bipush 16) 2 := by decide +kernel
theorem d1_9 : dK baM 9 .iushr 1 := by decide +kernel
theorem d1_10 : dK baM 10 .i2c 1 := by decide +kernel
theorem d1_11 : dK baM 11 .ireturn 1 := by decide +kernel
theorem pd__I_C : parseMethodDescriptor "(I)C" = some ⟨[.int], some .char⟩ := by decide +kernel
theorem d2_0 : dK baG 0 (.aload_n 0) 1 := by decide +kernel
theorem d2_1 : dK baG 1 (.aload_n 1) 1 := by decide +kernel
theorem d2_2 : dK baG 2 (.iconst 0) 1 := by decide +kernel
theorem d2_3 : dK baG 3 (.aload_n 1) 1 := by decide +kernel
theorem d2_4 : dK baG 4 .arraylength 1 := by decide +kernel
theorem d2_5 : dK baG 5 .aconst_null 1 := by decide +kernel
theorem d2_6 : dK baG 6 (.invokespecial 27) 3 := by decide +kernel
theorem d3_0 : dK bC 0 (.aload_n 0) 1 := by decide +kernel
theorem d3_1 : dK bC 1 (.invokespecial 1) 3 := by decide +kernel
theorem d3_4 : dK bC 4 (.iload_n 3) 1 := by decide +kernel
theorem d3_5 : dK bC 5 (.ifCond .ne 22) 3 := by decide +kernel
theorem d3_27 : dK bC 27 (.getstatic 38) 3 := by decide +kernel
theorem d3_30 : dK bC 30 (.ifCond .eq 28) 3 := by decide +kernel
theorem d3_33 : dK bC 33 (.aload_n 1) 1 := by decide +kernel
theorem d3_34 : dK bC 34 (.iload_n 2) 1 := by decide +kernel
theorem d3_35 : dK bC 35 (.iload_n 3) 1 := by decide +kernel
theorem d3_36 : dK bC 36 (.invokestatic 177) 3 := by decide +kernel
theorem d11_0 : dK bS 0 (.iload_n 2) 1 := by decide +kernel
theorem d11_1 : dK bS 1 (.newarray .byte) 2 := by decide +kernel
theorem d11_3 : dK bS 3 (.astore_n 3) 1 := by decide +kernel
theorem d11_4 : dK bS 4 (.aload_n 0) 1 := by decide +kernel
theorem d11_5 : dK bS 5 (.iload_n 1) 1 := by decide +kernel
theorem d11_6 : dK bS 6 (.aload_n 3) 1 := by decide +kernel
theorem d11_7 : dK bS 7 (.iconst 0) 1 := by decide +kernel
theorem d11_8 : dK bS 8 (.iload_n 2) 1 := by decide +kernel
theorem d11_9 : dK bS 9 (.invokestatic 115) 3 := by decide +kernel
theorem d12_0 : dK bO 0 (.iconst 0) 1 := by decide +kernel
theorem d12_1 : dK bO 1 (.istore 5) 2 := by decide +kernel
theorem d12_3 : dK bO 3 (.iload 5) 2 := by decide +kernel
theorem d12_5 : dK bO 5 (.iload 4) 2 := by decide +kernel
theorem d12_7 : dK bO 7 (.if_icmp .ge 37) 3 := by decide +kernel
theorem d12_10 : dK bO 10 (.aload_n 0) 1 := by decide +kernel
theorem d12_11 : dK bO 11 (.iload_n 1) 1 := by decide +kernel
theorem d12_12 : dK bO 12 .caload 1 := by decide +kernel
theorem d12_13 : dK bO 13 (.istore 6) 2 := by decide +kernel
theorem d12_15 : dK bO 15 (.iload 6) 2 := by decide +kernel
theorem d12_17 : dK bO 17 (.sipush 255) 3 := by decide +kernel
theorem kc_sipush_255 : (Int16.ofInt 255).toInt32 = (255 : Int32) := by decide +kernel
theorem d12_20 : dK bO 20 (.if_icmp .le 6) 3 := by decide +kernel
theorem d12_26 : dK bO 26 (.aload_n 2) 1 := by decide +kernel
theorem d12_27 : dK bO 27 (.iload_n 3) 1 := by decide +kernel
theorem d12_28 : dK bO 28 (.iload 6) 2 := by decide +kernel
theorem d12_30 : dK bO 30 .i2b 1 := by decide +kernel
theorem d12_31 : dK bO 31 .bastore 1 := by decide +kernel
theorem d12_32 : dK bO 32 (.iinc 1 1) 3 := by decide +kernel
theorem d12_35 : dK bO 35 (.iinc 3 1) 3 := by decide +kernel
theorem d12_38 : dK bO 38 (.iinc 5 1) 3 := by decide +kernel
theorem d12_41 : dK bO 41 (.goto (-38)) 3 := by decide +kernel
theorem d12_44 : dK bO 44 (.iload 4) 2 := by decide +kernel
theorem d12_46 : dK bO 46 .ireturn 1 := by decide +kernel
theorem d12_23 : dK bO 23 (.iload 5) 2 := by decide +kernel
theorem d12_25 : dK bO 25 .ireturn 1 := by decide +kernel
theorem pn_java_lang_StringUTF16 : plainName "java/lang/StringUTF16" = true := by first | (simp [plainName, overriddenIn]; done) | decide +kernel
theorem pd___CI_BII_I : parseMethodDescriptor "([CI[BII)I" = some ⟨[(.array .char), .int, (.array .byte), .int, .int], some .int⟩ := by decide +kernel
theorem d11_12 : dK bS 12 (.istore 4) 2 := by decide +kernel
theorem d11_14 : dK bS 14 (.iload 4) 2 := by decide +kernel
theorem d11_16 : dK bS 16 (.iload_n 2) 1 := by decide +kernel
theorem d11_17 : dK bS 17 (.if_icmp .eq 40) 3 := by decide +kernel
theorem d11_57 : dK bS 57 (.aload_n 3) 1 := by decide +kernel
theorem d11_58 : dK bS 58 .areturn 1 := by decide +kernel
theorem d11_20 : dK bS 20 (.aload_n 0) 1 := by decide +kernel
theorem d11_21 : dK bS 21 (.iload_n 1) 1 := by decide +kernel
theorem d11_22 : dK bS 22 (.iload_n 2) 1 := by decide +kernel
theorem d11_23 : dK bS 23 (.invokestatic 119) 3 := by decide +kernel
theorem d27_0 : dK bN 0 (.iload_n 2) 1 := by decide +kernel
theorem d27_1 : dK bN 1 (.invokestatic 107) 3 := by decide +kernel
theorem d28_0 : dK baC 0 (.iload_n 0) 1 := by decide +kernel
theorem d28_1 : dK baC 1 (.invokestatic 11) 3 := by decide +kernel
theorem d29_0 : dK baE 0 (.iload_n 0) 1 := by decide +kernel
theorem d29_1 : dK baE 1 (.ifCond .ge 11) 3 := by decide +kernel
theorem d29_12 : dK baE 12 (.iload_n 0) 1 := by decide +kernel
theorem d29_13 : dK baE 13 (.ldc 20) 2 := by decide +kernel
theorem d29_15 : dK baE 15 (.if_icmp .lt 40) 3 := by decide +kernel
theorem d29_55 : dK baE 55 (.iload_n 0) 1 := by decide +kernel
theorem d29_56 : dK baE 56 (.iconst 1) 1 := by decide +kernel
theorem d29_57 : dK baE 57 .ishl 1 := by decide +kernel
theorem kf_0 : ((4 : Int32) <<< ((1 : Int32) &&& 31)) = (8 : Int32) := by decide +kernel
theorem d29_58 : dK baE 58 .ireturn 1 := by decide +kernel
theorem pd__I_I : parseMethodDescriptor "(I)I" = some ⟨[.int], some .int⟩ := by decide +kernel
theorem d28_4 : dK baC 4 (.newarray .byte) 2 := by decide +kernel
theorem d28_6 : dK baC 6 .areturn 1 := by decide +kernel
theorem pd__I__B : parseMethodDescriptor "(I)[B" = some ⟨[.int], some (.array .byte)⟩ := by decide +kernel
theorem d27_4 : dK bN 4 (.astore_n 3) 1 := by decide +kernel
theorem d27_5 : dK bN 5 (.iconst 0) 1 := by decide +kernel
theorem d27_6 : dK bN 6 (.istore 4) 2 := by decide +kernel
theorem d27_8 : dK bN 8 (.iload 4) 2 := by decide +kernel
theorem d27_10 : dK bN 10 (.iload_n 2) 1 := by decide +kernel
theorem d27_11 : dK bN 11 (.if_icmp .ge 21) 3 := by decide +kernel
theorem d27_14 : dK bN 14 (.aload_n 3) 1 := by decide +kernel
theorem d27_15 : dK bN 15 (.iload 4) 2 := by decide +kernel
theorem d27_17 : dK bN 17 (.aload_n 0) 1 := by decide +kernel
theorem d27_18 : dK bN 18 (.iload_n 1) 1 := by decide +kernel
theorem d27_19 : dK bN 19 .caload 1 := by decide +kernel
theorem d27_20 : dK bN 20 (.invokestatic 111) 3 := by decide +kernel
theorem d30_0 : dK baJ 0 (.getstatic 44) 3 := by decide +kernel
theorem d30_3 : dK baJ 3 (.ifCond .ne 25) 3 := by decide +kernel
theorem d30_28 : dK baJ 28 (.iload_n 1) 1 := by decide +kernel
theorem d30_29 : dK baJ 29 (.iconst 1) 1 := by decide +kernel
theorem d30_30 : dK baJ 30 .ishl 1 := by decide +kernel
theorem kf_1 : ((0 : Int32) <<< ((1 : Int32) &&& 31)) = (0 : Int32) := by decide +kernel
theorem d30_31 : dK baJ 31 (.istore_n 1) 1 := by decide +kernel
theorem d30_32 : dK baJ 32 (.aload_n 0) 1 := by decide +kernel
theorem d30_33 : dK baJ 33 (.iload_n 1) 1 := by decide +kernel
theorem d30_34 : dK baJ 34 (.iinc 1 1) 3 := by decide +kernel
theorem d30_37 : dK baJ 37 (.iload_n 2) 1 := by decide +kernel
theorem d30_38 : dK baJ 38 (.getstatic 59) 3 := by decide +kernel
theorem d30_41 : dK baJ 41 .ishr 1 := by decide +kernel
theorem d30_42 : dK baJ 42 .i2b 1 := by decide +kernel
theorem d30_43 : dK baJ 43 .bastore 1 := by decide +kernel
theorem d30_44 : dK baJ 44 (.aload_n 0) 1 := by decide +kernel
theorem d30_45 : dK baJ 45 (.iload_n 1) 1 := by decide +kernel
theorem d30_46 : dK baJ 46 (.iload_n 2) 1 := by decide +kernel
theorem d30_47 : dK baJ 47 (.getstatic 63) 3 := by decide +kernel
theorem d30_50 : dK baJ 50 .ishr 1 := by decide +kernel
theorem d30_51 : dK baJ 51 .i2b 1 := by decide +kernel
theorem d30_52 : dK baJ 52 .bastore 1 := by decide +kernel
theorem d30_53 : dK baJ 53 .return_ 1 := by decide +kernel
theorem pd___BII_V : parseMethodDescriptor "([BII)V" = some ⟨[(.array .byte), .int, .int], none⟩ := by decide +kernel
theorem d27_23 : dK bN 23 (.iinc 1 1) 3 := by decide +kernel
theorem d27_26 : dK bN 26 (.iinc 4 1) 3 := by decide +kernel
theorem d27_29 : dK bN 29 (.goto (-21)) 3 := by decide +kernel
theorem kf_2 : ((1 : Int32) <<< ((1 : Int32) &&& 31)) = (2 : Int32) := by decide +kernel
theorem kf_3 : ((2 : Int32) <<< ((1 : Int32) &&& 31)) = (4 : Int32) := by decide +kernel
theorem kf_4 : ((3 : Int32) <<< ((1 : Int32) &&& 31)) = (6 : Int32) := by decide +kernel
theorem d27_32 : dK bN 32 (.aload_n 3) 1 := by decide +kernel
theorem d27_33 : dK bN 33 .areturn 1 := by decide +kernel
theorem pd___CII__B : parseMethodDescriptor "([CII)[B" = some ⟨[(.array .char), .int, .int], some (.array .byte)⟩ := by decide +kernel
theorem d11_26 : dK bS 26 (.astore 5) 2 := by decide +kernel
theorem d11_28 : dK bS 28 (.aload 5) 2 := by decide +kernel
theorem d11_30 : dK bS 30 (.iload 4) 2 := by decide +kernel
theorem d11_32 : dK bS 32 (.invokestatic 71) 3 := by decide +kernel
theorem d31_0 : dK baF 0 (.getstatic 44) 3 := by decide +kernel
theorem d31_3 : dK baF 3 (.ifCond .ne 25) 3 := by decide +kernel
theorem d31_28 : dK baF 28 (.iload_n 1) 1 := by decide +kernel
theorem d31_29 : dK baF 29 (.iconst 1) 1 := by decide +kernel
theorem d31_30 : dK baF 30 .ishl 1 := by decide +kernel
theorem d31_31 : dK baF 31 (.istore_n 1) 1 := by decide +kernel
theorem d31_32 : dK baF 32 (.aload_n 0) 1 := by decide +kernel
theorem d31_33 : dK baF 33 (.iload_n 1) 1 := by decide +kernel
theorem d31_34 : dK baF 34 (.iinc 1 1) 3 := by decide +kernel
theorem d31_37 : dK baF 37 .baload 1 := by decide +kernel
theorem d31_38 : dK baF 38 (.sipush 255) 3 := by decide +kernel
theorem d31_41 : dK baF 41 .iand 1 := by decide +kernel
theorem d31_42 : dK baF 42 (.getstatic 59) 3 := by decide +kernel
theorem d31_45 : dK baF 45 .ishl 1 := by decide +kernel
theorem d31_46 : dK baF 46 (.aload_n 0) 1 := by decide +kernel
theorem d31_47 : dK baF 47 (.iload_n 1) 1 := by decide +kernel
theorem d31_48 : dK baF 48 .baload 1 := by decide +kernel
theorem d31_49 : dK baF 49 (.sipush 255) 3 := by decide +kernel
theorem d31_52 : dK baF 52 .iand 1 := by decide +kernel
theorem d31_53 : dK baF 53 (.getstatic 63) 3 := by decide +kernel
theorem d31_56 : dK baF 56 .ishl 1 := by decide +kernel
theorem d31_57 : dK baF 57 .ior 1 := by decide +kernel
theorem d31_58 : dK baF 58 .i2c 1 := by decide +kernel
theorem d31_59 : dK baF 59 .ireturn 1 := by decide +kernel
theorem pd___BI_C : parseMethodDescriptor "([BI)C" = some ⟨[(.array .byte), .int], some .char⟩ := by decide +kernel
theorem d11_35 : dK bS 35 (.sipush 255) 3 := by decide +kernel
theorem d11_38 : dK bS 38 (.if_icmp .gt 16) 3 := by decide +kernel
theorem d11_54 : dK bS 54 (.aload 5) 2 := by decide +kernel
theorem d11_56 : dK bS 56 .areturn 1 := by decide +kernel
theorem d3_39 : dK bC 39 (.astore 5) 2 := by decide +kernel
theorem d3_41 : dK bC 41 (.aload_n 0) 1 := by decide +kernel
theorem d3_42 : dK bC 42 (.aload 5) 2 := by decide +kernel
theorem d3_44 : dK bC 44 (.iload_n 3) 1 := by decide +kernel
theorem d3_45 : dK bC 45 (.invokestatic 47) 3 := by decide +kernel
theorem d13_0 : dK baA 0 (.iload_n 1) 1 := by decide +kernel
theorem d13_1 : dK baA 1 (.aload_n 0) 1 := by decide +kernel
theorem d13_2 : dK baA 2 .arraylength 1 := by decide +kernel
theorem d13_3 : dK baA 3 .isub 1 := by decide +kernel
theorem kf_5 : ((4 : Int32) - (4 : Int32)) = (0 : Int32) := by decide +kernel
theorem d13_4 : dK baA 4 (.bipush 31) 2 := by decide +kernel
theorem d13_6 : dK baA 6 .iushr 1 := by decide +kernel
theorem kf_6 : (((0 : Int32)).toUInt32 >>> ((31 : Int32) &&& 31).toUInt32).toInt32 = (0 : Int32) := by decide +kernel
theorem d13_7 : dK baA 7 .i2b 1 := by decide +kernel
theorem kf_7 : ((0 : Int32)).toInt8.toInt32 = (0 : Int32) := by decide +kernel
theorem d13_8 : dK baA 8 .ireturn 1 := by decide +kernel
theorem pd___BI_B : parseMethodDescriptor "([BI)B" = some ⟨[(.array .byte), .int], some .byte⟩ := by decide +kernel
theorem d3_48 : dK bC 48 (.putfield 15) 3 := by decide +kernel
theorem d3_51 : dK bC 51 (.aload_n 0) 1 := by decide +kernel
theorem d3_52 : dK bC 52 (.aload 5) 2 := by decide +kernel
theorem d3_54 : dK bC 54 (.putfield 9) 3 := by decide +kernel
theorem d3_57 : dK bC 57 .return_ 1 := by decide +kernel
theorem kf_8 : ((4 : Int32) - (8 : Int32)) = (-4 : Int32) := by decide +kernel
theorem kf_9 : (((-4 : Int32)).toUInt32 >>> ((31 : Int32) &&& 31).toUInt32).toInt32 = (1 : Int32) := by decide +kernel
theorem kf_10 : ((1 : Int32)).toInt8.toInt32 = (1 : Int32) := by decide +kernel
theorem pn_java_lang_String : plainName "java/lang/String" = true := by first | (simp [plainName, overriddenIn]; done) | decide +kernel
theorem pd___CIILjava_lang_Void__V : parseMethodDescriptor "([CIILjava/lang/Void;)V" = some ⟨[(.array .char), .int, .int, (.object "java/lang/Void")], none⟩ := by decide +kernel
theorem d2_9 : dK baG 9 .return_ 1 := by decide +kernel
theorem pd___C_V : parseMethodDescriptor "([C)V" = some ⟨[(.array .char)], none⟩ := by decide +kernel
theorem pd__C_Z : parseMethodDescriptor "(C)Z" = some ⟨[.char], some .boolean⟩ := by decide +kernel
theorem d5_0 : dK baK 0 (.iconst 0) 1 := by decide +kernel
theorem d5_1 : dK baK 1 (.istore_n 1) 1 := by decide +kernel
theorem d5_2 : dK baK 2 (.iload_n 1) 1 := by decide +kernel
theorem d5_3 : dK baK 3 (.aload_n 0) 1 := by decide +kernel
theorem d5_4 : dK baK 4 (.invokevirtual 7) 3 := by decide +kernel
theorem d6_0 : dK bV 0 (.aload_n 0) 1 := by decide +kernel
theorem d6_1 : dK bV 1 (.getfield 9) 3 := by decide +kernel
theorem d6_4 : dK bV 4 .arraylength 1 := by decide +kernel
theorem d6_5 : dK bV 5 (.aload_n 0) 1 := by decide +kernel
theorem d6_6 : dK bV 6 (.invokevirtual 335) 3 := by decide +kernel
theorem d7_0 : dK bA 0 (.getstatic 38) 3 := by decide +kernel
theorem d7_3 : dK bA 3 (.ifCond .eq 10) 3 := by decide +kernel
theorem d7_6 : dK bA 6 (.aload_n 0) 1 := by decide +kernel
theorem d7_7 : dK bA 7 (.getfield 15) 3 := by decide +kernel
theorem d7_10 : dK bA 10 (.goto 4) 3 := by decide +kernel
theorem d7_14 : dK bA 14 .ireturn 1 := by decide +kernel
theorem pd___B : parseMethodDescriptor "()B" = some ⟨[], some .byte⟩ := by decide +kernel
theorem d6_9 : dK bV 9 .ishr 1 := by decide +kernel
theorem d6_10 : dK bV 10 .ireturn 1 := by decide +kernel
theorem pd___I : parseMethodDescriptor "()I" = some ⟨[], some .int⟩ := by decide +kernel
theorem d5_7 : dK baK 7 (.if_icmp .ge 20) 3 := by decide +kernel
theorem d5_10 : dK baK 10 (.aload_n 0) 1 := by decide +kernel
theorem d5_11 : dK baK 11 (.iload_n 1) 1 := by decide +kernel
theorem d5_12 : dK baK 12 (.invokevirtual 13) 3 := by decide +kernel
theorem d15_0 : dK bP 0 (.aload_n 0) 1 := by decide +kernel
theorem d15_1 : dK bP 1 (.invokevirtual 492) 3 := by decide +kernel
theorem d16_0 : dK bH 0 (.getstatic 38) 3 := by decide +kernel
theorem d16_3 : dK bH 3 (.ifCond .eq 14) 3 := by decide +kernel
theorem d16_6 : dK bH 6 (.aload_n 0) 1 := by decide +kernel
theorem d16_7 : dK bH 7 (.getfield 15) 3 := by decide +kernel
theorem d16_10 : dK bH 10 (.ifCond .ne 7) 3 := by decide +kernel
theorem d16_17 : dK bH 17 (.iconst 0) 1 := by decide +kernel
theorem d16_18 : dK bH 18 .ireturn 1 := by decide +kernel
theorem d16_13 : dK bH 13 (.iconst 1) 1 := by decide +kernel
theorem d16_14 : dK bH 14 (.goto 4) 3 := by decide +kernel
theorem pd___Z : parseMethodDescriptor "()Z" = some ⟨[], some .boolean⟩ := by decide +kernel
theorem d15_4 : dK bP 4 (.ifCond .eq 12) 3 := by decide +kernel
theorem d15_7 : dK bP 7 (.aload_n 0) 1 := by decide +kernel
theorem d15_8 : dK bP 8 (.getfield 9) 3 := by decide +kernel
theorem d15_11 : dK bP 11 (.iload_n 1) 1 := by decide +kernel
theorem d15_12 : dK bP 12 (.invokestatic 495) 3 := by decide +kernel
theorem d17_0 : dK baD 0 (.iload_n 1) 1 := by decide +kernel
theorem d17_1 : dK baD 1 (.aload_n 0) 1 := by decide +kernel
theorem d17_2 : dK baD 2 .arraylength 1 := by decide +kernel
theorem d17_3 : dK baD 3 (.invokestatic 9) 3 := by decide +kernel
theorem d18_0 : dK bB 0 (.iload_n 0) 1 := by decide +kernel
theorem d18_1 : dK bB 1 (.iload_n 1) 1 := by decide +kernel
theorem d18_2 : dK bB 2 (.getstatic 1053) 3 := by decide +kernel
theorem d18_5 : dK bB 5 (.invokestatic 1059) 3 := by decide +kernel
theorem d19_0 : dK bQ 0 (.iload_n 0) 1 := by decide +kernel
theorem d19_1 : dK bQ 1 (.ifCond .lt 8) 3 := by decide +kernel
theorem d19_4 : dK bQ 4 (.iload_n 0) 1 := by decide +kernel
theorem d19_5 : dK bQ 5 (.iload_n 1) 1 := by decide +kernel
theorem d19_6 : dK bQ 6 (.if_icmp .lt 10) 3 := by decide +kernel
theorem d19_16 : dK bQ 16 (.iload_n 0) 1 := by decide +kernel
theorem d19_17 : dK bQ 17 .ireturn 1 := by decide +kernel
theorem pn_jdk_internal_util_Preconditions : plainName "jdk/internal/util/Preconditions" = true := by first | (simp [plainName, overriddenIn]; done) | decide +kernel
theorem pd__IILjava_util_function_BiFunction__I : parseMethodDescriptor "(IILjava/util/function/BiFunction;)I" = some ⟨[.int, .int, (.object "java/util/function/BiFunction")], some .int⟩ := by decide +kernel
theorem d18_8 : dK bB 8 .pop 1 := by decide +kernel
theorem d18_9 : dK bB 9 .return_ 1 := by decide +kernel
theorem pd__II_V : parseMethodDescriptor "(II)V" = some ⟨[.int, .int], none⟩ := by decide +kernel
theorem d17_6 : dK baD 6 (.aload_n 0) 1 := by decide +kernel
theorem d17_7 : dK baD 7 (.iload_n 1) 1 := by decide +kernel
theorem d17_8 : dK baD 8 .baload 1 := by decide +kernel
theorem d17_9 : dK baD 9 (.sipush 255) 3 := by decide +kernel
theorem d17_12 : dK baD 12 .iand 1 := by decide +kernel
theorem d17_13 : dK baD 13 .i2c 1 := by decide +kernel
theorem d17_14 : dK baD 14 .ireturn 1 := by decide +kernel
theorem pn_java_lang_StringLatin1 : plainName "java/lang/StringLatin1" = true := by first | (simp [plainName, overriddenIn]; done) | decide +kernel
theorem d15_15 : dK bP 15 .ireturn 1 := by decide +kernel
theorem d15_16 : dK bP 16 (.aload_n 0) 1 := by decide +kernel
theorem d15_17 : dK bP 17 (.getfield 9) 3 := by decide +kernel
theorem d15_20 : dK bP 20 (.iload_n 1) 1 := by decide +kernel
theorem d15_21 : dK bP 21 (.invokestatic 498) 3 := by decide +kernel
theorem d32_0 : dK bX 0 (.iload_n 1) 1 := by decide +kernel
theorem d32_1 : dK bX 1 (.aload_n 0) 1 := by decide +kernel
theorem d32_2 : dK bX 2 (.invokestatic 67) 3 := by decide +kernel
theorem d33_0 : dK bM 0 (.iload_n 0) 1 := by decide +kernel
theorem d33_1 : dK bM 1 (.aload_n 1) 1 := by decide +kernel
theorem d33_2 : dK bM 2 (.invokestatic 48) 3 := by decide +kernel
theorem d34_0 : dK baI 0 (.aload_n 0) 1 := by decide +kernel
theorem d34_1 : dK baI 1 .arraylength 1 := by decide +kernel
theorem d34_2 : dK baI 2 (.iconst 1) 1 := by decide +kernel
theorem d34_3 : dK baI 3 .ishr 1 := by decide +kernel
theorem d34_4 : dK baI 4 .ireturn 1 := by decide +kernel
theorem pd___B_I : parseMethodDescriptor "([B)I" = some ⟨[(.array .byte)], some .int⟩ := by decide +kernel
theorem d33_5 : dK bM 5 (.invokestatic 414) 3 := by decide +kernel
theorem d33_8 : dK bM 8 .return_ 1 := by decide +kernel
theorem pd__I_B_V : parseMethodDescriptor "(I[B)V" = some ⟨[.int, (.array .byte)], none⟩ := by decide +kernel
theorem d32_5 : dK bX 5 (.aload_n 0) 1 := by decide +kernel
theorem d32_6 : dK bX 6 (.iload_n 1) 1 := by decide +kernel
theorem d32_7 : dK bX 7 (.invokestatic 71) 3 := by decide +kernel
theorem d32_10 : dK bX 10 .ireturn 1 := by decide +kernel
theorem d15_24 : dK bP 24 .ireturn 1 := by decide +kernel
theorem d5_15 : dK baK 15 (.invokestatic 17) 3 := by decide +kernel
theorem d5_18 : dK baK 18 (.ifCond .eq 9) 3 := by decide +kernel
theorem d5_21 : dK baK 21 (.iinc 1 1) 3 := by decide +kernel
theorem d5_24 : dK baK 24 (.goto (-22)) 3 := by decide +kernel
theorem d5_27 : dK baK 27 (.aload_n 0) 1 := by decide +kernel
theorem d5_28 : dK baK 28 (.invokevirtual 7) 3 := by decide +kernel
theorem d5_31 : dK baK 31 (.istore_n 2) 1 := by decide +kernel
theorem d5_32 : dK baK 32 (.iload_n 2) 1 := by decide +kernel
theorem d5_33 : dK baK 33 (.iload_n 1) 1 := by decide +kernel
theorem d5_34 : dK baK 34 (.if_icmp .le 22) 3 := by decide +kernel
theorem d5_56 : dK baK 56 (.aload_n 0) 1 := by decide +kernel
theorem d5_57 : dK baK 57 (.iload_n 1) 1 := by decide +kernel
theorem d5_58 : dK baK 58 (.iload_n 2) 1 := by decide +kernel
theorem d5_59 : dK baK 59 (.invokevirtual 23) 3 := by decide +kernel
theorem d8_0 : dK bZ 0 (.aload_n 0) 1 := by decide +kernel
theorem d8_1 : dK bZ 1 (.invokevirtual 505) 3 := by decide +kernel
theorem d8_4 : dK bZ 4 (.istore_n 3) 1 := by decide +kernel
theorem d8_5 : dK bZ 5 (.iload_n 1) 1 := by decide +kernel
theorem d8_6 : dK bZ 6 (.iload_n 2) 1 := by decide +kernel
theorem d8_7 : dK bZ 7 (.iload_n 3) 1 := by decide +kernel
theorem d8_8 : dK bZ 8 (.invokestatic 521) 3 := by decide +kernel
theorem d9_0 : dK bI 0 (.iload_n 0) 1 := by decide +kernel
theorem d9_1 : dK bI 1 (.iload_n 1) 1 := by decide +kernel
theorem d9_2 : dK bI 2 (.iload_n 2) 1 := by decide +kernel
theorem d9_3 : dK bI 3 (.getstatic 1053) 3 := by decide +kernel
theorem d9_6 : dK bI 6 (.invokestatic 1062) 3 := by decide +kernel
theorem d10_0 : dK bR 0 (.iload_n 0) 1 := by decide +kernel
theorem d10_1 : dK bR 1 (.ifCond .lt 13) 3 := by decide +kernel
theorem d10_4 : dK bR 4 (.iload_n 0) 1 := by decide +kernel
theorem d10_5 : dK bR 5 (.iload_n 1) 1 := by decide +kernel
theorem d10_6 : dK bR 6 (.if_icmp .gt 8) 3 := by decide +kernel
theorem d10_9 : dK bR 9 (.iload_n 1) 1 := by decide +kernel
theorem d10_10 : dK bR 10 (.iload_n 2) 1 := by decide +kernel
theorem d10_11 : dK bR 11 (.if_icmp .le 11) 3 := by decide +kernel
theorem d10_22 : dK bR 22 (.iload_n 0) 1 := by decide +kernel
theorem d10_23 : dK bR 23 .ireturn 1 := by decide +kernel
theorem pd__IIILjava_util_function_BiFunction__I : parseMethodDescriptor "(IIILjava/util/function/BiFunction;)I" = some ⟨[.int, .int, .int, (.object "java/util/function/BiFunction")], some .int⟩ := by decide +kernel
theorem d9_9 : dK bI 9 .pop 1 := by decide +kernel
theorem d9_10 : dK bI 10 .return_ 1 := by decide +kernel
theorem pd__III_V : parseMethodDescriptor "(III)V" = some ⟨[.int, .int, .int], none⟩ := by decide +kernel
theorem d8_11 : dK bZ 11 (.iload_n 1) 1 := by decide +kernel
theorem d8_12 : dK bZ 12 (.ifCond .ne 10) 3 := by decide +kernel
theorem d8_22 : dK bZ 22 (.iload_n 2) 1 := by decide +kernel
theorem d8_23 : dK bZ 23 (.iload_n 1) 1 := by decide +kernel
theorem d8_24 : dK bZ 24 .isub 1 := by decide +kernel
theorem d8_25 : dK bZ 25 (.istore 4) 2 := by decide +kernel
theorem d8_27 : dK bZ 27 (.aload_n 0) 1 := by decide +kernel
theorem d8_28 : dK bZ 28 (.invokevirtual 492) 3 := by decide +kernel
theorem d8_31 : dK bZ 31 (.ifCond .eq 16) 3 := by decide +kernel
theorem d8_34 : dK bZ 34 (.aload_n 0) 1 := by decide +kernel
theorem d8_35 : dK bZ 35 (.getfield 9) 3 := by decide +kernel
theorem d8_38 : dK bZ 38 (.iload_n 1) 1 := by decide +kernel
theorem d8_39 : dK bZ 39 (.iload 4) 2 := by decide +kernel
theorem d8_41 : dK bZ 41 (.invokestatic 685) 3 := by decide +kernel
theorem d21_0 : dK bU 0 (.iload_n 2) 1 := by decide +kernel
theorem d21_1 : dK bU 1 (.ifCond .ne 6) 3 := by decide +kernel
theorem d21_7 : dK bU 7 (.new 1) 3 := by decide +kernel
theorem d21_10 : dK bU 10 .dup 1 := by decide +kernel
theorem d21_11 : dK bU 11 (.aload_n 0) 1 := by decide +kernel
theorem d21_12 : dK bU 12 (.iload_n 1) 1 := by decide +kernel
theorem d21_13 : dK bU 13 (.iload_n 1) 1 := by decide +kernel
theorem d21_14 : dK bU 14 (.iload_n 2) 1 := by decide +kernel
theorem d21_15 : dK bU 15 .iadd 1 := by decide +kernel
theorem d21_16 : dK bU 16 (.invokestatic 232) 3 := by decide +kernel
theorem d22_0 : dK bJ 0 (.iload_n 1) 1 := by decide +kernel
theorem d22_1 : dK bJ 1 (.ifCond .ne 9) 3 := by decide +kernel
theorem d22_4 : dK bJ 4 (.iload_n 2) 1 := by decide +kernel
theorem d22_5 : dK bJ 5 (.aload_n 0) 1 := by decide +kernel
theorem d22_6 : dK bJ 6 .arraylength 1 := by decide +kernel
theorem d22_7 : dK bJ 7 (.if_icmp .eq 10) 3 := by decide +kernel
theorem d22_10 : dK bJ 10 (.aload_n 0) 1 := by decide +kernel
theorem d22_11 : dK bJ 11 (.iload_n 1) 1 := by decide +kernel
theorem d22_12 : dK bJ 12 (.iload_n 2) 1 := by decide +kernel
theorem d22_13 : dK bJ 13 (.invokestatic 339) 3 := by decide +kernel
theorem d23_0 : dK bF 0 (.iload_n 1) 1 := by decide +kernel
theorem d23_1 : dK bF 1 (.iload_n 2) 1 := by decide +kernel
theorem d23_2 : dK bF 2 (.invokestatic 343) 3 := by decide +kernel
theorem d24_0 : dK bE 0 (.iload_n 1) 1 := by decide +kernel
theorem d24_1 : dK bE 1 (.iload_n 0) 1 := by decide +kernel
theorem d24_2 : dK bE 2 (.if_icmp .ge 35) 3 := by decide +kernel
theorem d24_37 : dK bE 37 .return_ 1 := by decide +kernel
theorem pn_java_util_Arrays : plainName "java/util/Arrays" = true := by first | (simp [plainName, overriddenIn]; done) | decide +kernel
theorem d23_5 : dK bF 5 (.iload_n 2) 1 := by decide +kernel
theorem d23_6 : dK bF 6 (.iload_n 1) 1 := by decide +kernel
theorem d23_7 : dK bF 7 .isub 1 := by decide +kernel
theorem d23_8 : dK bF 8 (.istore_n 3) 1 := by decide +kernel
theorem d23_9 : dK bF 9 (.iload_n 3) 1 := by decide +kernel
theorem d23_10 : dK bF 10 (.newarray .byte) 2 := by decide +kernel
theorem d23_12 : dK bF 12 (.astore 4) 2 := by decide +kernel
theorem d23_14 : dK bF 14 (.aload_n 0) 1 := by decide +kernel
theorem d23_15 : dK bF 15 (.iload_n 1) 1 := by decide +kernel
theorem d23_16 : dK bF 16 (.aload 4) 2 := by decide +kernel
theorem d23_18 : dK bF 18 (.iconst 0) 1 := by decide +kernel
theorem d23_19 : dK bF 19 (.aload_n 0) 1 := by decide +kernel
theorem d23_20 : dK bF 20 .arraylength 1 := by decide +kernel
theorem d23_21 : dK bF 21 (.iload_n 1) 1 := by decide +kernel
theorem d23_22 : dK bF 22 .isub 1 := by decide +kernel
theorem d23_23 : dK bF 23 (.iload_n 3) 1 := by decide +kernel
theorem d23_24 : dK bF 24 (.invokestatic 304) 3 := by decide +kernel
theorem d25_0 : dK bK 0 (.iload_n 0) 1 := by decide +kernel
theorem d25_1 : dK bK 1 (.iload_n 1) 1 := by decide +kernel
theorem d25_2 : dK bK 2 (.if_icmp .gt 7) 3 := by decide +kernel
theorem d25_9 : dK bK 9 (.iload_n 1) 1 := by decide +kernel
theorem d25_10 : dK bK 10 .ireturn 1 := by decide +kernel
theorem d25_5 : dK bK 5 (.iload_n 0) 1 := by decide +kernel
theorem d25_6 : dK bK 6 (.goto 4) 3 := by decide +kernel
theorem pd__II_I : parseMethodDescriptor "(II)I" = some ⟨[.int, .int], some .int⟩ := by decide +kernel
theorem d23_27 : dK bF 27 (.invokestatic 150) 3 := by decide +kernel
theorem d23_30 : dK bF 30 (.aload 4) 2 := by decide +kernel
theorem d23_32 : dK bF 32 .areturn 1 := by decide +kernel
theorem pd___BII__B : parseMethodDescriptor "([BII)[B" = some ⟨[(.array .byte), .int, .int], some (.array .byte)⟩ := by decide +kernel
theorem d22_16 : dK bJ 16 .areturn 1 := by decide +kernel
theorem d21_19 : dK bU 19 (.iconst 0) 1 := by decide +kernel
theorem d21_20 : dK bU 20 (.invokespecial 112) 3 := by decide +kernel
theorem d26_0 : dK bD 0 (.aload_n 0) 1 := by decide +kernel
theorem d26_1 : dK bD 1 (.invokespecial 1) 3 := by decide +kernel
theorem d26_4 : dK bD 4 (.aload_n 0) 1 := by decide +kernel
theorem d26_5 : dK bD 5 (.aload_n 1) 1 := by decide +kernel
theorem d26_6 : dK bD 6 (.putfield 9) 3 := by decide +kernel
theorem d26_9 : dK bD 9 (.aload_n 0) 1 := by decide +kernel
theorem d26_10 : dK bD 10 (.iload_n 2) 1 := by decide +kernel
theorem d26_11 : dK bD 11 (.putfield 15) 3 := by decide +kernel
theorem d26_14 : dK bD 14 .return_ 1 := by decide +kernel
theorem pd___BB_V : parseMethodDescriptor "([BB)V" = some ⟨[(.array .byte), .byte], none⟩ := by decide +kernel
theorem d21_23 : dK bU 23 .areturn 1 := by decide +kernel
theorem d21_4 : dK bU 4 (.ldc 151) 2 := by decide +kernel
theorem d21_6 : dK bU 6 .areturn 1 := by decide +kernel
theorem pd___BII_Ljava_lang_String_ : parseMethodDescriptor "([BII)Ljava/lang/String;" = some ⟨[(.array .byte), .int, .int], some (.object "java/lang/String")⟩ := by decide +kernel
theorem d8_44 : dK bZ 44 (.goto 13) 3 := by decide +kernel
theorem d8_57 : dK bZ 57 .areturn 1 := by decide +kernel
theorem d8_47 : dK bZ 47 (.aload_n 0) 1 := by decide +kernel
theorem d8_48 : dK bZ 48 (.getfield 9) 3 := by decide +kernel
theorem d8_51 : dK bZ 51 (.iload_n 1) 1 := by decide +kernel
theorem d8_52 : dK bZ 52 (.iload 4) 2 := by decide +kernel
theorem d8_54 : dK bZ 54 (.invokestatic 689) 3 := by decide +kernel
theorem d35_0 : dK bL 0 (.iload_n 2) 1 := by decide +kernel
theorem d35_1 : dK bL 1 (.ifCond .ne 7) 3 := by decide +kernel
theorem d35_8 : dK bL 8 (.getstatic 251) 3 := by decide +kernel
theorem d35_11 : dK bL 11 (.ifCond .eq 28) 3 := by decide +kernel
theorem d35_14 : dK bL 14 (.aload_n 0) 1 := by decide +kernel
theorem d35_15 : dK bL 15 (.iload_n 1) 1 := by decide +kernel
theorem d35_16 : dK bL 16 (.iload_n 2) 1 := by decide +kernel
theorem d35_17 : dK bL 17 (.invokestatic 257) 3 := by decide +kernel
theorem d36_0 : dK bW 0 (.iload_n 2) 1 := by decide +kernel
theorem d36_1 : dK bW 1 (.newarray .byte) 2 := by decide +kernel
theorem d36_3 : dK bW 3 (.astore_n 3) 1 := by decide +kernel
theorem d36_4 : dK bW 4 (.aload_n 0) 1 := by decide +kernel
theorem d36_5 : dK bW 5 (.iload_n 1) 1 := by decide +kernel
theorem d36_6 : dK bW 6 (.aload_n 3) 1 := by decide +kernel
theorem d36_7 : dK bW 7 (.iconst 0) 1 := by decide +kernel
theorem d36_8 : dK bW 8 (.iload_n 2) 1 := by decide +kernel
theorem d36_9 : dK bW 9 (.invokestatic 123) 3 := by decide +kernel
theorem d37_0 : dK bY 0 (.iload_n 1) 1 := by decide +kernel
theorem d37_1 : dK bY 1 (.iload 4) 2 := by decide +kernel
theorem d37_3 : dK bY 3 (.aload_n 0) 1 := by decide +kernel
theorem d37_4 : dK bY 4 (.invokestatic 173) 3 := by decide +kernel
theorem d38_0 : dK baB 0 (.iload_n 0) 1 := by decide +kernel
theorem d38_1 : dK baB 1 (.iload_n 1) 1 := by decide +kernel
theorem d38_2 : dK baB 2 (.aload_n 2) 1 := by decide +kernel
theorem d38_3 : dK baB 3 (.invokestatic 48) 3 := by decide +kernel
theorem d38_6 : dK baB 6 (.invokestatic 419) 3 := by decide +kernel
theorem d39_0 : dK bG 0 (.iload_n 0) 1 := by decide +kernel
theorem d39_1 : dK bG 1 (.iload_n 1) 1 := by decide +kernel
theorem d39_2 : dK bG 2 (.iload_n 2) 1 := by decide +kernel
theorem d39_3 : dK bG 3 (.getstatic 1053) 3 := by decide +kernel
theorem d39_6 : dK bG 6 (.invokestatic 1065) 3 := by decide +kernel
theorem d40_0 : dK bT 0 (.iload_n 2) 1 := by decide +kernel
theorem d40_1 : dK bT 1 (.iload_n 0) 1 := by decide +kernel
theorem d40_2 : dK bT 2 .ior 1 := by decide +kernel
theorem d40_3 : dK bT 3 (.iload_n 1) 1 := by decide +kernel
theorem d40_4 : dK bT 4 .ior 1 := by decide +kernel
theorem d40_5 : dK bT 5 (.ifCond .lt 10) 3 := by decide +kernel
theorem d40_8 : dK bT 8 (.iload_n 1) 1 := by decide +kernel
theorem d40_9 : dK bT 9 (.iload_n 2) 1 := by decide +kernel
theorem d40_10 : dK bT 10 (.iload_n 0) 1 := by decide +kernel
theorem d40_11 : dK bT 11 .isub 1 := by decide +kernel
theorem d40_12 : dK bT 12 (.if_icmp .le 11) 3 := by decide +kernel
theorem d40_23 : dK bT 23 (.iload_n 0) 1 := by decide +kernel
theorem d40_24 : dK bT 24 .ireturn 1 := by decide +kernel
theorem d39_9 : dK bG 9 .ireturn 1 := by decide +kernel
theorem pd__III_I : parseMethodDescriptor "(III)I" = some ⟨[.int, .int, .int], some .int⟩ := by decide +kernel
theorem d38_9 : dK baB 9 .pop 1 := by decide +kernel
theorem d38_10 : dK baB 10 .return_ 1 := by decide +kernel
theorem pd__II_B_V : parseMethodDescriptor "(II[B)V" = some ⟨[.int, .int, (.array .byte)], none⟩ := by decide +kernel
theorem d37_7 : dK bY 7 (.iconst 0) 1 := by decide +kernel
theorem d37_8 : dK bY 8 (.istore 5) 2 := by decide +kernel
theorem d37_10 : dK bY 10 (.iload 5) 2 := by decide +kernel
theorem d37_12 : dK bY 12 (.iload 4) 2 := by decide +kernel
theorem d37_14 : dK bY 14 (.if_icmp .ge 39) 3 := by decide +kernel
theorem d37_53 : dK bY 53 (.iload 4) 2 := by decide +kernel
theorem d37_55 : dK bY 55 .ireturn 1 := by decide +kernel
theorem d37_17 : dK bY 17 (.aload_n 0) 1 := by decide +kernel
theorem d37_18 : dK bY 18 (.iload_n 1) 1 := by decide +kernel
theorem d37_19 : dK bY 19 (.invokestatic 71) 3 := by decide +kernel
theorem d37_22 : dK bY 22 (.istore 6) 2 := by decide +kernel
theorem d37_24 : dK bY 24 (.iload 6) 2 := by decide +kernel
theorem d37_26 : dK bY 26 (.sipush 255) 3 := by decide +kernel
theorem d37_29 : dK bY 29 (.if_icmp .le 6) 3 := by decide +kernel
theorem d37_35 : dK bY 35 (.aload_n 2) 1 := by decide +kernel
theorem d37_36 : dK bY 36 (.iload_n 3) 1 := by decide +kernel
theorem d37_37 : dK bY 37 (.iload 6) 2 := by decide +kernel
theorem d37_39 : dK bY 39 .i2b 1 := by decide +kernel
theorem d37_40 : dK bY 40 .bastore 1 := by decide +kernel
theorem d37_41 : dK bY 41 (.iinc 1 1) 3 := by decide +kernel
theorem d37_44 : dK bY 44 (.iinc 3 1) 3 := by decide +kernel
theorem d37_47 : dK bY 47 (.iinc 5 1) 3 := by decide +kernel
theorem d37_50 : dK bY 50 (.goto (-40)) 3 := by decide +kernel
theorem d37_32 : dK bY 32 (.iload 5) 2 := by decide +kernel
theorem d37_34 : dK bY 34 .ireturn 1 := by decide +kernel
theorem pd___BI_BII_I : parseMethodDescriptor "([BI[BII)I" = some ⟨[(.array .byte), .int, (.array .byte), .int, .int], some .int⟩ := by decide +kernel
theorem d36_12 : dK bW 12 (.istore 4) 2 := by decide +kernel
theorem d36_14 : dK bW 14 (.iload 4) 2 := by decide +kernel
theorem d36_16 : dK bW 16 (.iload_n 2) 1 := by decide +kernel
theorem d36_17 : dK bW 17 (.if_icmp .eq 47) 3 := by decide +kernel
theorem d36_64 : dK bW 64 (.aload_n 3) 1 := by decide +kernel
theorem d36_65 : dK bW 65 .areturn 1 := by decide +kernel
theorem d36_20 : dK bW 20 (.aload_n 0) 1 := by decide +kernel
theorem d36_21 : dK bW 21 (.iload_n 1) 1 := by decide +kernel
theorem d36_22 : dK bW 22 (.iconst 1) 1 := by decide +kernel
theorem d36_23 : dK bW 23 .ishl 1 := by decide +kernel
theorem d36_24 : dK bW 24 (.iload_n 1) 1 := by decide +kernel
theorem d36_25 : dK bW 25 (.iload_n 2) 1 := by decide +kernel
theorem d36_26 : dK bW 26 .iadd 1 := by decide +kernel
theorem d36_27 : dK bW 27 (.invokestatic 11) 3 := by decide +kernel
theorem d36_30 : dK bW 30 (.invokestatic 126) 3 := by decide +kernel
theorem d36_33 : dK bW 33 (.astore 5) 2 := by decide +kernel
theorem d36_35 : dK bW 35 (.aload 5) 2 := by decide +kernel
theorem d36_37 : dK bW 37 (.iload 4) 2 := by decide +kernel
theorem d36_39 : dK bW 39 (.invokestatic 71) 3 := by decide +kernel
theorem d36_42 : dK bW 42 (.sipush 255) 3 := by decide +kernel
theorem d36_45 : dK bW 45 (.if_icmp .gt 16) 3 := by decide +kernel
theorem d36_61 : dK bW 61 (.aload 5) 2 := by decide +kernel
theorem d36_63 : dK bW 63 .areturn 1 := by decide +kernel
theorem d35_20 : dK bL 20 (.astore_n 3) 1 := by decide +kernel
theorem d35_21 : dK bL 21 (.aload_n 3) 1 := by decide +kernel
theorem d35_22 : dK bL 22 (.iload_n 2) 1 := by decide +kernel
theorem d35_23 : dK bL 23 (.invokestatic 259) 3 := by decide +kernel
theorem d35_26 : dK bL 26 (.istore 4) 2 := by decide +kernel
theorem d35_28 : dK bL 28 (.new 3) 3 := by decide +kernel
theorem d35_31 : dK bL 31 .dup 1 := by decide +kernel
theorem d35_32 : dK bL 32 (.aload_n 3) 1 := by decide +kernel
theorem d35_33 : dK bL 33 (.iload 4) 2 := by decide +kernel
theorem d35_35 : dK bL 35 (.invokespecial 263) 3 := by decide +kernel
theorem d35_38 : dK bL 38 .areturn 1 := by decide +kernel
theorem d35_4 : dK bL 4 (.ldc_w 295) 3 := by decide +kernel
theorem d35_7 : dK bL 7 .areturn 1 := by decide +kernel
theorem d8_15 : dK bZ 15 (.iload_n 2) 1 := by decide +kernel
theorem d8_16 : dK bZ 16 (.iload_n 3) 1 := by decide +kernel
theorem d8_17 : dK bZ 17 (.if_icmp .ne 5) 3 := by decide +kernel
theorem d8_20 : dK bZ 20 (.aload_n 0) 1 := by decide +kernel
theorem d8_21 : dK bZ 21 .areturn 1 := by decide +kernel
theorem pd__II_Ljava_lang_String_ : parseMethodDescriptor "(II)Ljava/lang/String;" = some ⟨[.int, .int], some (.object "java/lang/String")⟩ := by decide +kernel
theorem d5_62 : dK baK 62 .areturn 1 := by decide +kernel
theorem d5_37 : dK baK 37 (.aload_n 0) 1 := by decide +kernel
theorem d5_38 : dK baK 38 (.iload_n 2) 1 := by decide +kernel
theorem d5_39 : dK baK 39 (.iconst 1) 1 := by decide +kernel
theorem d5_40 : dK baK 40 .isub 1 := by decide +kernel
theorem kf_11 : ((4 : Int32) - (1 : Int32)) = (3 : Int32) := by decide +kernel
theorem d5_41 : dK baK 41 (.invokevirtual 13) 3 := by decide +kernel
theorem d5_44 : dK baK 44 (.invokestatic 17) 3 := by decide +kernel
theorem d5_47 : dK baK 47 (.ifCond .eq 9) 3 := by decide +kernel
theorem d5_50 : dK baK 50 (.iinc 2 (-1)) 3 := by decide +kernel
theorem kc_iconst_m1 : Int32.ofInt (-1) = (-1 : Int32) := by decide +kernel
theorem d5_53 : dK baK 53 (.goto (-21)) 3 := by decide +kernel
theorem kf_12 : ((3 : Int32) - (1 : Int32)) = (2 : Int32) := by decide +kernel
theorem kf_13 : ((2 : Int32) - (1 : Int32)) = (1 : Int32) := by decide +kernel
theorem kf_14 : ((1 : Int32) - (1 : Int32)) = (0 : Int32) := by decide +kernel
theorem pd__Ljava_lang_String__Ljava_lang_String_ : parseMethodDescriptor "(Ljava/lang/String;)Ljava/lang/String;" = some ⟨[(.object "java/lang/String")], some (.object "java/lang/String")⟩ := by decide +kernel
theorem kf_15 : ((3 : Int32) - (3 : Int32)) = (0 : Int32) := by decide +kernel
theorem kf_16 : ((3 : Int32) - (6 : Int32)) = (-3 : Int32) := by decide +kernel
theorem kf_17 : (((-3 : Int32)).toUInt32 >>> ((31 : Int32) &&& 31).toUInt32).toInt32 = (1 : Int32) := by decide +kernel
theorem kf_18 : ((2 : Int32) - (2 : Int32)) = (0 : Int32) := by decide +kernel
theorem kf_19 : ((2 : Int32) - (4 : Int32)) = (-2 : Int32) := by decide +kernel
theorem kf_20 : (((-2 : Int32)).toUInt32 >>> ((31 : Int32) &&& 31).toUInt32).toInt32 = (1 : Int32) := by decide +kernel
theorem kf_21 : ((1 : Int32) - (2 : Int32)) = (-1 : Int32) := by decide +kernel
theorem kf_22 : (((-1 : Int32)).toUInt32 >>> ((31 : Int32) &&& 31).toUInt32).toInt32 = (1 : Int32) := by decide +kernel
theorem d3_8 : dK bC 8 (.aload_n 0) 1 := by decide +kernel
theorem d3_9 : dK bC 9 (.ldc 7) 2 := by decide +kernel
theorem d3_11 : dK bC 11 (.getfield 9) 3 := by decide +kernel
theorem d3_14 : dK bC 14 (.putfield 9) 3 := by decide +kernel
theorem d3_17 : dK bC 17 (.aload_n 0) 1 := by decide +kernel
theorem d3_18 : dK bC 18 (.ldc 7) 2 := by decide +kernel
theorem d3_20 : dK bC 20 (.getfield 15) 3 := by decide +kernel
theorem d3_23 : dK bC 23 (.putfield 15) 3 := by decide +kernel
theorem d3_26 : dK bC 26 .return_ 1 := by decide +kernel
def EL1 : List (String × Nat) := [("java/lang/String", 7), ("java/lang/StringLatin1", 151), ("java/lang/StringUTF16", 295)]
theorem own_EL {Z : State} {a0 : Array Value} (hw : ∀ d ∈ tables_1, d.before a0 Z = true) : EW Z a0 EL1 :=
  EW.cons (hw _ (List.mem_of_getElem? (i := 22) rfl)) (by decide) (EW.cons (hw _ (List.mem_of_getElem? (i := 174) rfl)) (by decide) (EW.cons (hw _ (List.mem_of_getElem? (i := 175) rfl)) (by decide) (EW.nil)))
theorem own_wS {Z : State} {a0 : Array Value} (hw : ∀ d ∈ tables_1, d.before a0 Z = true) : ∀ a ∈ Bundle.stringAtoms, a.before a0 Z = true := by
  intro a ha
  simp only [Bundle.stringAtoms, List.mem_cons, List.not_mem_nil, or_false] at ha
  rcases ha with rfl | rfl | rfl | rfl | rfl | rfl | rfl
  · exact (hw _ (List.mem_of_getElem? (i := 11) rfl))
  · exact (hw _ (List.mem_of_getElem? (i := 10) rfl))
  · exact (hw _ (List.mem_of_getElem? (i := 23) rfl))
  · exact (hw _ (List.mem_of_getElem? (i := 24) rfl))
  · exact (hw _ (List.mem_of_getElem? (i := 25) rfl))
  · exact (hw _ (List.mem_of_getElem? (i := 26) rfl))
  · exact (hw _ (List.mem_of_getElem? (i := 27) rfl))
section LW0
open Jvm.Free.SB Jvm.Free.SBG
/-- the empty text's String, as facts -/
theorem slE {Z : State} {vm : Vm} {h : Heap} {a : Addr} (hal : Z.vm.Alike vm) (F : SlOf (Wst Z vm h) a #[]) :
    ∃ (b : Addr) (k : ClassId), Exa Z h a "java/lang/String" ∧ Fld Z h a "java/lang/String" "coder" "B" (.int 0) ∧ Fld Z h a "java/lang/String" "value" "[B" (.ref b) ∧ Arv Z h b k .byte 0 [] (.int 0) ∧ ∃ q : SQ, q.sa = a ∧ q.sd = b ∧ SlB (Wst Z vm h) q #[] := by
  have F0 := F
  obtain ⟨⟨sa, sC, fSV, fSC, sd, SA, len⟩, cS, rfl, ⟨⟨h1, h2, h3, ⟨c1, k1, i1, v1, w1⟩, ⟨c2, k2, i2, v2, w2⟩, h6, h7, h8, h9, h10, h11, h12, -⟩, hS, hcls⟩, ⟨kS, e1, e2, e3⟩, hB, hsl⟩ := F
  obtain ⟨q0, hq0, G0⟩ := SlB.of F0
  have hcls : sC.cls = cS := hcls
  have h10 : h[sd]? = some SA := h10
  have h1 : h[sa]? = some sC := h1
  have e3 : sC.slots.size = kS.instanceTypes.size := e3
  have hsl : SA.slots = stringBytes #[] := hsl
  subst hcls
  obtain ⟨k1', u1⟩ := ff_back (U := Wst Z vm h) hal v1
  obtain ⟨k2', u2⟩ := ff_back (U := Wst Z vm h) hal v2
  have fZ : Z.vm.findClass "java/lang/String" = some sC.cls := by rw [← hal.findClass]; exact hS
  obtain ⟨kz, hkz, -⟩ := Vm.findClass_spec fZ
  obtain ⟨kz', hkz', ekz⟩ := hal.2.2 _ _ hkz
  cases hkz'.symm.trans e1
  have bZ : Z.vm.findClass "[B" = some SA.cls := by rw [← hal.findClass]; exact hB
  obtain ⟨kb, hkb, -⟩ := Vm.findClass_spec bZ
  obtain ⟨kb', hkb', ekb⟩ := hal.2.2 _ _ hkb
  obtain ⟨hst, k9, hk9, comp, hkind⟩ := h11
  cases hkb'.symm.trans (show vm.classes[SA.cls]? = some k9 from hk9)
  have hz : SA.slots.size = 0 := by rw [hsl, SBG.stringBytes_lat (units := #[]) (by simp)]; simp
  refine ⟨sd, SA.cls, ⟨sC, kz, h1, fZ, hkz, h3, fun _ => by rw [e3, ekz]⟩, ⟨sC, c2, k2', i2, fSC, h1, u2, h7, h2, h3, by rw [← hal.assignable]; exact w2, h9⟩, ⟨sC, c1, k1', i1, fSV, h1, u1, h6, h2, h3, by rw [← hal.assignable]; exact w1, h8⟩, ⟨SA, ⟨h10, ⟨hst, kb, hkb, comp, by rw [ekb] at hkind; exact hkind⟩, h12⟩, rfl, by rw [hz]; rfl, by decide, fun j hj => ?_, fun j hj => ?_⟩, q0, hq0, ?_, G0⟩
  · rw [hz] at hj; exact absurd hj (Nat.not_lt_zero _)
  · rw [hz] at hj; exact absurd hj (Nat.not_lt_zero _)
  · have e4 : q0.sC = sC := by have z := G0.ha; rw [hq0] at z; exact Option.some.inj (z.symm.trans h1)
    obtain ⟨cS', ⟨⟨-, -, -, ⟨c3, k3, i3, v3, -⟩, -, -, -, g8, -⟩, -⟩, -⟩ := G0
    cases v1.symm.trans v3
    rw [e4] at g8
    simpa using g8.symm.trans h8

section LW
variable {p : Program} {l : Launch} {e : Env} {R : Room} {s : State} {m : MethodId} {args : Array Value} {below : List Frame} {meth : Method} {c : Code} {T : State} {locs : List Loc} {cells slots : Nat} {Z : State} {a0 : Array Value} {EL : List (String × Nat)} {h : Heap} {vm : Vm} {own : String} {index : Nat} {k1 : Nat}
theorem units0 {units : Array UInt16} (h : utf16ToString? units = some "") : units = #[] := by
  have q := Jvm.ClassFile.units_of_text h (by decide)
  cases units with
  | mk L => simpa using q
/-- 'ldc_w' of the empty text: where it comes out, whatever was booked -/
theorem ldcw0 (Y : Stand p l e R (s.setVm vm) m args below meth c T locs cells slots) (hx : p.tables.exec = Jvm.exec) (hZ : Z.Warmed39 vm) (hown : vm.findClass own = some m.cls) (w : (Cond.stringLink own index "").before a0 Z = true) (wS : ∀ a ∈ stringAtoms, a.before args (s.setVm vm) = true)
    (hEL : EW Z a0 EL) (H : CHv Z EL T.vm T.heap) {g : JFrame} (hg : g.method = m) (hd : decode c.code g.pc = .ok (.ldc_w index, 3)) (hc : cells + 2 ≤ R.cells) (hl : slots + 4 ≤ R.slots) :
    ∃ (a : Addr) (T' : State), Stand p l e R (s.setVm T'.vm) m args below meth c T' locs (cells + 2) (slots + 4) ∧ (s.setVm vm).Since T'.vm T'.heap.size ∧ Ext T.heap T'.heap ∧ CHr Z EL T.vm T.heap T'.vm T'.heap ∧ Booksv T'.vm own index #[] a ∧
      ∀ target, Steps p.tables e below (T'.setTop { g with pc := g.pc + 3, stack := .ref a :: g.stack }) target → Steps p.tables e below (T.setTop g) target := by
  obtain ⟨k, cf, i, units, hk, hcf, hp, hu, hnm, htext, hres⟩ := Cond.stringLink_spec (s := s.setVm vm) (args := args) hown (mvS hZ w)
  cases units0 htext
  obtain ⟨k', hk', he⟩ := Y.warmed.alike.2.2 _ _ hk
  have hcf' : k'.cf = some cf := by rw [he]; exact hcf
  have hZT : Z.Warmed39 T.vm := wtrans (s := s.setVm vm) hZ Y.warmed
  have fT : T.vm.findClass own = some m.cls := by rw [Y.warmed.alike.findClass]; exact hown
  have id0 : Ext T.heap T.heap := ⟨Nat.le_refl _, fun _ _ q => q⟩
  subst hg
  -- the entry, as it stands now
  have now : (k'.resolved[index]? = some none ∧ k.resolved[index]? = some none) ∨ ∃ a, k'.resolved[index]? = some (some (.string a)) := by
    obtain ⟨k2, hk2, -, -, ee, -⟩ := Y.warmed.wide.2.2.2 _ k hk
    cases hk'.symm.trans hk2
    rcases ee index with e0 | ⟨-, r, e1, hr | ⟨a, t, si, us, rfl, -⟩⟩
    · exact hres.imp (fun q => ⟨e0.trans q, q⟩) (fun ⟨a, q⟩ => ⟨a, e0.trans q⟩)
    · exfalso
      have hk0 : vm.classes[g.method.cls]? = some k := hk
      cases r <;> simp [State.rightAt, hk0, hcf, hnm] at hr
    · exact Or.inr ⟨a, e1⟩
  rcases now with ⟨o1, o0⟩ | ⟨a, hr⟩
  · have n2 : ∀ kk : Class, kk.cf = some cf → kk.cf.bind (namesOf? ·.constantPool index) = some (.string "") ∧ kk.cf.bind (·.constantPool[index]?) = some (.string i) ∧ kk.cf.bind (·.constantPool.utf8? i) = some #[] := fun kk q => by
      rw [q]; exact ⟨hnm, hp, by simp [ConstantPool.utf8?, hu]⟩
    cases hf : T.vm.interned.find? (fun p => p.1 == #[]) with
    | some pr =>
      obtain ⟨u', a⟩ := pr
      have hu' : u' = #[] := by simpa using Array.find?_some hf
      subst hu'
      have W1 := Y.warmed.wide.notedString hk (Or.inl o0) (n2 k hcf).1 (n2 k hcf).2.1 (n2 k hcf).2.2 hf
      have W2 : (Wst Z T.vm T.heap).Warmed39 (T.vm.noted g.method.cls index (.string a)) := (State.Warmed39.refl (Wst Z T.vm T.heap)).notedString (show (Wst Z T.vm T.heap).vm.classes[g.method.cls]? = some k' from hk') (Or.inl o1) (n2 k' hcf').1 (n2 k' hcf').2.1 (n2 k' hcf').2.2 hf
      have B := CHv.later (h' := T.heap) hZT W2 hEL id0 (Or.inl rfl) H
      refine ⟨a, T.setVm (T.vm.noted g.method.cls index (.string a)), (Y.mono (by omega) (by omega)).retabled W1, ⟨W1, State.Booked.step (T₂ := T.setVm (T.vm.noted g.method.cls index (.string a))) (Y.warmed.no_new_pair _) Y.same.2.1 ⟨Nat.le_refl _, Or.inl rfl⟩⟩, id0, ⟨B.1, Nat.le_refl _, B.2⟩, ?_, fun target q => ?_⟩
      · exact ⟨g.method.cls, k'.noted index (.string a), cf, i, by rw [show (T.setVm (T.vm.noted g.method.cls index (.string a))).vm = T.vm.noted g.method.cls index (.string a) from rfl, W2.alike.findClass]; exact fT, Vm.classes_note_self index _ hk', hcf', hp, hu, Or.inl (Class.resolved_note_self _ o1)⟩
      · jvm_step Y.here [hx, hd, ldc_w.wp_string_found (e := e) (s := T) (f := g) Y.here.top hk' hcf' hp hu o1 hf]
        exact q
    | none =>
      obtain ⟨Zs, LZs, hn4, fv, fc⟩ := StringT.of_atoms (args := args) wS
      obtain ⟨kS', kB', LZ', hty⟩ := LZs.warmer Y.warmed.alike
      have hfs : T.fitsSlot = (s.setVm vm).fitsSlot := (show T.fitsSlot = ((s.setVm vm).setVm T.vm).fitsSlot from rfl).trans (State.fitsSlot_setVm Y.warmed.alike)
      have hb0 : (stringBytes #[]).size = 0 := by rw [SBG.stringBytes_lat (units := #[]) (by simp)]; simp
      obtain ⟨vmN, eN⟩ : ∃ v : Vm, v = ({ T.vm with interned := T.vm.interned.push (#[], T.heap.size + 1) } : Vm).noted g.method.cls index (.string (T.heap.size + 1)) := ⟨_, rfl⟩
      have hpush : ({ T.vm with interned := T.vm.interned.push (#[], T.heap.size + 1) } : Vm).interned.find? (fun p => p.1 == #[]) = some (#[], T.heap.size + 1) := by
        show (T.vm.interned.push (#[], T.heap.size + 1)).find? _ = _
        rw [Array.find?_push, hf]; simp
      have W1 : (s.setVm vm).Warmed39 vmN := eN ▸ (Y.warmed.wide.interns #[] (T.heap.size + 1)).notedString hk (Or.inl o0) (n2 k hcf).1 (n2 k hcf).2.1 (n2 k hcf).2.2 hpush
      have W2 : (Wst Z T.vm T.heap).Warmed39 vmN := eN ▸ ((State.Warmed39.refl (Wst Z T.vm T.heap)).interns #[] (T.heap.size + 1)).notedString (show (Wst Z T.vm T.heap).vm.classes[g.method.cls]? = some k' from hk') (Or.inl o1) (n2 k' hcf').1 (n2 k' hcf').2.1 (n2 k' hcf').2.2 hpush
      have X2 := (Y.pushed (bytesOf Zs.cB #[])).pushed (stringAt Zs.cS kS' Zs.fv Zs.fc #[] T.heap.size)
      rw [← withString_eq] at X2
      obtain ⟨U, eU⟩ : ∃ U : State, U = withString T Zs.cB Zs.cS kS' Zs.fv Zs.fc #[] := ⟨_, rfl⟩
      have hU : U.heap = (T.heap.push (bytesOf Zs.cB #[])).push (stringAt Zs.cS kS' Zs.fv Zs.fc #[] T.heap.size) := by rw [eU, withString_eq]; rfl
      rw [← eU] at X2
      have b1 : (bytesOf Zs.cB #[]).slots.size = 0 := by rw [(Cell.writeAll_facts _ _).2.2]; simp [bytes0, hb0]
      have b2 : (stringAt Zs.cS kS' Zs.fv Zs.fc #[] T.heap.size).slots.size = 4 := by simp [string0, Cell.setSlot, hty, hn4]
      have hsz : U.heap.size = T.heap.size + 2 := by rw [hU]; simp
      have E : Ext T.heap U.heap := ⟨by omega, fun a cl q => by
        have hlt := (Array.getElem?_eq_some_iff.mp q).1
        rw [hU, Array.getElem?_push, if_neg (by rw [Array.size_push]; omega), Array.getElem?_push, if_neg (by omega)]; exact q⟩
      have cb : U.heap[T.heap.size]? = some (bytesOf Zs.cB #[]) := by
        rw [hU, Array.getElem?_push, if_neg (by rw [Array.size_push]; omega), Array.getElem?_push, if_pos rfl]
      have cs : U.heap[T.heap.size + 1]? = some (stringAt Zs.cS kS' Zs.fv Zs.fc #[] T.heap.size) := by
        rw [hU, Array.getElem?_push, if_pos (by rw [Array.size_push])]
      have M : SlIn 0 T.heap.size (Wst Z vmN U.heap) (T.heap.size + 1) #[] := made_sl (W := Wst Z vmN U.heap) wS LZs hn4 hty W1.alike cb cs (by simp) (by rw [hb0]; decide) 0
      have B := CHv.later (h' := U.heap) hZT W2 hEL E (Or.inr ⟨#[], T.heap.size + 1, by rw [eN]; rfl, hf, fun _ => by
        obtain ⟨q, cS, hq, r1, r2, r3, r4, r5⟩ := M
        refine ⟨q, hq, ⟨cS, r1, r2, r3, r4⟩, ?_⟩
        rcases r5 with ⟨z, -⟩ | z
        · exact absurd z (Nat.not_lt_zero _)
        · exact z⟩) H
      refine ⟨T.heap.size + 1, U.setVm vmN, (X2.mono (by omega) (by rw [b1, b2]; omega)).retabled W1, ⟨W1, State.Booked.step (T₂ := U.setVm vmN) (Y.warmed.no_new_pair _) Y.same.2.1 ⟨E.1, Or.inr ⟨#[], T.heap.size + 1, by show vmN.interned = _; rw [eN]; rfl, by omega, by show _ < U.heap.size; omega⟩⟩⟩, E, ⟨B.1, E.1, B.2⟩, ?_, fun target q => ?_⟩
      · refine ⟨g.method.cls, k'.noted index (.string (T.heap.size + 1)), cf, i, by rw [show (U.setVm vmN).vm = vmN from rfl, W2.alike.findClass]; exact fT, ?_, hcf', hp, hu, Or.inl (Class.resolved_note_self _ o1)⟩
        show vmN.classes[_]? = _
        rw [eN]; exact Vm.classes_note_self index _ hk'
      · rw [eN, eU] at q
        refine Steps.instr (c := _) (by simpa using Y.here) ?_
        simp [jvm, wpRun, exec, Y.here.top, hx, hd]
        refine ldc_w.wp_string_new (e := e) (s := T) (f := g) Y.here.top hk' hcf' hp hu o1 hf LZ'.found LZ'.cls LZ'.initialized LZ'.ordinary LZ'.foundB LZ'.clsB LZ'.kindB LZ'.value LZ'.coder ?_ ?_ (Y.cellsAbove hc) ?_ (stringBytes_fit LZ'.clsB LZ'.kindB #[]) LZ'.valueSlot LZ'.coderSlot (by rw [hfs]; exact fv _) (by rw [hfs]; exact fc _) (fun d' acts' => ?_)
        · rw [hb0]; omega
        · rw [hb0]; omega
        · have := Y.slotsAbove hl
          show T.slotsUsed + (stringBytes #[]).size + kS'.instanceTypes.size ≤ _
          rw [hb0, hty, hn4]; omega
        · intro acts''
          have t1 : (withString T Zs.cB Zs.cS kS' Zs.fv Zs.fc #[]).topJava?.isSome := by simpa [withString] using Y.here.top
          have t2 : ((withString T Zs.cB Zs.cS kS' Zs.fv Zs.fc #[]).setVm (({ T.vm with interned := T.vm.interned.push (#[], T.heap.size + 1) } : Vm).noted g.method.cls index (.string (T.heap.size + 1)))).topJava?.isSome := by simpa using t1
          simp [jvm, afterInstr, t1, t2]
          rw [State.modifyTopJava_setTop]
          exact q
  · have W2 : (Wst Z T.vm T.heap).Warmed39 T.vm := State.Warmed39.refl (Wst Z T.vm T.heap)
    refine ⟨a, T, (Y.mono (by omega) (by omega)).retabled Y.warmed.wide, Y.warmed.since _, id0, CHr.refl H, ⟨_, k', cf, i, fT, hk', hcf', hp, hu, Or.inl hr⟩, fun target q => ?_⟩
    jvm_step Y.here [hx, hd, ldc_w.wp_string (e := e) (s := T) (f := g) Y.here.top hk' hcf' hp hr]
    exact q
theorem s_ldcwH {tabs : List Jvm.Cond} {nm : String} {code : ByteArray} {ml : Nat} {ret : Option FieldType} {n0 k n pc : Nat} {Q : Option Value → Heap → Prop} {G : Outcome → State → List Loc → Prop} {ls : Array Slot} {st : List Value} (pc' : Nat) (C : Cx tabs a0 Z own nm code ml ret p (s.setVm vm) m meth c) (X : St p l e R (s.setVm vm) m args below meth c n0 T h k n) (hS : s.Since vm k1) (Nk : k1 ≤ h.size) (hEL : EW Z a0 EL) (H : CHv Z EL vm h) (hd : decode code pc = .ok (.ldc_w index, 3)) (w : Jvm.Cond.stringLink own index "" ∈ tabs) (wS : ∀ a ∈ stringAtoms, a.before a0 Z = true) (hmem : (own, index) ∈ EL)
    (r : ∀ T' h' a b kb vm' k2, Cx tabs a0 Z own nm code ml ret p (s.setVm vm') m meth c → St p l e R (s.setVm vm') m args below meth c n0 T' h' (k + 2) (n + 4) → Ext h h' → s.Since vm' k2 → k2 ≤ h'.size → CHr Z EL vm h vm' h' → Exa Z h' a "java/lang/String" → Fld Z h' a "java/lang/String" "coder" "B" (.int 0) → Fld Z h' a "java/lang/String" "value" "[B" (.ref b) → Arv Z h' b kb .byte 0 [] (.int 0) → (∀ x, Safe Z EL vm' h' x → x ≠ a ∧ x ≠ b) → Run p e below n0 Q G m T' pc' ls (.ref a :: st)) (hp : pc + 3 = pc' := by rfl) (hc : k + 2 ≤ R.cells ∧ n + 4 ≤ R.slots := by decide) : Run p e below n0 Q G m T pc ls st := by
  subst hp
  obtain ⟨locs, Y, eT, N, q⟩ := X
  subst eT
  have A := CHw C.2.1 hEL Y.warmed H
  obtain ⟨a, T', Y2, hS', E, hR, hB, f⟩ := ldcw0 Y C.1 C.2.1 C.2.2.2.2.1 (C.w w) (fun d hd => by
    have q := wS d hd
    simp only [stringAtoms, List.mem_cons, List.not_mem_nil, or_false] at hd
    rcases hd with rfl | rfl | rfl | rfl | rfl | rfl | rfl
    · exact mv (s := s.setVm vm) C.2.1 q
    · exact mv (s := s.setVm vm) C.2.1 q
    · exact mvA (s := s.setVm vm) C.2.1 q
    · exact mv (s := s.setVm vm) C.2.1 q
    · exact mv (s := s.setVm vm) C.2.1 q
    · exact mv (s := s.setVm vm) C.2.1 q
    · exact mv (s := s.setVm vm) C.2.1 q) hEL A.1 (g := mkF m pc ls st) rfl (C.d hd) hc.1 hc.2
  have C' := C.since hS'
  obtain ⟨b, kb, f1, f2, f3, f4, q0, hq1, hq2, G0⟩ := slE C'.2.1.alike (hR.1 _ hmem _ _ hB)
  exact Run.step f (r T' _ a b kb T'.vm _ C' ⟨locs, Y2, rfl, N, q⟩ E (hS.trans hS' (Nat.le_trans Nk E.1)) (Nat.le_refl _) (A.trans hR) f1 f2 f3 f4 fun x hx => ⟨fun e => hx ⟨_, hmem, _, _, hB, q0, hq1, G0, Or.inl (e.trans hq1.symm)⟩, fun e => hx ⟨_, hmem, _, _, hB, q0, hq1, G0, Or.inr (e.trans hq2.symm)⟩⟩)
end LW
end LW0
theorem own_ane {Z : State} {h : Heap} {a b : Addr} {k1 k2 : ClassId} {t1 t2 : FieldType} {z1 z2 : Int32} {v1 v2 : List Value} {d1 d2 : Value} (A : Arv Z h a k1 t1 z1 v1 d1) (B : Arv Z h b k2 t2 z2 v2 d2) (q : t1 ≠ t2) : a ≠ b := fun e => by
  subst e
  obtain ⟨c, ⟨a1, ⟨-, k, a3, cm, a4⟩, -⟩, -⟩ := A
  obtain ⟨c', ⟨b1, ⟨-, k', b3, cm', b4⟩, -⟩, -⟩ := B
  cases a1.symm.trans b1
  cases a3.symm.trans b3
  rw [a4] at b4
  injection b4 with _ r
  exact q r
theorem own_aen {Z : State} {h : Heap} {a0 : Array Value} {a b : Addr} {k1 : ClassId} {t1 : FieldType} {z1 : Int32} {v1 : List Value} {d1 : Value} {K : String} {n : Nat} (A : Arv Z h a k1 t1 z1 v1 d1) (E : Exa Z h b K) (w : (Jvm.Cond.instantiable K n).before a0 Z = true) : a ≠ b := fun e => by
  subst e
  obtain ⟨c, ⟨a1, ⟨-, k, a3, cm, a4⟩, -⟩, -⟩ := A
  obtain ⟨c', k', b1, b2, b3, -⟩ := E
  obtain ⟨ci, ki, i1, i2, i3, -⟩ := Cond.instantiable_spec w
  cases a1.symm.trans b1
  cases b2.symm.trans i1
  cases a3.symm.trans i2
  rw [a4] at i3
  cases i3
theorem own_een {Z : State} {h : Heap} {a b : Addr} {K L : String} (E : Exa Z h a K) (F : Exa Z h b L) (q : K ≠ L) : a ≠ b := fun e => by
  subst e
  obtain ⟨c, k, a1, a2, -⟩ := E
  obtain ⟨c', k', b1, b2, -⟩ := F
  cases a1.symm.trans b1
  exact ids_ne a2 b2 q rfl
abbrev Y (xs : List Int32) : List Value := xs.map Value.int
theorem own_getX (xs : List Int32) (i : Nat) : (Y xs).getD i (.int 0) = .int (xs.getD i 0) := by
  rw [List.getD_eq_getElem?_getD, List.getD_eq_getElem?_getD, List.getElem?_map]
  cases xs[i]? <;> rfl
def own_U (x : Int32) : Prop := 0 ≤ x.toInt ∧ x.toInt ≤ 65535
def own_B (x : Int32) : Prop := 0 ≤ x.toInt ∧ x.toInt ≤ 255
def bv (x : Int32) : Int32 := nar .byte x.toInt8.toInt32
def lo (x : Int32) : Int32 := nar .byte (x >>> ((0 : Int32) &&& 31)).toInt8.toInt32
def hi (x : Int32) : Int32 := nar .byte (x >>> ((8 : Int32) &&& 31)).toInt8.toInt32
def get (a b : Int32) : Int32 := (((a &&& (255 : Int32)) <<< ((0 : Int32) &&& 31)) ||| ((b &&& (255 : Int32)) <<< ((8 : Int32) &&& 31))).toUInt32.toUInt16.toUInt32.toInt32
theorem own_U2c {x : Int32} (h : own_U x) : x.toUInt32.toUInt16.toUInt32.toInt32 = x := by
  obtain ⟨h1, h2⟩ := h
  have c := c_i2c x
  exact Int32.toInt_inj.mp (by omega)
theorem own_nU {x : Int32} (h : own_U x) : nar .char x = x := own_U2c h
theorem own_i2U (x : Int32) : own_U x.toUInt32.toUInt16.toUInt32.toInt32 := by
  have c := c_i2c x
  exact ⟨c.2.1, by omega⟩
theorem own_BU {x : Int32} (h : own_B x) : own_U x := ⟨h.1, by have := h.2; omega⟩
theorem own_sh0 (x : Int32) : x >>> ((0 : Int32) &&& 31) = x := by
  have e : ((0 : Int32) &&& 31) = 0 := by decide
  rw [e]
  show Int32.ofBitVec (x.toBitVec.sshiftRight (((0 : Int32).toBitVec.smod 32)).toNat) = x
  have e2 : ((0 : Int32).toBitVec.smod 32).toNat = 0 := by decide
  rw [e2, BitVec.sshiftRight_zero]; rfl
theorem own_sh8 (x : Int32) : (x >>> ((8 : Int32) &&& 31)).toInt = x.toInt / 256 := by
  have e : ((8 : Int32) &&& 31) = 8 := by decide
  rw [e]
  show (x.toBitVec.sshiftRight (((8 : Int32).toBitVec.smod 32)).toNat).toInt = _
  have e2 : ((8 : Int32).toBitVec.smod 32).toNat = 8 := by decide
  rw [e2, BitVec.toInt_sshiftRight]
  simp [Int.shiftRight_eq_div_pow]
theorem own_bvc {x : Int32} (h : own_B x) : bv x &&& (255 : Int32) = x := by
  have e : bv x = x.toInt8.toInt32 := by simp [bv, nar]
  have a := c_i2b x
  have m := c_mask (bv x) 255 8 (by decide) (by decide)
  have e8 : (((2 ^ 8 : Nat) : Int)) = 256 := by decide
  rw [e8] at m
  apply Int32.toInt_inj.mp
  rw [m, e]
  obtain ⟨_, _⟩ := h
  omega
theorem own_get {x : Int32} (h : own_U x) : get (lo x) (hi x) = x := by
  obtain ⟨h1, h2⟩ := h
  have el : lo x = x.toInt8.toInt32 := by unfold lo; rw [own_sh0]; simp [nar]
  have eh : hi x = (x >>> ((8 : Int32) &&& 31)).toInt8.toInt32 := by simp [hi, nar]
  have s8 := own_sh8 x
  have e8 : (((2 ^ 8 : Nat) : Int)) = 256 := by decide
  have a := c_i2b x
  have b := c_i2b (x >>> ((8 : Int32) &&& 31))
  have ml := c_mask (lo x) 255 8 (by decide) (by decide)
  have mh := c_mask (hi x) 255 8 (by decide) (by decide)
  rw [e8] at ml mh
  have vl : (lo x &&& (255 : Int32)).toInt = x.toInt % 256 := by rw [ml, el]; omega
  have vh : (hi x &&& (255 : Int32)).toInt = x.toInt / 256 := by rw [mh, eh]; omega
  have sl : (lo x &&& (255 : Int32)) <<< ((0 : Int32) &&& 31) = lo x &&& (255 : Int32) := by
    have e : ((0 : Int32) &&& 31) = 0 := by decide
    rw [e]
    show Int32.ofBitVec ((lo x &&& (255 : Int32)).toBitVec <<< (((0 : Int32).toBitVec.smod 32)).toNat) = _
    have e2 : ((0 : Int32).toBitVec.smod 32).toNat = 0 := by decide
    rw [e2, BitVec.shiftLeft_zero]; rfl
  have sh : ((hi x &&& (255 : Int32)) <<< ((8 : Int32) &&& 31)).toInt = x.toInt / 256 * 256 := by
    have c := c_ishl (hi x &&& (255 : Int32)) 8 8 (by decide)
    rw [e8] at c
    have r := rng32 ((hi x &&& (255 : Int32)) <<< ((8 : Int32) &&& 31))
    omega
  unfold get
  rw [sl]
  have o := c_or' (lo x &&& (255 : Int32)) ((hi x &&& (255 : Int32)) <<< ((8 : Int32) &&& 31)) 8 (by decide) 256 (by decide) (by rw [sh]; omega) (by omega) (by omega)
  have r := rng32 ((lo x &&& (255 : Int32)) ||| ((hi x &&& (255 : Int32)) <<< ((8 : Int32) &&& 31)))
  have v : ((lo x &&& (255 : Int32)) ||| ((hi x &&& (255 : Int32)) <<< ((8 : Int32) &&& 31))) = x := Int32.toInt_inj.mp (by omega)
  rw [v]
  exact own_U2c ⟨h1, h2⟩
/-- what a String's fields say of her chars -/
def own_T (xs : List Int32) (k z : Int32) (zs : List Int32) : Prop :=
  xs.length ≤ 4 ∧ (∀ i, i < xs.length → own_U (xs.getD i 0)) ∧ ((k = 0 ∧ z.toInt = xs.length ∧ ∀ i, i < xs.length → own_B (xs.getD i 0) ∧ zs.getD i 0 = bv (xs.getD i 0)) ∨ (k = 1 ∧ z.toInt = 2 * xs.length ∧ ∀ i, i < xs.length → zs.getD (2 * i) 0 = lo (xs.getD i 0) ∧ zs.getD (2 * i + 1) 0 = hi (xs.getD i 0)))
theorem own_tn {t : Int32} {k : Nat} (h : t.toInt = k) : t.toNatClampNeg = k := by
  show t.toInt.toNat = k
  rw [h]; rfl
theorem own_shk (x k : Int32) (j : Nat) (hj : (k &&& 31).toBitVec.smod 32 = BitVec.ofNat 32 j) (hl : j < 32) : (x >>> (k &&& 31)).toInt = x.toInt / (2 ^ j : Nat) := by
  show (x.toBitVec.sshiftRight (((k &&& 31).toBitVec.smod 32)).toNat).toInt = _
  rw [hj, BitVec.toInt_sshiftRight]
  have e : (BitVec.ofNat 32 j).toNat = j := by simp; omega
  rw [e]
  simp [Int.shiftRight_eq_div_pow]
theorem own_lenT {xs zs : List Int32} {k z : Int32} (h : own_T xs k z zs) : (z >>> (k &&& 31)).toInt = xs.length := by
  obtain ⟨h1, -, ⟨rfl, h2, -⟩ | ⟨rfl, h2, -⟩⟩ := h
  · rw [own_shk z 0 0 (by decide) (by decide), h2]; simp
  · rw [own_shk z 1 1 (by decide) (by decide), h2]
    have e : ((2 ^ 1 : Nat) : Int) = 2 := by decide
    rw [e]; omega
theorem own_caL {xs zs : List Int32} {z : Int32} {i : Nat} (h : own_T xs 0 z zs) (hi : i < xs.length) : zs.getD i 0 &&& (255 : Int32) = xs.getD i 0 := by
  obtain ⟨-, -, ⟨-, -, h3⟩ | ⟨q, -⟩⟩ := h
  · rw [(h3 i hi).2, own_bvc (h3 i hi).1]
  · exact absurd q (by decide)
theorem own_caU {xs zs : List Int32} {k z : Int32} {i : Nat} (h : own_T xs k z zs) (hk : ¬ k = 0) (hi : i < xs.length) : get (zs.getD (2 * i) 0) (zs.getD (2 * i + 1) 0) = xs.getD i 0 := by
  obtain ⟨-, hu, ⟨q, -⟩ | ⟨-, -, h3⟩⟩ := h
  · exact absurd q hk
  · rw [(h3 i hi).1, (h3 i hi).2, own_get (hu i hi)]
def tab : List Int32 := [9, 10, 11, 12, 13, 32, 133, 160, 5760, 8192, 8193, 8194, 8195, 8196, 8197, 8198, 8199, 8200, 8201, 8202, 8232, 8233, 8239, 8287, 12288, 65279, 0, 8, 14, 28, 31, 33, 97, 132, 134, 159, 161, 5759, 5761, 6158, 8191, 8203, 8231, 8234, 8238, 8240, 8286, 8288, 12287, 12289, 65278, 65280]
theorem own_tabU (j : Nat) : own_U (tab.getD j 0) := by
  have q : ∀ x ∈ tab, own_U x := by unfold own_U; decide
  rw [List.getD_eq_getElem?_getD]
  by_cases h : j < tab.length
  · rw [List.getElem?_eq_getElem h]; exact q _ (List.getElem_mem h)
  · rw [List.getElem?_eq_none (by omega)]; exact ⟨by decide, by decide⟩
theorem own_i52 (x : Int32) : ¬ ((x &&& (32767 : Int32)) % (52 : Int32)) < 0 ∧ ((x &&& (32767 : Int32)) % (52 : Int32)) < 52 := by
  have h := c_and x 32767 (by decide)
  have k0 : (0 : Int32).toInt = 0 := by decide
  have k3 : (52 : Int32).toInt = 52 := by decide
  have q := (c_iremV (x &&& (32767 : Int32)) 52).1 h.1 (by decide)
  rw [Int32.lt_iff_toInt_lt, Int32.lt_iff_toInt_lt]
  omega
def own_N (n : Int32) : Prop := 0 ≤ n.toInt ∧ n.toInt ≤ 4
theorem own_n (x : Int32) : own_N ((x &&& (2147483647 : Int32)) % (5 : Int32)) := by
  have h := c_and x 2147483647 (by decide)
  have k3 : (5 : Int32).toInt = 5 := by decide
  have q := (c_iremV (x &&& (2147483647 : Int32)) 5).1 h.1 (by decide)
  unfold own_N
  omega
def own_A (cs : List Int32) : Prop := ∀ x ∈ cs, own_B x
theorem own_BB {x : Int32} (h : own_U x) (q : ¬ (255 : Int32) < x) : own_B x := ⟨h.1, by
  have k : (255 : Int32).toInt = 255 := by decide
  have := mt Int32.lt_iff_toInt_lt.mpr q
  omega⟩
theorem own_tL0   : own_T [] 0 0 [] := ⟨by simp, fun i hi => by
    simp only [List.length_cons, List.length_nil] at hi
    omega, Or.inl ⟨rfl, (show (0 : Int32).toInt = ((0 : Nat) : Int) from by decide), fun i hi => by
    simp only [List.length_cons, List.length_nil] at hi
    omega⟩⟩
theorem own_tL1 {c0 : Int32} (u0 : own_U c0) (h0 : own_B c0) : own_T [c0] 0 1 [bv c0] := ⟨by simp, fun i hi => by
    simp only [List.length_cons, List.length_nil] at hi
    have : i = 0 := by omega
    rcases this with rfl
    · exact u0, Or.inl ⟨rfl, (show (1 : Int32).toInt = ((1 : Nat) : Int) from by decide), fun i hi => by
    simp only [List.length_cons, List.length_nil] at hi
    have : i = 0 := by omega
    rcases this with rfl
    · exact ⟨h0, rfl⟩⟩⟩
theorem own_tU1 {c0 : Int32} (u0 : own_U c0) : own_T [c0] 1 2 [lo c0, hi c0] := ⟨by simp, fun i hi => by
    simp only [List.length_cons, List.length_nil] at hi
    have : i = 0 := by omega
    rcases this with rfl
    · exact u0, Or.inr ⟨rfl, (show (2 : Int32).toInt = 2 * ((1 : Nat) : Int) from by decide), fun i hi => by
    simp only [List.length_cons, List.length_nil] at hi
    have : i = 0 := by omega
    rcases this with rfl <;> exact ⟨rfl, rfl⟩⟩⟩
theorem own_tL2 {c0 c1 : Int32} (u0 : own_U c0) (u1 : own_U c1) (h0 : own_B c0) (h1 : own_B c1) : own_T [c0, c1] 0 2 [bv c0, bv c1] := ⟨by simp, fun i hi => by
    simp only [List.length_cons, List.length_nil] at hi
    have : i = 0 ∨ i = 1 := by omega
    rcases this with rfl | rfl
    · exact u0
    · exact u1, Or.inl ⟨rfl, (show (2 : Int32).toInt = ((2 : Nat) : Int) from by decide), fun i hi => by
    simp only [List.length_cons, List.length_nil] at hi
    have : i = 0 ∨ i = 1 := by omega
    rcases this with rfl | rfl
    · exact ⟨h0, rfl⟩
    · exact ⟨h1, rfl⟩⟩⟩
theorem own_tU2 {c0 c1 : Int32} (u0 : own_U c0) (u1 : own_U c1) : own_T [c0, c1] 1 4 [lo c0, hi c0, lo c1, hi c1] := ⟨by simp, fun i hi => by
    simp only [List.length_cons, List.length_nil] at hi
    have : i = 0 ∨ i = 1 := by omega
    rcases this with rfl | rfl
    · exact u0
    · exact u1, Or.inr ⟨rfl, (show (4 : Int32).toInt = 2 * ((2 : Nat) : Int) from by decide), fun i hi => by
    simp only [List.length_cons, List.length_nil] at hi
    have : i = 0 ∨ i = 1 := by omega
    rcases this with rfl | rfl <;> exact ⟨rfl, rfl⟩⟩⟩
theorem own_tL3 {c0 c1 c2 : Int32} (u0 : own_U c0) (u1 : own_U c1) (u2 : own_U c2) (h0 : own_B c0) (h1 : own_B c1) (h2 : own_B c2) : own_T [c0, c1, c2] 0 3 [bv c0, bv c1, bv c2] := ⟨by simp, fun i hi => by
    simp only [List.length_cons, List.length_nil] at hi
    have : i = 0 ∨ i = 1 ∨ i = 2 := by omega
    rcases this with rfl | rfl | rfl
    · exact u0
    · exact u1
    · exact u2, Or.inl ⟨rfl, (show (3 : Int32).toInt = ((3 : Nat) : Int) from by decide), fun i hi => by
    simp only [List.length_cons, List.length_nil] at hi
    have : i = 0 ∨ i = 1 ∨ i = 2 := by omega
    rcases this with rfl | rfl | rfl
    · exact ⟨h0, rfl⟩
    · exact ⟨h1, rfl⟩
    · exact ⟨h2, rfl⟩⟩⟩
theorem own_tU3 {c0 c1 c2 : Int32} (u0 : own_U c0) (u1 : own_U c1) (u2 : own_U c2) : own_T [c0, c1, c2] 1 6 [lo c0, hi c0, lo c1, hi c1, lo c2, hi c2] := ⟨by simp, fun i hi => by
    simp only [List.length_cons, List.length_nil] at hi
    have : i = 0 ∨ i = 1 ∨ i = 2 := by omega
    rcases this with rfl | rfl | rfl
    · exact u0
    · exact u1
    · exact u2, Or.inr ⟨rfl, (show (6 : Int32).toInt = 2 * ((3 : Nat) : Int) from by decide), fun i hi => by
    simp only [List.length_cons, List.length_nil] at hi
    have : i = 0 ∨ i = 1 ∨ i = 2 := by omega
    rcases this with rfl | rfl | rfl <;> exact ⟨rfl, rfl⟩⟩⟩
theorem own_tL4 {c0 c1 c2 c3 : Int32} (u0 : own_U c0) (u1 : own_U c1) (u2 : own_U c2) (u3 : own_U c3) (h0 : own_B c0) (h1 : own_B c1) (h2 : own_B c2) (h3 : own_B c3) : own_T [c0, c1, c2, c3] 0 4 [bv c0, bv c1, bv c2, bv c3] := ⟨by simp, fun i hi => by
    simp only [List.length_cons, List.length_nil] at hi
    have : i = 0 ∨ i = 1 ∨ i = 2 ∨ i = 3 := by omega
    rcases this with rfl | rfl | rfl | rfl
    · exact u0
    · exact u1
    · exact u2
    · exact u3, Or.inl ⟨rfl, (show (4 : Int32).toInt = ((4 : Nat) : Int) from by decide), fun i hi => by
    simp only [List.length_cons, List.length_nil] at hi
    have : i = 0 ∨ i = 1 ∨ i = 2 ∨ i = 3 := by omega
    rcases this with rfl | rfl | rfl | rfl
    · exact ⟨h0, rfl⟩
    · exact ⟨h1, rfl⟩
    · exact ⟨h2, rfl⟩
    · exact ⟨h3, rfl⟩⟩⟩
theorem own_tU4 {c0 c1 c2 c3 : Int32} (u0 : own_U c0) (u1 : own_U c1) (u2 : own_U c2) (u3 : own_U c3) : own_T [c0, c1, c2, c3] 1 8 [lo c0, hi c0, lo c1, hi c1, lo c2, hi c2, lo c3, hi c3] := ⟨by simp, fun i hi => by
    simp only [List.length_cons, List.length_nil] at hi
    have : i = 0 ∨ i = 1 ∨ i = 2 ∨ i = 3 := by omega
    rcases this with rfl | rfl | rfl | rfl
    · exact u0
    · exact u1
    · exact u2
    · exact u3, Or.inr ⟨rfl, (show (8 : Int32).toInt = 2 * ((4 : Nat) : Int) from by decide), fun i hi => by
    simp only [List.length_cons, List.length_nil] at hi
    have : i = 0 ∨ i = 1 ∨ i = 2 ∨ i = 3 := by omega
    rcases this with rfl | rfl | rfl | rfl <;> exact ⟨rfl, rfl⟩⟩⟩
def own_ix (xs : List Int32) (ix : Int32) : Prop := 0 ≤ ix.toInt ∧ ix.toInt < xs.length
theorem own_ixn {xs : List Int32} {ix : Int32} (h : own_ix xs ix) : ((ix.toNatClampNeg : Nat) : Int) = ix.toInt ∧ ix.toNatClampNeg < xs.length := by
  have e : ((ix.toNatClampNeg : Nat) : Int) = ix.toInt := Int.toNat_of_nonneg h.1
  exact ⟨e, by have := h.2; omega⟩
theorem own_x0 {xs : List Int32} {x : Int32} (h : own_ix xs x) : ¬ x < (0 : Int32) := fun q => by
  have := Int32.lt_iff_toInt_lt.mp q
  have k : (0 : Int32).toInt = 0 := by decide
  have := h.1
  omega
theorem own_Ux {xs zs : List Int32} {k z ix : Int32} (h : own_T xs k z zs) (hx : own_ix xs ix) : own_U (xs.getD ix.toNatClampNeg 0) := h.2.1 _ (own_ixn hx).2
theorem own_ltL {xs zs : List Int32} {k z ix : Int32} (h : own_T xs k z zs) (hk : k = 0) (hx : own_ix xs ix) : ix < z := by
  subst hk
  obtain ⟨-, -, ⟨-, h2, -⟩ | ⟨q, -⟩⟩ := h
  · exact Int32.lt_iff_toInt_lt.mpr (by have := hx.2; omega)
  · exact absurd q (by decide)
theorem own_caL' {xs zs : List Int32} {k z ix : Int32} (h : own_T xs k z zs) (hk : k = 0) (hx : own_ix xs ix) : zs.getD ix.toNatClampNeg 0 &&& (255 : Int32) = xs.getD ix.toNatClampNeg 0 := own_caL (hk ▸ h) (own_ixn hx).2
theorem own_ltU {xs zs : List Int32} {k z ix : Int32} (h : own_T xs k z zs) (hk : ¬ k = 0) (hx : own_ix xs ix) : ix < z >>> ((1 : Int32) &&& 31) := by
  obtain ⟨-, -, ⟨q, -⟩ | ⟨-, h2, -⟩⟩ := h
  · exact absurd q hk
  · have e : ((2 ^ 1 : Nat) : Int) = 2 := by decide
    exact Int32.lt_iff_toInt_lt.mpr (by rw [own_shk z 1 1 (by decide) (by decide), e]; have := hx.2; omega)
def own_j (ix jx : Int32) : Prop := jx.toInt = 2 * ix.toInt
theorem own_jx {xs zs : List Int32} {k z ix : Int32} (h : own_T xs k z zs) (hx : own_ix xs ix) : own_j ix (ix <<< ((1 : Int32) &&& 31)) := by
  have c := c_ishl ix 1 1 (by decide)
  have e : ((2 ^ 1 : Nat) : Int) = 2 := by decide
  rw [e] at c
  have r := rng32 (ix <<< ((1 : Int32) &&& 31))
  obtain ⟨x1, x2⟩ := hx
  have := h.1
  unfold own_j
  omega
theorem own_jb {xs zs : List Int32} {k z ix jx : Int32} (h : own_T xs k z zs) (hk : ¬ k = 0) (hx : own_ix xs ix) (hj : own_j ix jx) : (¬ jx < 0 ∧ jx < z) ∧ (¬ jx + (1 : Int32) < 0 ∧ jx + (1 : Int32) < z) := by
  obtain ⟨h4, -, ⟨q, -⟩ | ⟨-, h2, -⟩⟩ := h
  · exact absurd q hk
  · have k0 : (0 : Int32).toInt = 0 := by decide
    have k1 : (1 : Int32).toInt = 1 := by decide
    have c := c_iadd jx 1
    have r := rng32 (jx + (1 : Int32))
    obtain ⟨x1, x2⟩ := hx
    unfold own_j at hj
    simp only [Int32.lt_iff_toInt_lt]
    omega
theorem own_caU' {xs zs : List Int32} {k z ix jx : Int32} (h : own_T xs k z zs) (hk : ¬ k = 0) (hx : own_ix xs ix) (hj : own_j ix jx) : get (zs.getD jx.toNatClampNeg 0) (zs.getD (jx + (1 : Int32)).toNatClampNeg 0) = xs.getD ix.toNatClampNeg 0 := by
  obtain ⟨e1, e2⟩ := own_ixn hx
  have k1 : (1 : Int32).toInt = 1 := by decide
  have c := c_iadd jx 1
  have r := rng32 (jx + (1 : Int32))
  have h4 := h.1
  have hx' := hx
  obtain ⟨x1, x2⟩ := hx'
  unfold own_j at hj
  rw [own_tn (t := jx) (k := 2 * ix.toNatClampNeg) (by omega), own_tn (t := jx + (1 : Int32)) (k := 2 * ix.toNatClampNeg + 1) (by omega)]
  exact own_caU h hk e2
theorem own_lenN {xs zs : List Int32} {k z L : Int32} {n : Nat} (h : own_T xs k z zs) (hn : xs.length = n) (hL : L.toInt = n) : z >>> (k &&& 31) = L := Int32.toInt_inj.mp ((own_lenT h).trans (by rw [hn, hL]))
theorem own_k0 {k : Int32} (h : k.toInt = (0 : Int)) : k = 0 := Int32.toInt_inj.mp h
theorem own_kn {k : Int32} (h : ¬ (k.toInt = (0 : Int))) : ¬ k = 0 := fun q => h (by rw [q]; rfl)
theorem own_nk {xs zs : List Int32} {k z : Int32} (h : own_T xs k z zs) : nar .byte k = k := by
  obtain ⟨-, -, ⟨rfl, -⟩ | ⟨rfl, -⟩⟩ := h <;> decide
def blankP (z : Int) : Prop := (9 ≤ z ∧ z ≤ 13) ∨ z = 32 ∨ z = 133 ∨ z = 160 ∨ z = 5760 ∨ (8192 ≤ z ∧ z ≤ 8202) ∨ z = 8232 ∨ z = 8233 ∨ z = 8239 ∨ z = 8287 ∨ z = 12288 ∨ z = 65279
def sl (xs : List Int32) (s n : Nat) : List Int32 := (List.range n).map fun i => xs.getD (s + i) 0
theorem sl_len (xs : List Int32) (s n : Nat) : (sl xs s n).length = n := by simp [sl]
theorem sl_get {xs : List Int32} {s n i : Nat} (h : i < n) : (sl xs s n).getD i 0 = xs.getD (s + i) 0 := by
  rw [List.getD_eq_getElem?_getD, sl, List.getElem?_map, List.getElem?_range h]; rfl
theorem sl_all {xs : List Int32} {n : Nat} (h : xs.length = n) : sl xs 0 n = xs := by
  apply List.ext_getElem
  · rw [sl_len, h]
  · intro i h1 h2
    simp [sl, List.getD_eq_getElem?_getD, List.getElem?_eq_getElem h2]
/-- the bounds of a part -/
def own_se (xs : List Int32) (s e : Int32) : Prop := 0 ≤ s.toInt ∧ s.toInt ≤ e.toInt ∧ e.toInt ≤ xs.length
/-- start and length of a part that isn't the whole -/
def own_sl (xs : List Int32) (s l : Int32) : Prop := 0 ≤ s.toInt ∧ 0 ≤ l.toInt ∧ s.toInt + l.toInt ≤ xs.length ∧ ¬ (s.toInt = 0 ∧ l.toInt = xs.length)
theorem own_nn {x : Int32} (h : 0 ≤ x.toInt) : ((x.toNatClampNeg : Nat) : Int) = x.toInt := Int.toNat_of_nonneg h
theorem own_tE {xs : List Int32} {s l : Int32} (h : l.toInt = 0) : own_T (sl xs s.toNatClampNeg l.toNatClampNeg) 0 0 [] := by
  have e : l.toNatClampNeg = 0 := own_tn (k := 0) h
  rw [e]
  exact ⟨by simp [sl], fun i hi => by simp [sl] at hi, Or.inl ⟨rfl, by simp [sl], fun i hi => by simp [sl] at hi⟩⟩
/-- the whole -/
theorem own_tW {xs zs : List Int32} {k z s l : Int32} (h : own_T xs k z zs) (hs : s.toInt = 0) (hl : l.toInt = xs.length) : own_T (sl xs s.toNatClampNeg l.toNatClampNeg) k z zs := by
  rw [own_tn (t := s) (k := 0) hs, own_tn hl, sl_all rfl]; exact h
/-- a part, Latin-1 -/
theorem own_tP {xs zs ws : List Int32} {k z s l d : Int32} (h : own_T xs k z zs) (hk : k = 0) (hb : own_sl xs s l) (hd : d.toInt = l.toInt) (hw : ∀ i : Nat, (i : Int) < d.toInt → ws.getD i 0 = zs.getD (s.toNatClampNeg + i) 0) : own_T (sl xs s.toNatClampNeg l.toNatClampNeg) 0 d ws := by
  subst hk
  obtain ⟨h1, h2, ⟨-, h3, h4⟩ | ⟨q, -⟩⟩ := h
  · obtain ⟨b1, b2, b3, -⟩ := hb
    have es := own_nn b1
    have el := own_nn b2
    refine ⟨by rw [sl_len]; omega, fun i hi => ?_, Or.inl ⟨rfl, by rw [sl_len]; omega, fun i hi => ?_⟩⟩
    · rw [sl_len] at hi; rw [sl_get hi]; exact h2 _ (by omega)
    · rw [sl_len] at hi; rw [sl_get hi]; exact ⟨(h4 _ (by omega)).1, by rw [hw i (by omega), (h4 _ (by omega)).2]⟩
  · exact absurd q (by decide)
/-- a part, UTF-16 kept -/
theorem own_tQ {xs zs ws : List Int32} {k z s l f d : Int32} (h : own_T xs k z zs) (hk : ¬ k = 0) (hb : own_sl xs s l) (hf : f.toInt = 2 * s.toInt) (hd : d.toInt = 2 * l.toInt) (hw : ∀ i : Nat, (i : Int) < d.toInt → ws.getD i 0 = zs.getD (f.toNatClampNeg + i) 0) : own_T (sl xs s.toNatClampNeg l.toNatClampNeg) 1 d ws := by
  obtain ⟨h1, h2, ⟨q, -⟩ | ⟨-, h3, h4⟩⟩ := h
  · exact absurd q hk
  · obtain ⟨b1, b2, b3, -⟩ := hb
    have es := own_nn b1
    have el := own_nn b2
    have ef := own_nn (x := f) (by omega)
    refine ⟨by rw [sl_len]; omega, fun i hi => ?_, Or.inr ⟨rfl, by rw [sl_len]; omega, fun i hi => ?_⟩⟩
    · rw [sl_len] at hi; rw [sl_get hi]; exact h2 _ (by omega)
    · rw [sl_len] at hi; rw [sl_get hi]
      have q := h4 (s.toNatClampNeg + i) (by omega)
      rw [hw (2 * i) (by omega), hw (2 * i + 1) (by omega), ← q.1, ← q.2]
      exact ⟨congrArg (fun j => zs.getD j 0) (by omega), congrArg (fun j => zs.getD j 0) (by omega)⟩
/-- a part, compressed -/
theorem own_tR {xs zs ws : List Int32} {k z s l : Int32} (h : own_T xs k z zs) (hb : own_sl xs s l) (hw : ∀ i : Nat, (i : Int) < l.toInt → own_B (xs.getD (s.toNatClampNeg + i) 0) ∧ ws.getD i 0 = bv (xs.getD (s.toNatClampNeg + i) 0)) : own_T (sl xs s.toNatClampNeg l.toNatClampNeg) 0 l ws := by
  obtain ⟨h1, h2, -⟩ := h
  obtain ⟨b1, b2, b3, -⟩ := hb
  have es := own_nn b1
  have el := own_nn b2
  refine ⟨by rw [sl_len]; omega, fun i hi => ?_, Or.inl ⟨rfl, by rw [sl_len]; omega, fun i hi => ?_⟩⟩
  · rw [sl_len] at hi; rw [sl_get hi]; exact h2 _ (by omega)
  · rw [sl_len] at hi; rw [sl_get hi]; exact hw i (by omega)
/-- a copy's bounds in an array of length z -/
def own_cr (z f t : Int32) : Prop := 0 ≤ f.toInt ∧ f.toInt ≤ t.toInt ∧ t.toInt ≤ z.toInt ∧ t.toInt ≤ 8 ∧ ¬ (f.toInt = 0 ∧ t.toInt = z.toInt)
theorem own_crd {z f t : Int32} (h : own_cr z f t) : (t - f).toInt = t.toInt - f.toInt ∧ 0 ≤ (t - f).toInt ∧ (t - f).toInt ≤ 8 := by
  obtain ⟨h1, h2, h3, h4, h5⟩ := h
  have c := c_isub t f
  have r := rng32 (t - f)
  omega
def own_d (z f t d : Int32) : Prop := own_cr z f t ∧ d.toInt = t.toInt - f.toInt
theorem own_dc {z f t d : Int32} (h : own_d z f t d) : ¬ d < 0 ∧ d.toNatClampNeg ≤ 8 := by
  obtain ⟨⟨h1, h2, h3, h4, h5⟩, hd⟩ := h
  have k0 : (0 : Int32).toInt = 0 := by decide
  refine ⟨fun q => ?_, ?_⟩
  · have := Int32.lt_iff_toInt_lt.mp q; omega
  · have := own_nn (x := d) (by omega); omega
theorem own_cpw {z f t d : Int32} {zs : List Int32} (h : own_d z f t d) : ([.int 0, .int 0, .int 0, .int 0, .int 0, .int 0, .int 0, .int 0] : List Value).take (0 : Int32).toNatClampNeg ++ ((List.range d.toNatClampNeg).map fun i => (Y zs).getD (f.toNatClampNeg + i) (.int 0)) ++ ([.int 0, .int 0, .int 0, .int 0, .int 0, .int 0, .int 0, .int 0] : List Value).drop ((0 : Int32).toNatClampNeg + d.toNatClampNeg) = Y (sl zs f.toNatClampNeg d.toNatClampNeg ++ List.replicate (8 - d.toNatClampNeg) 0) := by
  have e0 : (0 : Int32).toNatClampNeg = 0 := by decide
  have er : ([.int 0, .int 0, .int 0, .int 0, .int 0, .int 0, .int 0, .int 0] : List Value) = List.replicate 8 (.int 0) := rfl
  rw [e0, er, List.drop_replicate]
  simp [Y, sl, own_getX, List.map_map]
theorem own_cpg {z f t d : Int32} {zs : List Int32} (h : own_d z f t d) : ∀ i : Nat, (i : Int) < d.toInt → (sl zs f.toNatClampNeg d.toNatClampNeg ++ List.replicate (8 - d.toNatClampNeg) 0).getD i 0 = zs.getD (f.toNatClampNeg + i) 0 := fun i hi => by
  have hd := h.2
  obtain ⟨h1, h2, -⟩ := h.1
  have e := own_nn (x := d) (by omega)
  have hl : i < d.toNatClampNeg := by omega
  rw [List.getD_eq_getElem?_getD, List.getElem?_append_left (by rw [sl_len]; exact hl), ← List.getD_eq_getElem?_getD, sl_get hl]
theorem own_s0 {xs : List Int32} {s e : Int32} (h : own_se xs s e) : ¬ s < (0 : Int32) := fun q => by
  have := Int32.lt_iff_toInt_lt.mp q
  have k : (0 : Int32).toInt = 0 := by decide
  have := h.1
  omega
theorem own_s1 {xs : List Int32} {s e : Int32} (h : own_se xs s e) : ¬ e < s := fun q => by
  have := Int32.lt_iff_toInt_lt.mp q
  have := h.2.1
  omega
theorem own_s2 {xs : List Int32} {s e n : Int32} (h : own_se xs s e) (hn : n.toInt = xs.length) : ¬ n < e := fun q => by
  have := Int32.lt_iff_toInt_lt.mp q
  have := h.2.2
  omega
theorem own_slN {xs : List Int32} {s e l : Int32} (h : own_se xs s e) (h4 : xs.length ≤ 4) (hl : l = e - s) (hn : ¬ (s.toInt = 0 ∧ e.toInt = xs.length)) : own_sl xs s l := by
  obtain ⟨h1, h2, h3⟩ := h
  have c := c_isub e s
  have r := rng32 (e - s)
  subst hl
  exact ⟨h1, by omega, by omega, fun q => hn ⟨q.1, by omega⟩⟩
theorem own_slE {xs : List Int32} {s e l : Int32} (h : own_se xs s e) (h4 : xs.length ≤ 4) (hl : l = e - s) : l.toInt = e.toInt - s.toInt := by
  obtain ⟨h1, h2, h3⟩ := h
  have c := c_isub e s
  have r := rng32 (e - s)
  subst hl; omega
theorem own_crL {xs zs : List Int32} {k z s l t : Int32} (h : own_T xs k z zs) (hk : k = 0) (hb : own_sl xs s l) (e : t = s + l) : own_cr z s t ∧ t.toInt = s.toInt + l.toInt := by
  subst hk
  obtain ⟨h1, -, ⟨-, h3, -⟩ | ⟨q, -⟩⟩ := h
  · obtain ⟨b1, b2, b3, b4⟩ := hb
    have c := c_iadd s l
    have r := rng32 (s + l)
    subst e
    exact ⟨⟨b1, by omega, by omega, by omega, fun q => b4 ⟨q.1, by omega⟩⟩, by omega⟩
  · exact absurd q (by decide)
theorem own_crn {z f t : Int32} (h : own_cr z f t) (hf : f = 0) : ¬ t = z := fun q => by
  subst hf q
  exact h.2.2.2.2 ⟨by decide, rfl⟩
theorem own_crg {z f t : Int32} (h : own_cr z f t) : ¬ t < f := fun q => by
  have := Int32.lt_iff_toInt_lt.mp q
  have := h.2.1
  omega
theorem own_mn {z f t d : Int32} (h : own_d z f t d) (c : ¬ d < z - f) : z - f = d := by
  obtain ⟨⟨h1, h2, h3, h4, h5⟩, hd⟩ := h
  have q := mt Int32.lt_iff_toInt_lt.mpr c
  have a := c_isub z f
  have r := rng32 (z - f)
  have r2 := rng32 z
  exact Int32.toInt_inj.mp (by omega)
def own_w (zs : List Int32) (f d : Int32) (ws : List Int32) : Prop := ∀ i : Nat, (i : Int) < d.toInt → ws.getD i 0 = zs.getD (f.toNatClampNeg + i) 0
theorem own_c1 {z f t d : Int32} (h : own_d z f t d) : ¬ f < 0 := fun q => by
  have := Int32.lt_iff_toInt_lt.mp q
  have k : (0 : Int32).toInt = 0 := by decide
  have := h.1.1
  omega
theorem own_c4 {z f t d : Int32} (h : own_d z f t d) : f.toNatClampNeg + d.toNatClampNeg ≤ z.toNatClampNeg := by
  obtain ⟨⟨h1, h2, h3, h4, h5⟩, hd⟩ := h
  have a := own_nn h1
  have b := own_nn (x := d) (by omega)
  have c := own_nn (x := z) (by omega)
  omega
theorem own_c5 {d : Int32} : (0 : Int32).toNatClampNeg + d.toNatClampNeg ≤ d.toNatClampNeg := by
  have e : (0 : Int32).toNatClampNeg = 0 := by decide
  omega
theorem own_c8 {z f t d : Int32} (h : own_d z f t d) : (0 : Int32).toNatClampNeg + d.toNatClampNeg ≤ 8 := by
  have e : (0 : Int32).toNatClampNeg = 0 := by decide
  have := (own_dc h).2
  omega
def own_S (xs : List Int32) (s e : Int32) : Prop := own_se xs s e ∧ (∀ i : Nat, (i : Int) < s.toInt → blankP (xs.getD i 0).toInt) ∧ (∀ i : Nat, e.toInt ≤ i → i < xs.length → blankP (xs.getD i 0).toInt) ∧ ((s.toInt < xs.length ∧ s.toInt < e.toInt ∧ ¬ blankP (xs.getD s.toNatClampNeg 0).toInt ∧ ¬ blankP (xs.getD (e.toInt.toNat - 1) 0).toInt) ∨ (s.toInt = xs.length ∧ e.toInt = xs.length))
theorem own_lc {xs zs : List Int32} {k z s l : Int32} (h : own_T xs k z zs) (hb : own_sl xs s l) : ¬ l < 0 ∧ l.toNatClampNeg ≤ 4 := by
  obtain ⟨b1, b2, b3, b4⟩ := hb
  have h4 := h.1
  have e := own_nn b2
  refine ⟨fun q => ?_, by omega⟩
  have := Int32.lt_iff_toInt_lt.mp q
  have k0 : (0 : Int32).toInt = 0 := by decide
  omega
theorem own_l4 {xs zs : List Int32} {k z s l : Int32} (h : own_T xs k z zs) (hb : own_sl xs s l) : ¬ (4 : Int32) < l := fun q => by
  have := Int32.lt_iff_toInt_lt.mp q
  have k4 : (4 : Int32).toInt = 4 := by decide
  have := h.1
  obtain ⟨b1, b2, b3, b4⟩ := hb
  omega
def own_zb (xs : List Int32) (s l : Int32) (ws : List Int32) : Prop := ∀ i : Nat, (i : Int) < l.toInt → own_B (xs.getD (s.toNatClampNeg + i) 0) ∧ ws.getD i 0 = bv (xs.getD (s.toNatClampNeg + i) 0)
def own_si (s ix : Int32) (i : Nat) : Prop := ix.toInt = s.toInt + i
theorem own_six {xs zs : List Int32} {k z s l ix I : Int32} {i : Nat} (h : own_T xs k z zs) (hb : own_sl xs s l) (hi : own_si s ix i) (hl : I < l) (hI : I.toInt = i) : own_ix xs ix := by
  have := Int32.lt_iff_toInt_lt.mp hl
  obtain ⟨b1, b2, b3, b4⟩ := hb
  unfold own_si at hi
  exact ⟨by omega, by omega⟩
theorem own_sin {xs zs : List Int32} {k z s l ix iy : Int32} {i : Nat} (h : own_T xs k z zs) (hb : own_sl xs s l) (hi : own_si s ix i) (hx : own_ix xs ix) (e : iy = ix + (1 : Int32)) : own_si s iy (i + 1) := by
  have c := c_iadd ix 1
  have r := rng32 (ix + (1 : Int32))
  have k1 : (1 : Int32).toInt = 1 := by decide
  have := h.1
  obtain ⟨x1, x2⟩ := hx
  unfold own_si at hi ⊢
  subst e; omega
theorem own_sig {xs : List Int32} {s ix : Int32} {i : Nat} (hs : 0 ≤ s.toInt) (hi : own_si s ix i) : ix.toNatClampNeg = s.toNatClampNeg + i := by
  have e := own_nn hs
  unfold own_si at hi
  exact own_tn (by omega)
theorem own_lne {x y : Int32} (h : x < y) : ¬ x = y := fun q => by
  subst q
  have := Int32.lt_iff_toInt_lt.mp h
  omega
theorem own_sub0 (m : Int32) : m - m = 0 := Int32.sub_self m
theorem own_co {l d : Int32} (h1 : ¬ l.toInt = 0) (h2 : 0 ≤ l.toInt) (h3 : l.toInt ≤ 4) (hd : d.toInt = 2 * l.toInt) : ((l - d).toUInt32 >>> ((31 : Int32) &&& 31).toUInt32).toInt32 = 1 := by
  have k : ∀ (x z : Int32), x.toInt = z.toInt → x = z := fun x z q => Int32.toInt_inj.mp q
  have : l.toInt = 1 ∨ l.toInt = 2 ∨ l.toInt = 3 ∨ l.toInt = 4 := by omega
  rcases this with q | q | q | q
  · rw [k l 1 q, k d 2 (by rw [hd, q]; rfl)]; decide
  · rw [k l 2 q, k d 4 (by rw [hd, q]; rfl)]; decide
  · rw [k l 3 q, k d 6 (by rw [hd, q]; rfl)]; decide
  · rw [k l 4 q, k d 8 (by rw [hd, q]; rfl)]; decide
theorem own_f2 {xs zs : List Int32} {k z s l f : Int32} (h : own_T xs k z zs) (hb : own_sl xs s l) (e : f = s <<< ((1 : Int32) &&& 31)) : f.toInt = 2 * s.toInt := by
  have c := c_ishl s 1 1 (by decide)
  have e2 : ((2 ^ 1 : Nat) : Int) = 2 := by decide
  rw [e2] at c
  have r := rng32 (s <<< ((1 : Int32) &&& 31))
  have := h.1
  obtain ⟨b1, b2, b3, b4⟩ := hb
  subst e; omega
theorem own_tl {xs zs : List Int32} {k z s l t : Int32} (h : own_T xs k z zs) (hb : own_sl xs s l) (e : t = s + l) : t.toInt = s.toInt + l.toInt ∧ 0 ≤ t.toInt ∧ t.toInt ≤ 4 := by
  have c := c_iadd s l
  have r := rng32 (s + l)
  have := h.1
  obtain ⟨b1, b2, b3, b4⟩ := hb
  subst e; omega
theorem own_crU {xs zs : List Int32} {k z s l f t u : Int32} (h : own_T xs k z zs) (hk : ¬ k = 0) (hb : own_sl xs s l) (hf : f.toInt = 2 * s.toInt) (ht : t.toInt = s.toInt + l.toInt ∧ 0 ≤ t.toInt ∧ t.toInt ≤ 4) (e : u = t <<< ((1 : Int32) &&& 31)) : own_cr z f u ∧ u.toInt = 2 * s.toInt + 2 * l.toInt := by
  have c := c_ishl t 1 1 (by decide)
  have e2 : ((2 ^ 1 : Nat) : Int) = 2 := by decide
  rw [e2] at c
  have r := rng32 (t <<< ((1 : Int32) &&& 31))
  obtain ⟨h1, -, ⟨q, -⟩ | ⟨-, h3, -⟩⟩ := h
  · exact absurd q hk
  · obtain ⟨b1, b2, b3, b4⟩ := hb
    subst e
    exact ⟨⟨by omega, by omega, by omega, by omega, fun q => b4 ⟨by omega, by omega⟩⟩, by omega⟩
theorem own_si0 {s ix : Int32} (e : ix = s) : own_si s ix 0 := by unfold own_si; rw [e]; simp
theorem own_or3 {xs zs : List Int32} {k z s l : Int32} (h : own_T xs k z zs) (hk : ¬ k = 0) (hb : own_sl xs s l) : ¬ (((z >>> ((1 : Int32) &&& 31)) ||| s) ||| l) < 0 := fun q => by
  have := Int32.lt_iff_toInt_lt.mp q
  have k0 : (0 : Int32).toInt = 0 := by decide
  have e : ((2 ^ 1 : Nat) : Int) = 2 := by decide
  have sh := own_shk z 1 1 (by decide) (by decide)
  rw [e] at sh
  obtain ⟨b1, b2, b3, b4⟩ := hb
  obtain ⟨h1, -, ⟨q, -⟩ | ⟨-, h3, -⟩⟩ := h
  · exact hk q
  · have a := (c_orS (z >>> ((1 : Int32) &&& 31)) s).1 (by omega) b1
    have b := (c_orS ((z >>> ((1 : Int32) &&& 31)) ||| s) l).1 a b2
    omega
theorem own_fsz {xs zs : List Int32} {k z s l : Int32} (h : own_T xs k z zs) (hk : ¬ k = 0) (hb : own_sl xs s l) : ¬ ((z >>> ((1 : Int32) &&& 31)) - s) < l := fun q => by
  have := Int32.lt_iff_toInt_lt.mp q
  have e : ((2 ^ 1 : Nat) : Int) = 2 := by decide
  have sh := own_shk z 1 1 (by decide) (by decide)
  rw [e] at sh
  have c := c_isub (z >>> ((1 : Int32) &&& 31)) s
  have r := rng32 ((z >>> ((1 : Int32) &&& 31)) - s)
  obtain ⟨b1, b2, b3, b4⟩ := hb
  obtain ⟨h1, -, ⟨q, -⟩ | ⟨-, h3, -⟩⟩ := h
  · exact hk q
  · omega
theorem own_t1 {t : Int32} (h : 0 ≤ t.toInt) : ¬ t < (0 : Int32) := fun q => by
  have := Int32.lt_iff_toInt_lt.mp q
  have k0 : (0 : Int32).toInt = 0 := by decide
  omega
theorem own_t2 {t : Int32} (h : t.toInt ≤ 4) : t < (1073741823 : Int32) := Int32.lt_iff_toInt_lt.mpr (by
  have k0 : (1073741823 : Int32).toInt = 1073741823 := by decide
  omega)
theorem own_gt2 {xs : List Int32} {s l ix iy : Int32} {i : Nat} (hb : own_sl xs s l) (hi : own_si s ix i) (hy : iy.toInt = i) (hl : iy.toInt < l.toInt) (h : (255 : Int32) < xs.getD ix.toNatClampNeg 0) : (255 : Int32) < (sl xs s.toNatClampNeg l.toNatClampNeg).getD iy.toNatClampNeg 0 := by
  have es := own_nn hb.1
  have el := own_nn hb.2.1
  have ey : iy.toNatClampNeg = i := own_tn hy
  rw [ey, sl_get (by omega), ← own_sig (xs := xs) hb.1 hi]
  exact h
def own_ab (xs : List Int32) (s l i : Int32) : Prop := 0 ≤ i.toInt ∧ i.toInt < l.toInt ∧ (255 : Int32) < xs.getD (s.toNatClampNeg + i.toNatClampNeg) 0
theorem own_abi {xs : List Int32} {s l ix I : Int32} {i : Nat} (hb : own_sl xs s l) (hs : own_si s ix i) (hI : I.toInt = i) (hl : I < l) (hg : (255 : Int32) < xs.getD ix.toNatClampNeg 0) : own_ab xs s l I := by
  have := Int32.lt_iff_toInt_lt.mp hl
  refine ⟨by omega, by omega, ?_⟩
  rw [own_tn hI, ← own_sig (xs := xs) hb.1 hs]; exact hg
theorem own_abn {xs : List Int32} {s l i : Int32} (h : own_ab xs s l i) : ¬ i = l := fun q => by
  have := h.2.1
  rw [q] at this; omega
theorem own_abl {xs : List Int32} {s l i : Int32} (h : own_ab xs s l i) : i.toNatClampNeg < l.toNatClampNeg := by
  have a := own_nn h.1
  have b := own_nn (x := l) (by have := h.1; have := h.2.1; omega)
  have := h.2.1
  omega
theorem own_abx {xs : List Int32} {s l i : Int32} (h : own_ab xs s l i) : own_ix (sl xs s.toNatClampNeg l.toNatClampNeg) i := ⟨h.1, by
  rw [sl_len, ← own_nn h.1]
  exact Int.ofNat_lt.mpr (own_abl h)⟩
theorem own_abg {xs : List Int32} {s l i : Int32} (h : own_ab xs s l i) : (255 : Int32) < (sl xs s.toNatClampNeg l.toNatClampNeg).getD i.toNatClampNeg 0 := by
  rw [sl_get (own_abl h)]; exact h.2.2
theorem own_l4' {xs zs : List Int32} {k z s l : Int32} (h : own_T xs k z zs) (hb : own_sl xs s l) : l.toInt ≤ 4 := by
  have := h.1
  obtain ⟨b1, b2, b3, b4⟩ := hb
  omega
theorem own_co' {xs zs : List Int32} {k z s l d : Int32} (h : own_T xs k z zs) (hb : own_sl xs s l) (h1 : ¬ l.toInt = 0) (hd : d.toInt = 2 * l.toInt) : ((l - d).toUInt32 >>> ((31 : Int32) &&& 31).toUInt32).toInt32 = 1 := own_co h1 hb.2.1 (by
  have := h.1
  obtain ⟨b1, b2, b3, b4⟩ := hb
  omega) hd
theorem own_n4 {n : Int32} (h : own_N n) (h0 : ¬ n = (0 : Int32)) (h1 : ¬ n = (1 : Int32)) (h2 : ¬ n = (2 : Int32)) (h3 : ¬ n = (3 : Int32)) : n.toInt = 4 := by
  have q : ∀ k : Int32, ¬ n = k → ¬ n.toInt = k.toInt := fun k a b => a (Int32.toInt_inj.mp b)
  have a0 := q 0 h0
  have a1 := q 1 h1
  have a2 := q 2 h2
  have a3 := q 3 h3
  have k0 : (0 : Int32).toInt = 0 := by decide
  have k1 : (1 : Int32).toInt = 1 := by decide
  have k2 : (2 : Int32).toInt = 2 := by decide
  have k3 : (3 : Int32).toInt = 3 := by decide
  obtain ⟨_, _⟩ := h
  omega
def own_r (k : Int32) (xs : List Int32) (i : Nat) : Prop := (k.toInt = 0 ∧ (i < xs.length → blankP (xs.getD i 0).toInt)) ∨ (¬ k.toInt = 0 ∧ i < xs.length ∧ ¬ blankP (xs.getD i 0).toInt)
theorem own_rk {xs ds : List Int32} {nv k c : Int32} {i : Nat} {I : Int} (hn : nv.toInt = xs.length) (hc : ∀ i, i < xs.length → xs.getD i 0 = ds.getD i 0) (hd : ds.getD i 0 = c) (hI : I = (i : Int)) (D : ((¬ (I < (nv).toInt)) ∧ k = (0 : Int32)) ∨ ((I < (nv).toInt) ∧ blankP (c).toInt ∧ k = (0 : Int32)) ∨ ((I < (nv).toInt) ∧ ¬ blankP (c).toInt ∧ k = (1 : Int32))) : own_r k xs i := by
  have k0 : (0 : Int32).toInt = 0 := by decide
  have k1 : ¬ (1 : Int32).toInt = 0 := by decide
  rcases D with ⟨a, rfl⟩ | ⟨a, b, rfl⟩ | ⟨a, b, rfl⟩
  · exact Or.inl ⟨k0, fun q => absurd q (by omega)⟩
  · exact Or.inl ⟨k0, fun q => by rw [hc i q, hd]; exact b⟩
  · have q : i < xs.length := by omega
    exact Or.inr ⟨k1, q, by rw [hc i q, hd]; exact b⟩
theorem own_r0 {xs : List Int32} {k : Int32} {i : Nat} (h : own_r k xs i) (q : k.toInt = 0) : i < xs.length → blankP (xs.getD i 0).toInt := by
  rcases h with h | h
  · exact h.2
  · exact absurd q h.1
theorem own_r1 {xs : List Int32} {k : Int32} {i : Nat} (h : own_r k xs i) (q : ¬ k.toInt = 0) : i < xs.length ∧ ¬ blankP (xs.getD i 0).toInt := by
  rcases h with h | h
  · exact absurd h.1 q
  · exact h.2
theorem own_fst {xs : List Int32} {s e : Int32} {j : Nat} (hS : own_S xs s e) (hz : ∀ i, i < j → i < xs.length → blankP (xs.getD i 0).toInt) (hj : (j < xs.length ∧ ¬ blankP (xs.getD j 0).toInt) ∨ j = xs.length) : s.toInt = j := by
  obtain ⟨⟨s0, s1, s2⟩, h1, h2, h3⟩ := hS
  have es := own_nn s0
  rcases Int.lt_trichotomy s.toInt j with q | q | q
  · rcases h3 with ⟨a, b, c, d⟩ | ⟨a, b⟩
    · exact absurd (hz s.toNatClampNeg (by omega) (by omega)) c
    · rcases hj with ⟨f, -⟩ | f <;> omega
  · exact q
  · rcases hj with ⟨a, b⟩ | a
    · exact absurd (h1 j q) b
    · omega
theorem own_lst {xs : List Int32} {s e : Int32} {j : Nat} (hS : own_S xs s e) (hz : ∀ i, j ≤ i → i < xs.length → blankP (xs.getD i 0).toInt) (hj : (0 < j ∧ j - 1 < xs.length ∧ ¬ blankP (xs.getD (j - 1) 0).toInt) ∨ (j = xs.length ∧ ∀ i, i < xs.length → blankP (xs.getD i 0).toInt)) : e.toInt = j := by
  obtain ⟨⟨s0, s1, s2⟩, h1, h2, h3⟩ := hS
  have es := own_nn s0
  rcases Int.lt_trichotomy e.toInt j with q | q | q
  · rcases hj with ⟨a, b, c⟩ | ⟨a, b⟩
    · exact absurd (h2 (j - 1) (by omega) b) c
    · rcases h3 with ⟨f, g, k, l⟩ | ⟨f, g⟩
      · exact absurd (b s.toNatClampNeg (by omega)) k
      · omega
  · exact q
  · rcases h3 with ⟨f, g, k, l⟩ | ⟨f, g⟩
    · exact absurd (hz (e.toInt.toNat - 1) (by omega) (by omega)) l
    · rcases hj with ⟨a, b, c⟩ | ⟨a, b⟩
      · exact absurd (h1 (j - 1) (by omega)) c
      · omega
theorem own_c3 {p : Nat → Prop} (h0 : p 0) (h1 : p 1) (h2 : p 2) (h3 : p 3) : ∀ i, i < 4 → p i := fun i hi => by
  have : i = 0 ∨ i = 1 ∨ i = 2 ∨ i = 3 := by omega
  rcases this with rfl | rfl | rfl | rfl <;> assumption
theorem own_st {xs : List Int32} {nv k0 k1 k2 k3 y s e : Int32} (hn : nv.toInt = xs.length) (h4 : xs.length ≤ 4) (r0 : own_r k0 xs 0) (r1 : own_r k1 xs 1) (r2 : own_r k2 xs 2) (r3 : own_r k3 xs 3) (hS : own_S xs s e) (D : ((((k0).toInt = (0 : Int)) ∧ ((k1).toInt = (0 : Int)) ∧ ((k2).toInt = (0 : Int)) ∧ ((k3).toInt = (0 : Int)) ∧ y = nv) ∨ (((k0).toInt = (0 : Int)) ∧ ((k1).toInt = (0 : Int)) ∧ ((k2).toInt = (0 : Int)) ∧ (¬ ((k3).toInt = (0 : Int))) ∧ y = (3 : Int32)) ∨ (((k0).toInt = (0 : Int)) ∧ ((k1).toInt = (0 : Int)) ∧ (¬ ((k2).toInt = (0 : Int))) ∧ y = (2 : Int32)) ∨ (((k0).toInt = (0 : Int)) ∧ (¬ ((k1).toInt = (0 : Int))) ∧ y = (1 : Int32)) ∨ ((¬ ((k0).toInt = (0 : Int))) ∧ y = (0 : Int32)))) : y.toInt = s.toInt := by
  rcases D with ⟨a, b, c, d, rfl⟩ | ⟨a, b, c, d, rfl⟩ | ⟨a, b, c, rfl⟩ | ⟨a, b, rfl⟩ | ⟨a, rfl⟩
  · rw [own_fst (j := xs.length) hS (fun i _ q => own_c3 (p := fun i => i < xs.length → blankP (xs.getD i 0).toInt) (own_r0 r0 a) (own_r0 r1 b) (own_r0 r2 c) (own_r0 r3 d) i (by omega) q) (Or.inr rfl)]; exact hn
  · rw [own_fst (j := 3) hS (fun i hi => by
      have : i = 0 ∨ i = 1 ∨ i = 2 := by omega
      rcases this with rfl | rfl | rfl
      · exact own_r0 r0 a
      · exact own_r0 r1 b
      · exact own_r0 r2 c) (Or.inl (own_r1 r3 d))]; decide
  · rw [own_fst (j := 2) hS (fun i hi => by
      have : i = 0 ∨ i = 1 := by omega
      rcases this with rfl | rfl
      · exact own_r0 r0 a
      · exact own_r0 r1 b) (Or.inl (own_r1 r2 c))]; decide
  · rw [own_fst (j := 1) hS (fun i hi => by
      obtain rfl : i = 0 := by omega
      exact own_r0 r0 a) (Or.inl (own_r1 r1 b))]; decide
  · rw [own_fst (j := 0) hS (fun i hi => absurd hi (by omega)) (Or.inl (own_r1 r0 a))]; decide
theorem own_ed {xs : List Int32} {nv k0 k1 k2 k3 y s e : Int32} (hn : nv.toInt = xs.length) (h4 : xs.length ≤ 4) (r0 : own_r k0 xs 0) (r1 : own_r k1 xs 1) (r2 : own_r k2 xs 2) (r3 : own_r k3 xs 3) (hS : own_S xs s e) (D : ((((k3).toInt = (0 : Int)) ∧ ((k2).toInt = (0 : Int)) ∧ ((k1).toInt = (0 : Int)) ∧ ((k0).toInt = (0 : Int)) ∧ y = nv) ∨ (((k3).toInt = (0 : Int)) ∧ ((k2).toInt = (0 : Int)) ∧ ((k1).toInt = (0 : Int)) ∧ (¬ ((k0).toInt = (0 : Int))) ∧ y = (1 : Int32)) ∨ (((k3).toInt = (0 : Int)) ∧ ((k2).toInt = (0 : Int)) ∧ (¬ ((k1).toInt = (0 : Int))) ∧ y = (2 : Int32)) ∨ (((k3).toInt = (0 : Int)) ∧ (¬ ((k2).toInt = (0 : Int))) ∧ y = (3 : Int32)) ∨ ((¬ ((k3).toInt = (0 : Int))) ∧ y = (4 : Int32)))) : y.toInt = e.toInt := by
  rcases D with ⟨a, b, c, d, rfl⟩ | ⟨a, b, c, d, rfl⟩ | ⟨a, b, c, rfl⟩ | ⟨a, b, rfl⟩ | ⟨a, rfl⟩
  · rw [own_lst (j := xs.length) hS (fun i h q => absurd q (by omega)) (Or.inr ⟨rfl, fun i q => own_c3 (p := fun i => i < xs.length → blankP (xs.getD i 0).toInt) (own_r0 r0 d) (own_r0 r1 c) (own_r0 r2 b) (own_r0 r3 a) i (by omega) q⟩)]; exact hn
  · rw [own_lst (j := 1) hS (fun i hi q => by
      have : i = 1 ∨ i = 2 ∨ i = 3 := by omega
      rcases this with rfl | rfl | rfl
      · exact own_r0 r1 c q
      · exact own_r0 r2 b q
      · exact own_r0 r3 a q) (Or.inl ⟨by omega, own_r1 r0 d⟩)]; decide
  · rw [own_lst (j := 2) hS (fun i hi q => by
      have : i = 2 ∨ i = 3 := by omega
      rcases this with rfl | rfl
      · exact own_r0 r2 b q
      · exact own_r0 r3 a q) (Or.inl ⟨by omega, own_r1 r1 c⟩)]; decide
  · rw [own_lst (j := 3) hS (fun i hi q => by
      obtain rfl : i = 3 := by omega
      exact own_r0 r3 a q) (Or.inl ⟨by omega, own_r1 r2 b⟩)]; decide
  · rw [own_lst (j := 4) hS (fun i hi q => absurd q (by omega)) (Or.inl ⟨by omega, own_r1 r3 a⟩)]; decide
/-- what the law knows of the stripped text: where it starts, how long it is -/
def own_M (sv mv : Int32) (ys ds : List Int32) : Prop := mv.toInt = ys.length ∧ 0 ≤ sv.toInt ∧ sv.toInt + ys.length ≤ 4 ∧ ∀ i : Nat, i < ys.length → ds.getD (sv.toNatClampNeg + i) 0 = ys.getD i 0
theorem own_main {xs : List Int32} {nv k0 k1 k2 k3 y0 y1 mv s e l c0 c1 c2 c3 : Int32} (hn : nv.toInt = xs.length) (h4 : xs.length ≤ 4) (hc : ∀ i, i < xs.length → xs.getD i 0 = [c0, c1, c2, c3].getD i 0)
    (D0 : ((¬ ((0 : Int) < (nv).toInt)) ∧ k0 = (0 : Int32)) ∨ (((0 : Int) < (nv).toInt) ∧ blankP (c0).toInt ∧ k0 = (0 : Int32)) ∨ (((0 : Int) < (nv).toInt) ∧ ¬ blankP (c0).toInt ∧ k0 = (1 : Int32)))
    (D1 : ((¬ ((1 : Int) < (nv).toInt)) ∧ k1 = (0 : Int32)) ∨ (((1 : Int) < (nv).toInt) ∧ blankP (c1).toInt ∧ k1 = (0 : Int32)) ∨ (((1 : Int) < (nv).toInt) ∧ ¬ blankP (c1).toInt ∧ k1 = (1 : Int32)))
    (D2 : ((¬ ((2 : Int) < (nv).toInt)) ∧ k2 = (0 : Int32)) ∨ (((2 : Int) < (nv).toInt) ∧ blankP (c2).toInt ∧ k2 = (0 : Int32)) ∨ (((2 : Int) < (nv).toInt) ∧ ¬ blankP (c2).toInt ∧ k2 = (1 : Int32)))
    (D3 : ((¬ ((3 : Int) < (nv).toInt)) ∧ k3 = (0 : Int32)) ∨ (((3 : Int) < (nv).toInt) ∧ blankP (c3).toInt ∧ k3 = (0 : Int32)) ∨ (((3 : Int) < (nv).toInt) ∧ ¬ blankP (c3).toInt ∧ k3 = (1 : Int32)))
    (Ds : ((((k0).toInt = (0 : Int)) ∧ ((k1).toInt = (0 : Int)) ∧ ((k2).toInt = (0 : Int)) ∧ ((k3).toInt = (0 : Int)) ∧ y0 = nv) ∨ (((k0).toInt = (0 : Int)) ∧ ((k1).toInt = (0 : Int)) ∧ ((k2).toInt = (0 : Int)) ∧ (¬ ((k3).toInt = (0 : Int))) ∧ y0 = (3 : Int32)) ∨ (((k0).toInt = (0 : Int)) ∧ ((k1).toInt = (0 : Int)) ∧ (¬ ((k2).toInt = (0 : Int))) ∧ y0 = (2 : Int32)) ∨ (((k0).toInt = (0 : Int)) ∧ (¬ ((k1).toInt = (0 : Int))) ∧ y0 = (1 : Int32)) ∨ ((¬ ((k0).toInt = (0 : Int))) ∧ y0 = (0 : Int32))))
    (De : ((((k3).toInt = (0 : Int)) ∧ ((k2).toInt = (0 : Int)) ∧ ((k1).toInt = (0 : Int)) ∧ ((k0).toInt = (0 : Int)) ∧ y1 = nv) ∨ (((k3).toInt = (0 : Int)) ∧ ((k2).toInt = (0 : Int)) ∧ ((k1).toInt = (0 : Int)) ∧ (¬ ((k0).toInt = (0 : Int))) ∧ y1 = (1 : Int32)) ∨ (((k3).toInt = (0 : Int)) ∧ ((k2).toInt = (0 : Int)) ∧ (¬ ((k1).toInt = (0 : Int))) ∧ y1 = (2 : Int32)) ∨ (((k3).toInt = (0 : Int)) ∧ (¬ ((k2).toInt = (0 : Int))) ∧ y1 = (3 : Int32)) ∨ ((¬ ((k3).toInt = (0 : Int))) ∧ y1 = (4 : Int32))))
    (hS : own_S xs s e) (hl : l.toInt = e.toInt - s.toInt) (em : mv = y1 - y0) : own_M y0 mv (sl xs s.toNatClampNeg l.toNatClampNeg) [c0, c1, c2, c3] := by
  have r0 := own_rk (i := 0) hn hc rfl rfl D0
  have r1 := own_rk (i := 1) hn hc rfl rfl D1
  have r2 := own_rk (i := 2) hn hc rfl rfl D2
  have r3 := own_rk (i := 3) hn hc rfl rfl D3
  have a := own_st hn h4 r0 r1 r2 r3 hS Ds
  have b := own_ed hn h4 r0 r1 r2 r3 hS De
  obtain ⟨⟨s0, s1, s2⟩, -⟩ := hS
  have es := own_nn s0
  have el := own_nn (x := l) (by omega)
  have ey := own_nn (x := y0) (by omega)
  have c := c_isub y1 y0
  have r := rng32 (y1 - y0)
  rw [em]
  refine ⟨by rw [sl_len]; omega, by omega, by rw [sl_len]; omega, fun i hi => ?_⟩
  rw [sl_len] at hi
  rw [sl_get hi, hc _ (by omega)]
  exact congrArg (fun j => [c0, c1, c2, c3].getD j 0) (by omega)
theorem own_Ml {sv mv k z : Int32} {ys ds zs : List Int32} (h : own_M sv mv ys ds) (hT : own_T ys k z zs) : z >>> (k &&& 31) = mv := Int32.toInt_inj.mp ((own_lenT hT).trans h.1.symm)
theorem own_Mx {sv mv ix I : Int32} {ys ds : List Int32} (h : own_M sv mv ys ds) (hl : I < mv) (h0 : 0 ≤ I.toInt) (e : ix = I) : own_ix ys ix := by
  have := Int32.lt_iff_toInt_lt.mp hl
  have := h.1
  subst e
  exact ⟨h0, by omega⟩
theorem own_Mj {sv mv ix j : Int32} {ys ds : List Int32} (h : own_M sv mv ys ds) (hx : own_ix ys ix) (e : j = sv + ix) : (¬ j < 0 ∧ j < 4) ∧ (Y ds).getD j.toNatClampNeg (.int 0) = .int (ys.getD ix.toNatClampNeg 0) := by
  obtain ⟨h1, h2, h3, h4⟩ := h
  obtain ⟨x1, x2⟩ := hx
  have k0 : (0 : Int32).toInt = 0 := by decide
  have k4 : (4 : Int32).toInt = 4 := by decide
  have c := c_iadd sv ix
  have r := rng32 (sv + ix)
  rw [← e] at c r
  have es := own_nn h2
  have ex := own_nn x1
  have ej : j.toInt = sv.toInt + ix.toInt := by omega
  refine ⟨⟨?_, ?_⟩, ?_⟩
  · rw [Int32.lt_iff_toInt_lt]; omega
  · rw [Int32.lt_iff_toInt_lt]; omega
  · rw [own_getX, own_tn (t := j) (k := sv.toNatClampNeg + ix.toNatClampNeg) (by omega), h4 _ (by omega)]
theorem own_mle {a b m : Int32} (h : ¬ a < m) (q : a.toInt ≤ b.toInt) : ¬ b < m := fun c => by
  have := Int32.lt_iff_toInt_lt.mp c
  exact h (Int32.lt_iff_toInt_lt.mpr (by omega))
theorem own_h0 (c0 c1 c2 c3 : Int32) : ∀ i, i < ([] : List Int32).length → ([] : List Int32).getD i 0 = [c0, c1, c2, c3].getD i 0 := fun i hi => by
  simp only [List.length_cons, List.length_nil] at hi
  exact absurd hi (by omega)
theorem own_h1 (c0 c1 c2 c3 : Int32) : ∀ i, i < ([c0] : List Int32).length → ([c0] : List Int32).getD i 0 = [c0, c1, c2, c3].getD i 0 := fun i hi => by
  simp only [List.length_cons, List.length_nil] at hi
  obtain rfl : i = 0 := by omega
  rfl
theorem own_h2 (c0 c1 c2 c3 : Int32) : ∀ i, i < ([c0, c1] : List Int32).length → ([c0, c1] : List Int32).getD i 0 = [c0, c1, c2, c3].getD i 0 := fun i hi => by
  simp only [List.length_cons, List.length_nil] at hi
  have : i = 0 ∨ i = 1 := by omega
  rcases this with rfl | rfl <;> rfl
theorem own_h3 (c0 c1 c2 c3 : Int32) : ∀ i, i < ([c0, c1, c2] : List Int32).length → ([c0, c1, c2] : List Int32).getD i 0 = [c0, c1, c2, c3].getD i 0 := fun i hi => by
  simp only [List.length_cons, List.length_nil] at hi
  have : i = 0 ∨ i = 1 ∨ i = 2 := by omega
  rcases this with rfl | rfl | rfl <;> rfl
theorem own_h4 (c0 c1 c2 c3 : Int32) : ∀ i, i < ([c0, c1, c2, c3] : List Int32).length → ([c0, c1, c2, c3] : List Int32).getD i 0 = [c0, c1, c2, c3].getD i 0 := fun i hi => by
  simp only [List.length_cons, List.length_nil] at hi
  have : i = 0 ∨ i = 1 ∨ i = 2 ∨ i = 3 := by omega
  rcases this with rfl | rfl | rfl | rfl <;> rfl
abbrev Hw (a0 : Array Value) (Z : State) : Prop := ∀ d ∈ tables_1, d.before a0 Z = true
abbrev tw (k : Nat) : List Value := Y (tab.take k ++ List.replicate (52 - k) 0)
theorem own_isref {t : Term} {args : Array Value} {s : State} (h : (Jvm.Cond.isRef t).before args s = true) : ∃ v : Value, t.eval args s none [] s = some v ∧ v.isRef = true := by
  have h := Cond.before_iff.mp h
  simp only [Cond.value] at h
  cases ht : t.eval args s none [] s with
  | none => simp [ht] at h
  | some v => refine ⟨v, rfl, ?_⟩; rw [ht] at h; cases v <;> simp [Value.isRef] at h ⊢
theorem own_eqI {t : Term} {args : Array Value} {s : State} {z : Int32} (h : (Jvm.Cond.eq t (Term.int z)).value args s none s [] = some true) : t.eval args s none [] s = some (.int z) := by
  simp only [Cond.value, Term.eval] at h
  cases ht : t.eval args s none [] s with
  | none => simp [ht] at h
  | some x => cases x <;> simp [ht] at h ⊢; exact h
set_option maxRecDepth 65536
set_option maxHeartbeats 40000000
abbrev i1 : Int32 := 1
abbrev i52 : Int32 := 52
abbrev i0 : Int32 := 0
abbrev i9 : Int32 := 9
abbrev i10 : Int32 := 10
abbrev i11 : Int32 := 11
abbrev i12 : Int32 := 12
abbrev i13 : Int32 := 13
abbrev i32 : Int32 := 32
abbrev i133 : Int32 := 133
abbrev i160 : Int32 := 160
abbrev i5760 : Int32 := 5760
abbrev i8192 : Int32 := 8192
abbrev i8193 : Int32 := 8193
abbrev i8194 : Int32 := 8194
abbrev i8195 : Int32 := 8195
abbrev i8196 : Int32 := 8196
abbrev i8197 : Int32 := 8197
abbrev i8198 : Int32 := 8198
abbrev i8199 : Int32 := 8199
abbrev i8200 : Int32 := 8200
abbrev i8201 : Int32 := 8201
abbrev i8202 : Int32 := 8202
abbrev i8232 : Int32 := 8232
abbrev i8233 : Int32 := 8233
abbrev i8239 : Int32 := 8239
abbrev i8287 : Int32 := 8287
abbrev i8 : Int32 := 8
abbrev i14 : Int32 := 14
abbrev i28 : Int32 := 28
abbrev i31 : Int32 := 31
abbrev i33 : Int32 := 33
abbrev i97 : Int32 := 97
abbrev i132 : Int32 := 132
abbrev i134 : Int32 := 134
abbrev i159 : Int32 := 159
abbrev i161 : Int32 := 161
abbrev i5759 : Int32 := 5759
abbrev i5761 : Int32 := 5761
abbrev i6158 : Int32 := 6158
abbrev i8191 : Int32 := 8191
abbrev i8203 : Int32 := 8203
abbrev i8231 : Int32 := 8231
abbrev i8234 : Int32 := 8234
abbrev i8238 : Int32 := 8238
abbrev i8240 : Int32 := 8240
abbrev i8286 : Int32 := 8286
abbrev i8288 : Int32 := 8288
abbrev i16 : Int32 := 16
abbrev i4 : Int32 := 4
abbrev i255 : Int32 := 255
abbrev i3 : Int32 := 3
abbrev i2 : Int32 := 2
abbrev i5 : Int32 := 5
abbrev i6 : Int32 := 6
abbrev i7 : Int32 := 7
abbrev im4 : Int32 := -4
abbrev im3 : Int32 := -3
abbrev im2 : Int32 := -2
abbrev im1 : Int32 := -1
abbrev rv (a : Addr) : Slot := .val (.ref a)
abbrev iv (a : Int32) : Slot := .val (.int a)
abbrev un : Slot := .unset
abbrev cS : String := "java/lang/String"
abbrev cP : String := "jdk/internal/util/Preconditions"
abbrev cF : String := "Ljava/util/function/BiFunction;"
abbrev cM : String := "SIOOBE_FORMATTER"
abbrev cC : String := "COMPACT_STRINGS"
abbrev cU : String := "java/lang/StringUTF16"
abbrev cW : String := "java/lang/StringLatin1"
variable (l : Launch) (Z : State) (a0 : Array Value)
abbrev rM (f c s l : Nat) : Room := { frames := f, cells := c, slots := s, locals := l }
theorem rc {p : Program} {e : Env} {below : List Frame} {n0 : Nat} {Q : Option Value → Heap → Prop} {G : Outcome → State → List Loc → Prop} {m : MethodId} {T : State} {pc : Nat} {ls : Array Slot} {st st' : List Value} (q : st = st') (r : Run p e below n0 Q G m T pc ls st') : Run p e below n0 Q G m T pc ls st := Run.cast q r
theorem rm_isBlank (l : Launch) (Z : State) (a0 : Array Value) (hw : Hw a0 Z) (x0 : Int32) (h0 : Heap) (n0 : Nat) (Z0 : n0 ≤ h0.size)  :
  Met l Z (⟨"com/example/tinsel_tally/tinseltally/Blanks", "isBlank", "(C)Z"⟩ : MethodName) prog_3_method_3_code 1 (some .boolean) (rM 0 0 0 0) [] #[.int x0] h0 n0 (fun v h => ((v = some (.int 1) ∧ blankP x0.toInt) ∨ (v = some (.int 0) ∧ ¬ blankP x0.toInt)) ∧ h = h0) := by
 refine Met.mk (tabs := tables_1) (a0 := a0) (ls0 := #[iv x0]) (plainFor_of_name pn_com_example_tinsel_tally_tinseltally_Blanks) hw Z0 (fun m => by first | (simp [entryFrame, mkF, argsToLocals, Value.category]; done) | rfl) ?_
 intro p e s m below meth c T C X
 refine s_iloadN 1 C X d20_0 rfl ?_
 by_cases gk1_9 : (9 : Int) = (x0).toInt
 ·refine s_lsw 220 C X d20_1 (by decide) (by rw [← gk1_9]; decide) (by rw [← gk1_9]; decide) ?_
  refine s_iconst 221 C X d20_220 kc_iconst_1 ?_
  refine s_goto 233 C X d20_221 ?_
  refine s_nreturn C X d20_233 rfl (by simp) rfl ?_
  exact ⟨Or.inl ⟨rfl, by unfold blankP; omega⟩, rfl⟩
 by_cases gk1_10 : (10 : Int) = (x0).toInt
 ·refine s_lsw 220 C X d20_1 (by decide) (by rw [← gk1_10]; decide) (by rw [← gk1_10]; decide) ?_
  refine s_iconst 221 C X d20_220 kc_iconst_1 ?_
  refine s_goto 233 C X d20_221 ?_
  refine s_nreturn C X d20_233 rfl (by simp) rfl ?_
  exact ⟨Or.inl ⟨rfl, by unfold blankP; omega⟩, rfl⟩
 by_cases gk1_11 : (11 : Int) = (x0).toInt
 ·refine s_lsw 220 C X d20_1 (by decide) (by rw [← gk1_11]; decide) (by rw [← gk1_11]; decide) ?_
  refine s_iconst 221 C X d20_220 kc_iconst_1 ?_
  refine s_goto 233 C X d20_221 ?_
  refine s_nreturn C X d20_233 rfl (by simp) rfl ?_
  exact ⟨Or.inl ⟨rfl, by unfold blankP; omega⟩, rfl⟩
 by_cases gk1_12 : (12 : Int) = (x0).toInt
 ·refine s_lsw 220 C X d20_1 (by decide) (by rw [← gk1_12]; decide) (by rw [← gk1_12]; decide) ?_
  refine s_iconst 221 C X d20_220 kc_iconst_1 ?_
  refine s_goto 233 C X d20_221 ?_
  refine s_nreturn C X d20_233 rfl (by simp) rfl ?_
  exact ⟨Or.inl ⟨rfl, by unfold blankP; omega⟩, rfl⟩
 by_cases gk1_13 : (13 : Int) = (x0).toInt
 ·refine s_lsw 220 C X d20_1 (by decide) (by rw [← gk1_13]; decide) (by rw [← gk1_13]; decide) ?_
  refine s_iconst 221 C X d20_220 kc_iconst_1 ?_
  refine s_goto 233 C X d20_221 ?_
  refine s_nreturn C X d20_233 rfl (by simp) rfl ?_
  exact ⟨Or.inl ⟨rfl, by unfold blankP; omega⟩, rfl⟩
 by_cases gk1_32 : (32 : Int) = (x0).toInt
 ·refine s_lsw 220 C X d20_1 (by decide) (by rw [← gk1_32]; decide) (by rw [← gk1_32]; decide) ?_
  refine s_iconst 221 C X d20_220 kc_iconst_1 ?_
  refine s_goto 233 C X d20_221 ?_
  refine s_nreturn C X d20_233 rfl (by simp) rfl ?_
  exact ⟨Or.inl ⟨rfl, by unfold blankP; omega⟩, rfl⟩
 by_cases gk1_133 : (133 : Int) = (x0).toInt
 ·refine s_lsw 220 C X d20_1 (by decide) (by rw [← gk1_133]; decide) (by rw [← gk1_133]; decide) ?_
  refine s_iconst 221 C X d20_220 kc_iconst_1 ?_
  refine s_goto 233 C X d20_221 ?_
  refine s_nreturn C X d20_233 rfl (by simp) rfl ?_
  exact ⟨Or.inl ⟨rfl, by unfold blankP; omega⟩, rfl⟩
 by_cases gk1_160 : (160 : Int) = (x0).toInt
 ·refine s_lsw 220 C X d20_1 (by decide) (by rw [← gk1_160]; decide) (by rw [← gk1_160]; decide) ?_
  refine s_iconst 221 C X d20_220 kc_iconst_1 ?_
  refine s_goto 233 C X d20_221 ?_
  refine s_nreturn C X d20_233 rfl (by simp) rfl ?_
  exact ⟨Or.inl ⟨rfl, by unfold blankP; omega⟩, rfl⟩
 by_cases gk1_5760 : (5760 : Int) = (x0).toInt
 ·refine s_lsw 220 C X d20_1 (by decide) (by rw [← gk1_5760]; decide) (by rw [← gk1_5760]; decide) ?_
  refine s_iconst 221 C X d20_220 kc_iconst_1 ?_
  refine s_goto 233 C X d20_221 ?_
  refine s_nreturn C X d20_233 rfl (by simp) rfl ?_
  exact ⟨Or.inl ⟨rfl, by unfold blankP; omega⟩, rfl⟩
 by_cases gk1_8192 : (8192 : Int) = (x0).toInt
 ·refine s_lsw 224 C X d20_1 (by decide) (by rw [← gk1_8192]; decide) (by rw [← gk1_8192]; decide) ?_
  refine s_iconst 225 C X d20_224 kc_iconst_1 ?_
  refine s_goto 233 C X d20_225 ?_
  refine s_nreturn C X d20_233 rfl (by simp) rfl ?_
  exact ⟨Or.inl ⟨rfl, by unfold blankP; omega⟩, rfl⟩
 by_cases gk1_8193 : (8193 : Int) = (x0).toInt
 ·refine s_lsw 224 C X d20_1 (by decide) (by rw [← gk1_8193]; decide) (by rw [← gk1_8193]; decide) ?_
  refine s_iconst 225 C X d20_224 kc_iconst_1 ?_
  refine s_goto 233 C X d20_225 ?_
  refine s_nreturn C X d20_233 rfl (by simp) rfl ?_
  exact ⟨Or.inl ⟨rfl, by unfold blankP; omega⟩, rfl⟩
 by_cases gk1_8194 : (8194 : Int) = (x0).toInt
 ·refine s_lsw 224 C X d20_1 (by decide) (by rw [← gk1_8194]; decide) (by rw [← gk1_8194]; decide) ?_
  refine s_iconst 225 C X d20_224 kc_iconst_1 ?_
  refine s_goto 233 C X d20_225 ?_
  refine s_nreturn C X d20_233 rfl (by simp) rfl ?_
  exact ⟨Or.inl ⟨rfl, by unfold blankP; omega⟩, rfl⟩
 by_cases gk1_8195 : (8195 : Int) = (x0).toInt
 ·refine s_lsw 224 C X d20_1 (by decide) (by rw [← gk1_8195]; decide) (by rw [← gk1_8195]; decide) ?_
  refine s_iconst 225 C X d20_224 kc_iconst_1 ?_
  refine s_goto 233 C X d20_225 ?_
  refine s_nreturn C X d20_233 rfl (by simp) rfl ?_
  exact ⟨Or.inl ⟨rfl, by unfold blankP; omega⟩, rfl⟩
 by_cases gk1_8196 : (8196 : Int) = (x0).toInt
 ·refine s_lsw 224 C X d20_1 (by decide) (by rw [← gk1_8196]; decide) (by rw [← gk1_8196]; decide) ?_
  refine s_iconst 225 C X d20_224 kc_iconst_1 ?_
  refine s_goto 233 C X d20_225 ?_
  refine s_nreturn C X d20_233 rfl (by simp) rfl ?_
  exact ⟨Or.inl ⟨rfl, by unfold blankP; omega⟩, rfl⟩
 by_cases gk1_8197 : (8197 : Int) = (x0).toInt
 ·refine s_lsw 224 C X d20_1 (by decide) (by rw [← gk1_8197]; decide) (by rw [← gk1_8197]; decide) ?_
  refine s_iconst 225 C X d20_224 kc_iconst_1 ?_
  refine s_goto 233 C X d20_225 ?_
  refine s_nreturn C X d20_233 rfl (by simp) rfl ?_
  exact ⟨Or.inl ⟨rfl, by unfold blankP; omega⟩, rfl⟩
 by_cases gk1_8198 : (8198 : Int) = (x0).toInt
 ·refine s_lsw 224 C X d20_1 (by decide) (by rw [← gk1_8198]; decide) (by rw [← gk1_8198]; decide) ?_
  refine s_iconst 225 C X d20_224 kc_iconst_1 ?_
  refine s_goto 233 C X d20_225 ?_
  refine s_nreturn C X d20_233 rfl (by simp) rfl ?_
  exact ⟨Or.inl ⟨rfl, by unfold blankP; omega⟩, rfl⟩
 by_cases gk1_8199 : (8199 : Int) = (x0).toInt
 ·refine s_lsw 224 C X d20_1 (by decide) (by rw [← gk1_8199]; decide) (by rw [← gk1_8199]; decide) ?_
  refine s_iconst 225 C X d20_224 kc_iconst_1 ?_
  refine s_goto 233 C X d20_225 ?_
  refine s_nreturn C X d20_233 rfl (by simp) rfl ?_
  exact ⟨Or.inl ⟨rfl, by unfold blankP; omega⟩, rfl⟩
 by_cases gk1_8200 : (8200 : Int) = (x0).toInt
 ·refine s_lsw 224 C X d20_1 (by decide) (by rw [← gk1_8200]; decide) (by rw [← gk1_8200]; decide) ?_
  refine s_iconst 225 C X d20_224 kc_iconst_1 ?_
  refine s_goto 233 C X d20_225 ?_
  refine s_nreturn C X d20_233 rfl (by simp) rfl ?_
  exact ⟨Or.inl ⟨rfl, by unfold blankP; omega⟩, rfl⟩
 by_cases gk1_8201 : (8201 : Int) = (x0).toInt
 ·refine s_lsw 228 C X d20_1 (by decide) (by rw [← gk1_8201]; decide) (by rw [← gk1_8201]; decide) ?_
  refine s_iconst 229 C X d20_228 kc_iconst_1 ?_
  refine s_goto 233 C X d20_229 ?_
  refine s_nreturn C X d20_233 rfl (by simp) rfl ?_
  exact ⟨Or.inl ⟨rfl, by unfold blankP; omega⟩, rfl⟩
 by_cases gk1_8202 : (8202 : Int) = (x0).toInt
 ·refine s_lsw 228 C X d20_1 (by decide) (by rw [← gk1_8202]; decide) (by rw [← gk1_8202]; decide) ?_
  refine s_iconst 229 C X d20_228 kc_iconst_1 ?_
  refine s_goto 233 C X d20_229 ?_
  refine s_nreturn C X d20_233 rfl (by simp) rfl ?_
  exact ⟨Or.inl ⟨rfl, by unfold blankP; omega⟩, rfl⟩
 by_cases gk1_8232 : (8232 : Int) = (x0).toInt
 ·refine s_lsw 228 C X d20_1 (by decide) (by rw [← gk1_8232]; decide) (by rw [← gk1_8232]; decide) ?_
  refine s_iconst 229 C X d20_228 kc_iconst_1 ?_
  refine s_goto 233 C X d20_229 ?_
  refine s_nreturn C X d20_233 rfl (by simp) rfl ?_
  exact ⟨Or.inl ⟨rfl, by unfold blankP; omega⟩, rfl⟩
 by_cases gk1_8233 : (8233 : Int) = (x0).toInt
 ·refine s_lsw 228 C X d20_1 (by decide) (by rw [← gk1_8233]; decide) (by rw [← gk1_8233]; decide) ?_
  refine s_iconst 229 C X d20_228 kc_iconst_1 ?_
  refine s_goto 233 C X d20_229 ?_
  refine s_nreturn C X d20_233 rfl (by simp) rfl ?_
  exact ⟨Or.inl ⟨rfl, by unfold blankP; omega⟩, rfl⟩
 by_cases gk1_8239 : (8239 : Int) = (x0).toInt
 ·refine s_lsw 228 C X d20_1 (by decide) (by rw [← gk1_8239]; decide) (by rw [← gk1_8239]; decide) ?_
  refine s_iconst 229 C X d20_228 kc_iconst_1 ?_
  refine s_goto 233 C X d20_229 ?_
  refine s_nreturn C X d20_233 rfl (by simp) rfl ?_
  exact ⟨Or.inl ⟨rfl, by unfold blankP; omega⟩, rfl⟩
 by_cases gk1_8287 : (8287 : Int) = (x0).toInt
 ·refine s_lsw 228 C X d20_1 (by decide) (by rw [← gk1_8287]; decide) (by rw [← gk1_8287]; decide) ?_
  refine s_iconst 229 C X d20_228 kc_iconst_1 ?_
  refine s_goto 233 C X d20_229 ?_
  refine s_nreturn C X d20_233 rfl (by simp) rfl ?_
  exact ⟨Or.inl ⟨rfl, by unfold blankP; omega⟩, rfl⟩
 by_cases gk1_12288 : (12288 : Int) = (x0).toInt
 ·refine s_lsw 228 C X d20_1 (by decide) (by rw [← gk1_12288]; decide) (by rw [← gk1_12288]; decide) ?_
  refine s_iconst 229 C X d20_228 kc_iconst_1 ?_
  refine s_goto 233 C X d20_229 ?_
  refine s_nreturn C X d20_233 rfl (by simp) rfl ?_
  exact ⟨Or.inl ⟨rfl, by unfold blankP; omega⟩, rfl⟩
 by_cases gk1_65279 : (65279 : Int) = (x0).toInt
 ·refine s_lsw 228 C X d20_1 (by decide) (by rw [← gk1_65279]; decide) (by rw [← gk1_65279]; decide) ?_
  refine s_iconst 229 C X d20_228 kc_iconst_1 ?_
  refine s_goto 233 C X d20_229 ?_
  refine s_nreturn C X d20_233 rfl (by simp) rfl ?_
  exact ⟨Or.inl ⟨rfl, by unfold blankP; omega⟩, rfl⟩
 have sw1 : lookupswitch.offset [(9, 219), (10, 219), (11, 219), (12, 219), (13, 219), (32, 219), (133, 219), (160, 219), (5760, 219), (8192, 223), (8193, 223), (8194, 223), (8195, 223), (8196, 223), (8197, 223), (8198, 223), (8199, 223), (8200, 223), (8201, 227), (8202, 227), (8232, 227), (8233, 227), (8239, 227), (8287, 227), (12288, 227), (65279, 227)] 231 (x0).toInt = 231 := by rw [lookupswitch.offset_cons, if_neg gk1_9, lookupswitch.offset_cons, if_neg gk1_10, lookupswitch.offset_cons, if_neg gk1_11, lookupswitch.offset_cons, if_neg gk1_12, lookupswitch.offset_cons, if_neg gk1_13, lookupswitch.offset_cons, if_neg gk1_32, lookupswitch.offset_cons, if_neg gk1_133, lookupswitch.offset_cons, if_neg gk1_160, lookupswitch.offset_cons, if_neg gk1_5760, lookupswitch.offset_cons, if_neg gk1_8192, lookupswitch.offset_cons, if_neg gk1_8193, lookupswitch.offset_cons, if_neg gk1_8194, lookupswitch.offset_cons, if_neg gk1_8195, lookupswitch.offset_cons, if_neg gk1_8196, lookupswitch.offset_cons, if_neg gk1_8197, lookupswitch.offset_cons, if_neg gk1_8198, lookupswitch.offset_cons, if_neg gk1_8199, lookupswitch.offset_cons, if_neg gk1_8200, lookupswitch.offset_cons, if_neg gk1_8201, lookupswitch.offset_cons, if_neg gk1_8202, lookupswitch.offset_cons, if_neg gk1_8232, lookupswitch.offset_cons, if_neg gk1_8233, lookupswitch.offset_cons, if_neg gk1_8239, lookupswitch.offset_cons, if_neg gk1_8287, lookupswitch.offset_cons, if_neg gk1_12288, lookupswitch.offset_cons, if_neg gk1_65279, lookupswitch.offset_nil]
 refine s_lsw 232 C X d20_1 (by decide) (by rw [sw1]; decide) (by rw [sw1]; decide) ?_
 refine s_iconst 233 C X d20_232 kc_iconst_0 ?_
 refine s_nreturn C X d20_233 rfl (by simp) rfl ?_
 exact ⟨Or.inr ⟨rfl, by unfold blankP; omega⟩, rfl⟩
theorem rm_blank (l : Launch) (Z : State) (a0 : Array Value) (hw : Hw a0 Z) (x0 : Int32) (h0 : Heap) (n0 : Nat) (Z0 : n0 ≤ h0.size)  :
  Met l Z (⟨"com/example/tinsel_tally/tinseltally/BlanksStripPinLaw", "blank", "(C)Z"⟩ : MethodName) method_3_code 1 (some .boolean) (rM 0 0 0 0) [] #[.int x0] h0 n0 (fun v h => ((v = some (.int 1) ∧ blankP x0.toInt) ∨ (v = some (.int 0) ∧ ¬ blankP x0.toInt)) ∧ h = h0) := by
 refine Met.mk (tabs := tables_1) (a0 := a0) (ls0 := #[iv x0]) (plainFor_of_name pn_com_example_tinsel_tally_tinseltally_BlanksStripPinLaw) hw Z0 (fun m => by first | (simp [entryFrame, mkF, argsToLocals, Value.category]; done) | rfl) ?_
 intro p e s m below meth c T C X
 refine s_iloadN 1 C X d14_0 rfl ?_
 refine s_bipush 3 C X d14_1 kc_bipush_9 ?_
 refine s_icmp_lt 14 6 C X d14_3 (fun c3 => ?_) (fun c3 => ?_)
 ·have t_c3 : (x0).toInt < (9 : Int) := Int32.lt_iff_toInt_lt.mp c3
  refine s_iloadN 15 C X d14_14 rfl ?_
  refine s_bipush 17 C X d14_15 kc_bipush_32 ?_
  refine s_icmp_eq 41 20 C X d14_17 (fun c17 => ?_) (fun c17 => ?_)
  ·have t_c17 : (x0).toInt = (32 : Int) := congrArg Int32.toInt c17
   refine s_iconst 42 C X d14_41 kc_iconst_1 ?_
   refine s_nreturn C X d14_42 rfl (by simp) rfl ?_
   exact ⟨Or.inl ⟨rfl, by unfold blankP; omega⟩, rfl⟩
  have t_c17 : ¬ ((x0).toInt = (32 : Int)) := fun q => c17 (Int32.toInt_inj.mp q)
  refine s_iloadN 21 C X d14_20 rfl ?_
  refine s_sipush 24 C X d14_21 kc_sipush_133 ?_
  refine s_icmp_eq 41 27 C X d14_24 (fun c24 => ?_) (fun c24 => ?_)
  ·have t_c24 : (x0).toInt = (133 : Int) := congrArg Int32.toInt c24
   refine s_iconst 42 C X d14_41 kc_iconst_1 ?_
   refine s_nreturn C X d14_42 rfl (by simp) rfl ?_
   exact ⟨Or.inl ⟨rfl, by unfold blankP; omega⟩, rfl⟩
  have t_c24 : ¬ ((x0).toInt = (133 : Int)) := fun q => c24 (Int32.toInt_inj.mp q)
  refine s_iloadN 28 C X d14_27 rfl ?_
  refine s_sipush 31 C X d14_28 kc_sipush_160 ?_
  refine s_icmp_eq 41 34 C X d14_31 (fun c31 => ?_) (fun c31 => ?_)
  ·have t_c31 : (x0).toInt = (160 : Int) := congrArg Int32.toInt c31
   refine s_iconst 42 C X d14_41 kc_iconst_1 ?_
   refine s_nreturn C X d14_42 rfl (by simp) rfl ?_
   exact ⟨Or.inl ⟨rfl, by unfold blankP; omega⟩, rfl⟩
  have t_c31 : ¬ ((x0).toInt = (160 : Int)) := fun q => c31 (Int32.toInt_inj.mp q)
  refine s_iloadN 35 C X d14_34 rfl ?_
  refine s_sipush 38 C X d14_35 kc_sipush_5760 ?_
  refine s_icmp_ne 43 41 C X d14_38 (fun c38 => ?_) (fun c38 => ?_)
  ·have t_c38 : ¬ ((x0).toInt = (5760 : Int)) := fun q => c38 (Int32.toInt_inj.mp q)
   refine s_iloadN 44 C X d14_43 rfl ?_
   refine s_sipush 47 C X d14_44 kc_sipush_8192 ?_
   refine s_icmp_lt 59 50 C X d14_47 (fun c47 => ?_) (fun c47 => ?_)
   ·have t_c47 : (x0).toInt < (8192 : Int) := Int32.lt_iff_toInt_lt.mp c47
    refine s_iloadN 60 C X d14_59 rfl ?_
    refine s_sipush 63 C X d14_60 kc_sipush_8232 ?_
    refine s_icmp_eq 100 66 C X d14_63 (fun c63 => ?_) (fun c63 => ?_)
    ·have t_c63 : (x0).toInt = (8232 : Int) := congrArg Int32.toInt c63
     refine s_iconst 101 C X d14_100 kc_iconst_1 ?_
     refine s_nreturn C X d14_101 rfl (by simp) rfl ?_
     exact ⟨Or.inl ⟨rfl, by unfold blankP; omega⟩, rfl⟩
    have t_c63 : ¬ ((x0).toInt = (8232 : Int)) := fun q => c63 (Int32.toInt_inj.mp q)
    refine s_iloadN 67 C X d14_66 rfl ?_
    refine s_sipush 70 C X d14_67 kc_sipush_8233 ?_
    refine s_icmp_eq 100 73 C X d14_70 (fun c70 => ?_) (fun c70 => ?_)
    ·have t_c70 : (x0).toInt = (8233 : Int) := congrArg Int32.toInt c70
     refine s_iconst 101 C X d14_100 kc_iconst_1 ?_
     refine s_nreturn C X d14_101 rfl (by simp) rfl ?_
     exact ⟨Or.inl ⟨rfl, by unfold blankP; omega⟩, rfl⟩
    have t_c70 : ¬ ((x0).toInt = (8233 : Int)) := fun q => c70 (Int32.toInt_inj.mp q)
    refine s_iloadN 74 C X d14_73 rfl ?_
    refine s_sipush 77 C X d14_74 kc_sipush_8239 ?_
    refine s_icmp_eq 100 80 C X d14_77 (fun c77 => ?_) (fun c77 => ?_)
    ·have t_c77 : (x0).toInt = (8239 : Int) := congrArg Int32.toInt c77
     refine s_iconst 101 C X d14_100 kc_iconst_1 ?_
     refine s_nreturn C X d14_101 rfl (by simp) rfl ?_
     exact ⟨Or.inl ⟨rfl, by unfold blankP; omega⟩, rfl⟩
    have t_c77 : ¬ ((x0).toInt = (8239 : Int)) := fun q => c77 (Int32.toInt_inj.mp q)
    refine s_iloadN 81 C X d14_80 rfl ?_
    refine s_sipush 84 C X d14_81 kc_sipush_8287 ?_
    refine s_icmp_eq 100 87 C X d14_84 (fun c84 => ?_) (fun c84 => ?_)
    ·have t_c84 : (x0).toInt = (8287 : Int) := congrArg Int32.toInt c84
     refine s_iconst 101 C X d14_100 kc_iconst_1 ?_
     refine s_nreturn C X d14_101 rfl (by simp) rfl ?_
     exact ⟨Or.inl ⟨rfl, by unfold blankP; omega⟩, rfl⟩
    have t_c84 : ¬ ((x0).toInt = (8287 : Int)) := fun q => c84 (Int32.toInt_inj.mp q)
    refine s_iloadN 88 C X d14_87 rfl ?_
    refine s_sipush 91 C X d14_88 kc_sipush_12288 ?_
    refine s_icmp_eq 100 94 C X d14_91 (fun c91 => ?_) (fun c91 => ?_)
    ·have t_c91 : (x0).toInt = (12288 : Int) := congrArg Int32.toInt c91
     refine s_iconst 101 C X d14_100 kc_iconst_1 ?_
     refine s_nreturn C X d14_101 rfl (by simp) rfl ?_
     exact ⟨Or.inl ⟨rfl, by unfold blankP; omega⟩, rfl⟩
    have t_c91 : ¬ ((x0).toInt = (12288 : Int)) := fun q => c91 (Int32.toInt_inj.mp q)
    refine s_iloadN 95 C X d14_94 rfl ?_
    refine s_ldcInt 97 C X d14_95 (mW 6 rfl) ?_
    refine s_icmp_ne 102 100 C X d14_97 (fun c97 => ?_) (fun c97 => ?_)
    ·have t_c97 : ¬ ((x0).toInt = (65279 : Int)) := fun q => c97 (Int32.toInt_inj.mp q)
     refine s_iconst 103 C X d14_102 kc_iconst_0 ?_
     refine s_nreturn C X d14_103 rfl (by simp) rfl ?_
     exact ⟨Or.inr ⟨rfl, by unfold blankP; omega⟩, rfl⟩
    have t_c97 : (x0).toInt = (65279 : Int) := congrArg Int32.toInt c97
    refine s_iconst 101 C X d14_100 kc_iconst_1 ?_
    refine s_nreturn C X d14_101 rfl (by simp) rfl ?_
    exact ⟨Or.inl ⟨rfl, by unfold blankP; omega⟩, rfl⟩
   have t_c47 : ¬ ((x0).toInt < (8192 : Int)) := fun q => c47 (Int32.lt_iff_toInt_lt.mpr q)
   refine s_iloadN 51 C X d14_50 rfl ?_
   refine s_sipush 54 C X d14_51 kc_sipush_8202 ?_
   refine s_icmp_gt 59 57 C X d14_54 (fun c54 => ?_) (fun c54 => ?_)
   ·have t_c54 : (8202 : Int) < (x0).toInt := Int32.lt_iff_toInt_lt.mp c54
    refine s_iloadN 60 C X d14_59 rfl ?_
    refine s_sipush 63 C X d14_60 kc_sipush_8232 ?_
    refine s_icmp_eq 100 66 C X d14_63 (fun c63 => ?_) (fun c63 => ?_)
    ·have t_c63 : (x0).toInt = (8232 : Int) := congrArg Int32.toInt c63
     refine s_iconst 101 C X d14_100 kc_iconst_1 ?_
     refine s_nreturn C X d14_101 rfl (by simp) rfl ?_
     exact ⟨Or.inl ⟨rfl, by unfold blankP; omega⟩, rfl⟩
    have t_c63 : ¬ ((x0).toInt = (8232 : Int)) := fun q => c63 (Int32.toInt_inj.mp q)
    refine s_iloadN 67 C X d14_66 rfl ?_
    refine s_sipush 70 C X d14_67 kc_sipush_8233 ?_
    refine s_icmp_eq 100 73 C X d14_70 (fun c70 => ?_) (fun c70 => ?_)
    ·have t_c70 : (x0).toInt = (8233 : Int) := congrArg Int32.toInt c70
     refine s_iconst 101 C X d14_100 kc_iconst_1 ?_
     refine s_nreturn C X d14_101 rfl (by simp) rfl ?_
     exact ⟨Or.inl ⟨rfl, by unfold blankP; omega⟩, rfl⟩
    have t_c70 : ¬ ((x0).toInt = (8233 : Int)) := fun q => c70 (Int32.toInt_inj.mp q)
    refine s_iloadN 74 C X d14_73 rfl ?_
    refine s_sipush 77 C X d14_74 kc_sipush_8239 ?_
    refine s_icmp_eq 100 80 C X d14_77 (fun c77 => ?_) (fun c77 => ?_)
    ·have t_c77 : (x0).toInt = (8239 : Int) := congrArg Int32.toInt c77
     refine s_iconst 101 C X d14_100 kc_iconst_1 ?_
     refine s_nreturn C X d14_101 rfl (by simp) rfl ?_
     exact ⟨Or.inl ⟨rfl, by unfold blankP; omega⟩, rfl⟩
    have t_c77 : ¬ ((x0).toInt = (8239 : Int)) := fun q => c77 (Int32.toInt_inj.mp q)
    refine s_iloadN 81 C X d14_80 rfl ?_
    refine s_sipush 84 C X d14_81 kc_sipush_8287 ?_
    refine s_icmp_eq 100 87 C X d14_84 (fun c84 => ?_) (fun c84 => ?_)
    ·have t_c84 : (x0).toInt = (8287 : Int) := congrArg Int32.toInt c84
     refine s_iconst 101 C X d14_100 kc_iconst_1 ?_
     refine s_nreturn C X d14_101 rfl (by simp) rfl ?_
     exact ⟨Or.inl ⟨rfl, by unfold blankP; omega⟩, rfl⟩
    have t_c84 : ¬ ((x0).toInt = (8287 : Int)) := fun q => c84 (Int32.toInt_inj.mp q)
    refine s_iloadN 88 C X d14_87 rfl ?_
    refine s_sipush 91 C X d14_88 kc_sipush_12288 ?_
    refine s_icmp_eq 100 94 C X d14_91 (fun c91 => ?_) (fun c91 => ?_)
    ·have t_c91 : (x0).toInt = (12288 : Int) := congrArg Int32.toInt c91
     refine s_iconst 101 C X d14_100 kc_iconst_1 ?_
     refine s_nreturn C X d14_101 rfl (by simp) rfl ?_
     exact ⟨Or.inl ⟨rfl, by unfold blankP; omega⟩, rfl⟩
    have t_c91 : ¬ ((x0).toInt = (12288 : Int)) := fun q => c91 (Int32.toInt_inj.mp q)
    refine s_iloadN 95 C X d14_94 rfl ?_
    refine s_ldcInt 97 C X d14_95 (mW 6 rfl) ?_
    refine s_icmp_ne 102 100 C X d14_97 (fun c97 => ?_) (fun c97 => ?_)
    ·have t_c97 : ¬ ((x0).toInt = (65279 : Int)) := fun q => c97 (Int32.toInt_inj.mp q)
     refine s_iconst 103 C X d14_102 kc_iconst_0 ?_
     refine s_nreturn C X d14_103 rfl (by simp) rfl ?_
     exact ⟨Or.inr ⟨rfl, by unfold blankP; omega⟩, rfl⟩
    have t_c97 : (x0).toInt = (65279 : Int) := congrArg Int32.toInt c97
    refine s_iconst 101 C X d14_100 kc_iconst_1 ?_
    refine s_nreturn C X d14_101 rfl (by simp) rfl ?_
    exact ⟨Or.inl ⟨rfl, by unfold blankP; omega⟩, rfl⟩
   have t_c54 : ¬ ((8202 : Int) < (x0).toInt) := fun q => c54 (Int32.lt_iff_toInt_lt.mpr q)
   refine s_iconst 58 C X d14_57 kc_iconst_1 ?_
   refine s_nreturn C X d14_58 rfl (by simp) rfl ?_
   exact ⟨Or.inl ⟨rfl, by unfold blankP; omega⟩, rfl⟩
  have t_c38 : (x0).toInt = (5760 : Int) := congrArg Int32.toInt c38
  refine s_iconst 42 C X d14_41 kc_iconst_1 ?_
  refine s_nreturn C X d14_42 rfl (by simp) rfl ?_
  exact ⟨Or.inl ⟨rfl, by unfold blankP; omega⟩, rfl⟩
 have t_c3 : ¬ ((x0).toInt < (9 : Int)) := fun q => c3 (Int32.lt_iff_toInt_lt.mpr q)
 refine s_iloadN 7 C X d14_6 rfl ?_
 refine s_bipush 9 C X d14_7 kc_bipush_13 ?_
 refine s_icmp_gt 14 12 C X d14_9 (fun c9 => ?_) (fun c9 => ?_)
 ·have t_c9 : (13 : Int) < (x0).toInt := Int32.lt_iff_toInt_lt.mp c9
  refine s_iloadN 15 C X d14_14 rfl ?_
  refine s_bipush 17 C X d14_15 kc_bipush_32 ?_
  refine s_icmp_eq 41 20 C X d14_17 (fun c17 => ?_) (fun c17 => ?_)
  ·have t_c17 : (x0).toInt = (32 : Int) := congrArg Int32.toInt c17
   refine s_iconst 42 C X d14_41 kc_iconst_1 ?_
   refine s_nreturn C X d14_42 rfl (by simp) rfl ?_
   exact ⟨Or.inl ⟨rfl, by unfold blankP; omega⟩, rfl⟩
  have t_c17 : ¬ ((x0).toInt = (32 : Int)) := fun q => c17 (Int32.toInt_inj.mp q)
  refine s_iloadN 21 C X d14_20 rfl ?_
  refine s_sipush 24 C X d14_21 kc_sipush_133 ?_
  refine s_icmp_eq 41 27 C X d14_24 (fun c24 => ?_) (fun c24 => ?_)
  ·have t_c24 : (x0).toInt = (133 : Int) := congrArg Int32.toInt c24
   refine s_iconst 42 C X d14_41 kc_iconst_1 ?_
   refine s_nreturn C X d14_42 rfl (by simp) rfl ?_
   exact ⟨Or.inl ⟨rfl, by unfold blankP; omega⟩, rfl⟩
  have t_c24 : ¬ ((x0).toInt = (133 : Int)) := fun q => c24 (Int32.toInt_inj.mp q)
  refine s_iloadN 28 C X d14_27 rfl ?_
  refine s_sipush 31 C X d14_28 kc_sipush_160 ?_
  refine s_icmp_eq 41 34 C X d14_31 (fun c31 => ?_) (fun c31 => ?_)
  ·have t_c31 : (x0).toInt = (160 : Int) := congrArg Int32.toInt c31
   refine s_iconst 42 C X d14_41 kc_iconst_1 ?_
   refine s_nreturn C X d14_42 rfl (by simp) rfl ?_
   exact ⟨Or.inl ⟨rfl, by unfold blankP; omega⟩, rfl⟩
  have t_c31 : ¬ ((x0).toInt = (160 : Int)) := fun q => c31 (Int32.toInt_inj.mp q)
  refine s_iloadN 35 C X d14_34 rfl ?_
  refine s_sipush 38 C X d14_35 kc_sipush_5760 ?_
  refine s_icmp_ne 43 41 C X d14_38 (fun c38 => ?_) (fun c38 => ?_)
  ·have t_c38 : ¬ ((x0).toInt = (5760 : Int)) := fun q => c38 (Int32.toInt_inj.mp q)
   refine s_iloadN 44 C X d14_43 rfl ?_
   refine s_sipush 47 C X d14_44 kc_sipush_8192 ?_
   refine s_icmp_lt 59 50 C X d14_47 (fun c47 => ?_) (fun c47 => ?_)
   ·have t_c47 : (x0).toInt < (8192 : Int) := Int32.lt_iff_toInt_lt.mp c47
    refine s_iloadN 60 C X d14_59 rfl ?_
    refine s_sipush 63 C X d14_60 kc_sipush_8232 ?_
    refine s_icmp_eq 100 66 C X d14_63 (fun c63 => ?_) (fun c63 => ?_)
    ·have t_c63 : (x0).toInt = (8232 : Int) := congrArg Int32.toInt c63
     refine s_iconst 101 C X d14_100 kc_iconst_1 ?_
     refine s_nreturn C X d14_101 rfl (by simp) rfl ?_
     exact ⟨Or.inl ⟨rfl, by unfold blankP; omega⟩, rfl⟩
    have t_c63 : ¬ ((x0).toInt = (8232 : Int)) := fun q => c63 (Int32.toInt_inj.mp q)
    refine s_iloadN 67 C X d14_66 rfl ?_
    refine s_sipush 70 C X d14_67 kc_sipush_8233 ?_
    refine s_icmp_eq 100 73 C X d14_70 (fun c70 => ?_) (fun c70 => ?_)
    ·have t_c70 : (x0).toInt = (8233 : Int) := congrArg Int32.toInt c70
     refine s_iconst 101 C X d14_100 kc_iconst_1 ?_
     refine s_nreturn C X d14_101 rfl (by simp) rfl ?_
     exact ⟨Or.inl ⟨rfl, by unfold blankP; omega⟩, rfl⟩
    have t_c70 : ¬ ((x0).toInt = (8233 : Int)) := fun q => c70 (Int32.toInt_inj.mp q)
    refine s_iloadN 74 C X d14_73 rfl ?_
    refine s_sipush 77 C X d14_74 kc_sipush_8239 ?_
    refine s_icmp_eq 100 80 C X d14_77 (fun c77 => ?_) (fun c77 => ?_)
    ·have t_c77 : (x0).toInt = (8239 : Int) := congrArg Int32.toInt c77
     refine s_iconst 101 C X d14_100 kc_iconst_1 ?_
     refine s_nreturn C X d14_101 rfl (by simp) rfl ?_
     exact ⟨Or.inl ⟨rfl, by unfold blankP; omega⟩, rfl⟩
    have t_c77 : ¬ ((x0).toInt = (8239 : Int)) := fun q => c77 (Int32.toInt_inj.mp q)
    refine s_iloadN 81 C X d14_80 rfl ?_
    refine s_sipush 84 C X d14_81 kc_sipush_8287 ?_
    refine s_icmp_eq 100 87 C X d14_84 (fun c84 => ?_) (fun c84 => ?_)
    ·have t_c84 : (x0).toInt = (8287 : Int) := congrArg Int32.toInt c84
     refine s_iconst 101 C X d14_100 kc_iconst_1 ?_
     refine s_nreturn C X d14_101 rfl (by simp) rfl ?_
     exact ⟨Or.inl ⟨rfl, by unfold blankP; omega⟩, rfl⟩
    have t_c84 : ¬ ((x0).toInt = (8287 : Int)) := fun q => c84 (Int32.toInt_inj.mp q)
    refine s_iloadN 88 C X d14_87 rfl ?_
    refine s_sipush 91 C X d14_88 kc_sipush_12288 ?_
    refine s_icmp_eq 100 94 C X d14_91 (fun c91 => ?_) (fun c91 => ?_)
    ·have t_c91 : (x0).toInt = (12288 : Int) := congrArg Int32.toInt c91
     refine s_iconst 101 C X d14_100 kc_iconst_1 ?_
     refine s_nreturn C X d14_101 rfl (by simp) rfl ?_
     exact ⟨Or.inl ⟨rfl, by unfold blankP; omega⟩, rfl⟩
    have t_c91 : ¬ ((x0).toInt = (12288 : Int)) := fun q => c91 (Int32.toInt_inj.mp q)
    refine s_iloadN 95 C X d14_94 rfl ?_
    refine s_ldcInt 97 C X d14_95 (mW 6 rfl) ?_
    refine s_icmp_ne 102 100 C X d14_97 (fun c97 => ?_) (fun c97 => ?_)
    ·have t_c97 : ¬ ((x0).toInt = (65279 : Int)) := fun q => c97 (Int32.toInt_inj.mp q)
     refine s_iconst 103 C X d14_102 kc_iconst_0 ?_
     refine s_nreturn C X d14_103 rfl (by simp) rfl ?_
     exact ⟨Or.inr ⟨rfl, by unfold blankP; omega⟩, rfl⟩
    have t_c97 : (x0).toInt = (65279 : Int) := congrArg Int32.toInt c97
    refine s_iconst 101 C X d14_100 kc_iconst_1 ?_
    refine s_nreturn C X d14_101 rfl (by simp) rfl ?_
    exact ⟨Or.inl ⟨rfl, by unfold blankP; omega⟩, rfl⟩
   have t_c47 : ¬ ((x0).toInt < (8192 : Int)) := fun q => c47 (Int32.lt_iff_toInt_lt.mpr q)
   refine s_iloadN 51 C X d14_50 rfl ?_
   refine s_sipush 54 C X d14_51 kc_sipush_8202 ?_
   refine s_icmp_gt 59 57 C X d14_54 (fun c54 => ?_) (fun c54 => ?_)
   ·have t_c54 : (8202 : Int) < (x0).toInt := Int32.lt_iff_toInt_lt.mp c54
    refine s_iloadN 60 C X d14_59 rfl ?_
    refine s_sipush 63 C X d14_60 kc_sipush_8232 ?_
    refine s_icmp_eq 100 66 C X d14_63 (fun c63 => ?_) (fun c63 => ?_)
    ·have t_c63 : (x0).toInt = (8232 : Int) := congrArg Int32.toInt c63
     refine s_iconst 101 C X d14_100 kc_iconst_1 ?_
     refine s_nreturn C X d14_101 rfl (by simp) rfl ?_
     exact ⟨Or.inl ⟨rfl, by unfold blankP; omega⟩, rfl⟩
    have t_c63 : ¬ ((x0).toInt = (8232 : Int)) := fun q => c63 (Int32.toInt_inj.mp q)
    refine s_iloadN 67 C X d14_66 rfl ?_
    refine s_sipush 70 C X d14_67 kc_sipush_8233 ?_
    refine s_icmp_eq 100 73 C X d14_70 (fun c70 => ?_) (fun c70 => ?_)
    ·have t_c70 : (x0).toInt = (8233 : Int) := congrArg Int32.toInt c70
     refine s_iconst 101 C X d14_100 kc_iconst_1 ?_
     refine s_nreturn C X d14_101 rfl (by simp) rfl ?_
     exact ⟨Or.inl ⟨rfl, by unfold blankP; omega⟩, rfl⟩
    have t_c70 : ¬ ((x0).toInt = (8233 : Int)) := fun q => c70 (Int32.toInt_inj.mp q)
    refine s_iloadN 74 C X d14_73 rfl ?_
    refine s_sipush 77 C X d14_74 kc_sipush_8239 ?_
    refine s_icmp_eq 100 80 C X d14_77 (fun c77 => ?_) (fun c77 => ?_)
    ·have t_c77 : (x0).toInt = (8239 : Int) := congrArg Int32.toInt c77
     refine s_iconst 101 C X d14_100 kc_iconst_1 ?_
     refine s_nreturn C X d14_101 rfl (by simp) rfl ?_
     exact ⟨Or.inl ⟨rfl, by unfold blankP; omega⟩, rfl⟩
    have t_c77 : ¬ ((x0).toInt = (8239 : Int)) := fun q => c77 (Int32.toInt_inj.mp q)
    refine s_iloadN 81 C X d14_80 rfl ?_
    refine s_sipush 84 C X d14_81 kc_sipush_8287 ?_
    refine s_icmp_eq 100 87 C X d14_84 (fun c84 => ?_) (fun c84 => ?_)
    ·have t_c84 : (x0).toInt = (8287 : Int) := congrArg Int32.toInt c84
     refine s_iconst 101 C X d14_100 kc_iconst_1 ?_
     refine s_nreturn C X d14_101 rfl (by simp) rfl ?_
     exact ⟨Or.inl ⟨rfl, by unfold blankP; omega⟩, rfl⟩
    have t_c84 : ¬ ((x0).toInt = (8287 : Int)) := fun q => c84 (Int32.toInt_inj.mp q)
    refine s_iloadN 88 C X d14_87 rfl ?_
    refine s_sipush 91 C X d14_88 kc_sipush_12288 ?_
    refine s_icmp_eq 100 94 C X d14_91 (fun c91 => ?_) (fun c91 => ?_)
    ·have t_c91 : (x0).toInt = (12288 : Int) := congrArg Int32.toInt c91
     refine s_iconst 101 C X d14_100 kc_iconst_1 ?_
     refine s_nreturn C X d14_101 rfl (by simp) rfl ?_
     exact ⟨Or.inl ⟨rfl, by unfold blankP; omega⟩, rfl⟩
    have t_c91 : ¬ ((x0).toInt = (12288 : Int)) := fun q => c91 (Int32.toInt_inj.mp q)
    refine s_iloadN 95 C X d14_94 rfl ?_
    refine s_ldcInt 97 C X d14_95 (mW 6 rfl) ?_
    refine s_icmp_ne 102 100 C X d14_97 (fun c97 => ?_) (fun c97 => ?_)
    ·have t_c97 : ¬ ((x0).toInt = (65279 : Int)) := fun q => c97 (Int32.toInt_inj.mp q)
     refine s_iconst 103 C X d14_102 kc_iconst_0 ?_
     refine s_nreturn C X d14_103 rfl (by simp) rfl ?_
     exact ⟨Or.inr ⟨rfl, by unfold blankP; omega⟩, rfl⟩
    have t_c97 : (x0).toInt = (65279 : Int) := congrArg Int32.toInt c97
    refine s_iconst 101 C X d14_100 kc_iconst_1 ?_
    refine s_nreturn C X d14_101 rfl (by simp) rfl ?_
    exact ⟨Or.inl ⟨rfl, by unfold blankP; omega⟩, rfl⟩
   have t_c54 : ¬ ((8202 : Int) < (x0).toInt) := fun q => c54 (Int32.lt_iff_toInt_lt.mpr q)
   refine s_iconst 58 C X d14_57 kc_iconst_1 ?_
   refine s_nreturn C X d14_58 rfl (by simp) rfl ?_
   exact ⟨Or.inl ⟨rfl, by unfold blankP; omega⟩, rfl⟩
  have t_c38 : (x0).toInt = (5760 : Int) := congrArg Int32.toInt c38
  refine s_iconst 42 C X d14_41 kc_iconst_1 ?_
  refine s_nreturn C X d14_42 rfl (by simp) rfl ?_
  exact ⟨Or.inl ⟨rfl, by unfold blankP; omega⟩, rfl⟩
 have t_c9 : ¬ ((13 : Int) < (x0).toInt) := fun q => c9 (Int32.lt_iff_toInt_lt.mpr q)
 refine s_iconst 13 C X d14_12 kc_iconst_1 ?_
 refine s_nreturn C X d14_13 rfl (by simp) rfl ?_
 exact ⟨Or.inl ⟨rfl, by unfold blankP; omega⟩, rfl⟩
theorem rm_a1 (hw : Hw a0 Z) (ga0 : Int32) (h0 : Heap) (n0 : Nat) (Z0 : n0 ≤ h0.size)  :
  Met l Z (⟨"com/example/tinsel_tally/tinseltally/BlanksStripPinLaw", "draw", "(I)C"⟩ : MethodName) method_2_code 3 (some .char) (rM 0 1 52 0) [] #[.int ga0] h0 n0 (fun v h => ∃ (yF : Int32), v = some (.int yF) ∧ own_U yF ∧ Keep h0 h []) := by
 refine Met.mkQ (tabs := tables_1) (a0 := a0) (ls0 := #[iv ga0, un, un]) (plainFor_of_name pn_com_example_tinsel_tally_tinseltally_BlanksStripPinLaw) hw Z0 (fun m => by first | (simp [entryFrame, mkF, argsToLocals, Value.category]; done) | rfl) ?_
 intro p e s m below meth c T Q' G' hQ hG C X
 have Kp : Keep h0 h0 [] := Keep.refl _ _
 refine s_iloadN 1 C X d1_0 rfl ?_
 refine s_iconst 2 C X d1_1 kc_iconst_1 ?_
 refine s_iand 3 C X d1_2 ?_
 refine s_if_ne 12 6 C X d1_3 (fun c3_2 => ?_) (fun c3_2 => ?_)
 ·have t_c3_2 : ¬ (((ga0 &&& i1)).toInt = (0 : Int)) := fun q => c3_2 (Int32.toInt_inj.mp q)
  refine s_bipush 14 C X d1_12 kc_bipush_52 ?_
  refine s_newarray 16 52 C X d1_14 (mW 5 rfl) (by decide) (by decide) (fun T hh o3 k_o3 hb_o3 X E A_o3 g_o3 => ?_)
  have sz_o3 : h0.size ≤ o3 := Nat.le_trans Kp.1 (Nat.le_of_eq hb_o3)
  have Kp := Kp.ext E
  have A_o3 : Arv Z _ o3 k_o3 .char i52 (tw 0) (.int i0) := A_o3.pad (pad_rep [] _ 52)
  refine s_dup 17 C X d1_16 rfl ?_
  refine s_iconst 18 C X d1_17 kc_iconst_0 ?_
  refine s_bipush 20 C X d1_18 kc_bipush_9 ?_
  refine s_castore 21 0 C X d1_20 A_o3 g_o3 ⟨by decide, by decide⟩ rfl (Nat.le_of_ble_eq_true rfl) (fun T hh X W A_o3 => ?_)
  have A_o3 : Arv Z _ o3 k_o3 .char i52 (tw 1) (.int i0) := A_o3
  have Kp := Kp.wr W (Or.inr sz_o3)
  refine s_dup 22 C X d1_21 rfl ?_
  refine s_iconst 23 C X d1_22 kc_iconst_1 ?_
  refine s_bipush 25 C X d1_23 kc_bipush_10 ?_
  refine s_castore 26 1 C X d1_25 A_o3 g_o3 ⟨by decide, by decide⟩ rfl (Nat.le_of_ble_eq_true rfl) (fun T hh X W A_o3 => ?_)
  have A_o3 : Arv Z _ o3 k_o3 .char i52 (tw 2) (.int i0) := A_o3
  have Kp := Kp.wr W (Or.inr sz_o3)
  refine s_dup 27 C X d1_26 rfl ?_
  refine s_iconst 28 C X d1_27 kc_iconst_2 ?_
  refine s_bipush 30 C X d1_28 kc_bipush_11 ?_
  refine s_castore 31 2 C X d1_30 A_o3 g_o3 ⟨by decide, by decide⟩ rfl (Nat.le_of_ble_eq_true rfl) (fun T hh X W A_o3 => ?_)
  have A_o3 : Arv Z _ o3 k_o3 .char i52 (tw 3) (.int i0) := A_o3
  have Kp := Kp.wr W (Or.inr sz_o3)
  refine s_dup 32 C X d1_31 rfl ?_
  refine s_iconst 33 C X d1_32 kc_iconst_3 ?_
  refine s_bipush 35 C X d1_33 kc_bipush_12 ?_
  refine s_castore 36 3 C X d1_35 A_o3 g_o3 ⟨by decide, by decide⟩ rfl (Nat.le_of_ble_eq_true rfl) (fun T hh X W A_o3 => ?_)
  have A_o3 : Arv Z _ o3 k_o3 .char i52 (tw 4) (.int i0) := A_o3
  have Kp := Kp.wr W (Or.inr sz_o3)
  refine s_dup 37 C X d1_36 rfl ?_
  refine s_iconst 38 C X d1_37 kc_iconst_4 ?_
  refine s_bipush 40 C X d1_38 kc_bipush_13 ?_
  refine s_castore 41 4 C X d1_40 A_o3 g_o3 ⟨by decide, by decide⟩ rfl (Nat.le_of_ble_eq_true rfl) (fun T hh X W A_o3 => ?_)
  have A_o3 : Arv Z _ o3 k_o3 .char i52 (tw 5) (.int i0) := A_o3
  have Kp := Kp.wr W (Or.inr sz_o3)
  refine s_dup 42 C X d1_41 rfl ?_
  refine s_iconst 43 C X d1_42 kc_iconst_5 ?_
  refine s_bipush 45 C X d1_43 kc_bipush_32 ?_
  refine s_castore 46 5 C X d1_45 A_o3 g_o3 ⟨by decide, by decide⟩ rfl (Nat.le_of_ble_eq_true rfl) (fun T hh X W A_o3 => ?_)
  have A_o3 : Arv Z _ o3 k_o3 .char i52 (tw 6) (.int i0) := A_o3
  have Kp := Kp.wr W (Or.inr sz_o3)
  refine s_dup 47 C X d1_46 rfl ?_
  refine s_bipush 49 C X d1_47 kc_bipush_6 ?_
  refine s_sipush 52 C X d1_49 kc_sipush_133 ?_
  refine s_castore 53 6 C X d1_52 A_o3 g_o3 ⟨by decide, by decide⟩ rfl (Nat.le_of_ble_eq_true rfl) (fun T hh X W A_o3 => ?_)
  have A_o3 : Arv Z _ o3 k_o3 .char i52 (tw 7) (.int i0) := A_o3
  have Kp := Kp.wr W (Or.inr sz_o3)
  refine s_dup 54 C X d1_53 rfl ?_
  refine s_bipush 56 C X d1_54 kc_bipush_7 ?_
  refine s_sipush 59 C X d1_56 kc_sipush_160 ?_
  refine s_castore 60 7 C X d1_59 A_o3 g_o3 ⟨by decide, by decide⟩ rfl (Nat.le_of_ble_eq_true rfl) (fun T hh X W A_o3 => ?_)
  have A_o3 : Arv Z _ o3 k_o3 .char i52 (tw 8) (.int i0) := A_o3
  have Kp := Kp.wr W (Or.inr sz_o3)
  refine s_dup 61 C X d1_60 rfl ?_
  refine s_bipush 63 C X d1_61 kc_bipush_8 ?_
  refine s_sipush 66 C X d1_63 kc_sipush_5760 ?_
  refine s_castore 67 8 C X d1_66 A_o3 g_o3 ⟨by decide, by decide⟩ rfl (Nat.le_of_ble_eq_true rfl) (fun T hh X W A_o3 => ?_)
  have A_o3 : Arv Z _ o3 k_o3 .char i52 (tw 9) (.int i0) := A_o3
  have Kp := Kp.wr W (Or.inr sz_o3)
  refine s_dup 68 C X d1_67 rfl ?_
  refine s_bipush 70 C X d1_68 kc_bipush_9 ?_
  refine s_sipush 73 C X d1_70 kc_sipush_8192 ?_
  refine s_castore 74 9 C X d1_73 A_o3 g_o3 ⟨by decide, by decide⟩ rfl (Nat.le_of_ble_eq_true rfl) (fun T hh X W A_o3 => ?_)
  have A_o3 : Arv Z _ o3 k_o3 .char i52 (tw 10) (.int i0) := A_o3
  have Kp := Kp.wr W (Or.inr sz_o3)
  refine s_dup 75 C X d1_74 rfl ?_
  refine s_bipush 77 C X d1_75 kc_bipush_10 ?_
  refine s_sipush 80 C X d1_77 kc_sipush_8193 ?_
  refine s_castore 81 10 C X d1_80 A_o3 g_o3 ⟨by decide, by decide⟩ rfl (Nat.le_of_ble_eq_true rfl) (fun T hh X W A_o3 => ?_)
  have A_o3 : Arv Z _ o3 k_o3 .char i52 (tw 11) (.int i0) := A_o3
  have Kp := Kp.wr W (Or.inr sz_o3)
  refine s_dup 82 C X d1_81 rfl ?_
  refine s_bipush 84 C X d1_82 kc_bipush_11 ?_
  refine s_sipush 87 C X d1_84 kc_sipush_8194 ?_
  refine s_castore 88 11 C X d1_87 A_o3 g_o3 ⟨by decide, by decide⟩ rfl (Nat.le_of_ble_eq_true rfl) (fun T hh X W A_o3 => ?_)
  have A_o3 : Arv Z _ o3 k_o3 .char i52 (tw 12) (.int i0) := A_o3
  have Kp := Kp.wr W (Or.inr sz_o3)
  refine s_dup 89 C X d1_88 rfl ?_
  refine s_bipush 91 C X d1_89 kc_bipush_12 ?_
  refine s_sipush 94 C X d1_91 kc_sipush_8195 ?_
  refine s_castore 95 12 C X d1_94 A_o3 g_o3 ⟨by decide, by decide⟩ rfl (Nat.le_of_ble_eq_true rfl) (fun T hh X W A_o3 => ?_)
  have A_o3 : Arv Z _ o3 k_o3 .char i52 (tw 13) (.int i0) := A_o3
  have Kp := Kp.wr W (Or.inr sz_o3)
  refine s_dup 96 C X d1_95 rfl ?_
  refine s_bipush 98 C X d1_96 kc_bipush_13 ?_
  refine s_sipush 101 C X d1_98 kc_sipush_8196 ?_
  refine s_castore 102 13 C X d1_101 A_o3 g_o3 ⟨by decide, by decide⟩ rfl (Nat.le_of_ble_eq_true rfl) (fun T hh X W A_o3 => ?_)
  have A_o3 : Arv Z _ o3 k_o3 .char i52 (tw 14) (.int i0) := A_o3
  have Kp := Kp.wr W (Or.inr sz_o3)
  refine s_dup 103 C X d1_102 rfl ?_
  refine s_bipush 105 C X d1_103 kc_bipush_14 ?_
  refine s_sipush 108 C X d1_105 kc_sipush_8197 ?_
  refine s_castore 109 14 C X d1_108 A_o3 g_o3 ⟨by decide, by decide⟩ rfl (Nat.le_of_ble_eq_true rfl) (fun T hh X W A_o3 => ?_)
  have A_o3 : Arv Z _ o3 k_o3 .char i52 (tw 15) (.int i0) := A_o3
  have Kp := Kp.wr W (Or.inr sz_o3)
  refine s_dup 110 C X d1_109 rfl ?_
  refine s_bipush 112 C X d1_110 kc_bipush_15 ?_
  refine s_sipush 115 C X d1_112 kc_sipush_8198 ?_
  refine s_castore 116 15 C X d1_115 A_o3 g_o3 ⟨by decide, by decide⟩ rfl (Nat.le_of_ble_eq_true rfl) (fun T hh X W A_o3 => ?_)
  have A_o3 : Arv Z _ o3 k_o3 .char i52 (tw 16) (.int i0) := A_o3
  have Kp := Kp.wr W (Or.inr sz_o3)
  refine s_dup 117 C X d1_116 rfl ?_
  refine s_bipush 119 C X d1_117 kc_bipush_16 ?_
  refine s_sipush 122 C X d1_119 kc_sipush_8199 ?_
  refine s_castore 123 16 C X d1_122 A_o3 g_o3 ⟨by decide, by decide⟩ rfl (Nat.le_of_ble_eq_true rfl) (fun T hh X W A_o3 => ?_)
  have A_o3 : Arv Z _ o3 k_o3 .char i52 (tw 17) (.int i0) := A_o3
  have Kp := Kp.wr W (Or.inr sz_o3)
  refine s_dup 124 C X d1_123 rfl ?_
  refine s_bipush 126 C X d1_124 kc_bipush_17 ?_
  refine s_sipush 129 C X d1_126 kc_sipush_8200 ?_
  refine s_castore 130 17 C X d1_129 A_o3 g_o3 ⟨by decide, by decide⟩ rfl (Nat.le_of_ble_eq_true rfl) (fun T hh X W A_o3 => ?_)
  have A_o3 : Arv Z _ o3 k_o3 .char i52 (tw 18) (.int i0) := A_o3
  have Kp := Kp.wr W (Or.inr sz_o3)
  refine s_dup 131 C X d1_130 rfl ?_
  refine s_bipush 133 C X d1_131 kc_bipush_18 ?_
  refine s_sipush 136 C X d1_133 kc_sipush_8201 ?_
  refine s_castore 137 18 C X d1_136 A_o3 g_o3 ⟨by decide, by decide⟩ rfl (Nat.le_of_ble_eq_true rfl) (fun T hh X W A_o3 => ?_)
  have A_o3 : Arv Z _ o3 k_o3 .char i52 (tw 19) (.int i0) := A_o3
  have Kp := Kp.wr W (Or.inr sz_o3)
  refine s_dup 138 C X d1_137 rfl ?_
  refine s_bipush 140 C X d1_138 kc_bipush_19 ?_
  refine s_sipush 143 C X d1_140 kc_sipush_8202 ?_
  refine s_castore 144 19 C X d1_143 A_o3 g_o3 ⟨by decide, by decide⟩ rfl (Nat.le_of_ble_eq_true rfl) (fun T hh X W A_o3 => ?_)
  have A_o3 : Arv Z _ o3 k_o3 .char i52 (tw 20) (.int i0) := A_o3
  have Kp := Kp.wr W (Or.inr sz_o3)
  refine s_dup 145 C X d1_144 rfl ?_
  refine s_bipush 147 C X d1_145 kc_bipush_20 ?_
  refine s_sipush 150 C X d1_147 kc_sipush_8232 ?_
  refine s_castore 151 20 C X d1_150 A_o3 g_o3 ⟨by decide, by decide⟩ rfl (Nat.le_of_ble_eq_true rfl) (fun T hh X W A_o3 => ?_)
  have A_o3 : Arv Z _ o3 k_o3 .char i52 (tw 21) (.int i0) := A_o3
  have Kp := Kp.wr W (Or.inr sz_o3)
  refine s_dup 152 C X d1_151 rfl ?_
  refine s_bipush 154 C X d1_152 kc_bipush_21 ?_
  refine s_sipush 157 C X d1_154 kc_sipush_8233 ?_
  refine s_castore 158 21 C X d1_157 A_o3 g_o3 ⟨by decide, by decide⟩ rfl (Nat.le_of_ble_eq_true rfl) (fun T hh X W A_o3 => ?_)
  have A_o3 : Arv Z _ o3 k_o3 .char i52 (tw 22) (.int i0) := A_o3
  have Kp := Kp.wr W (Or.inr sz_o3)
  refine s_dup 159 C X d1_158 rfl ?_
  refine s_bipush 161 C X d1_159 kc_bipush_22 ?_
  refine s_sipush 164 C X d1_161 kc_sipush_8239 ?_
  refine s_castore 165 22 C X d1_164 A_o3 g_o3 ⟨by decide, by decide⟩ rfl (Nat.le_of_ble_eq_true rfl) (fun T hh X W A_o3 => ?_)
  have A_o3 : Arv Z _ o3 k_o3 .char i52 (tw 23) (.int i0) := A_o3
  have Kp := Kp.wr W (Or.inr sz_o3)
  refine s_dup 166 C X d1_165 rfl ?_
  refine s_bipush 168 C X d1_166 kc_bipush_23 ?_
  refine s_sipush 171 C X d1_168 kc_sipush_8287 ?_
  refine s_castore 172 23 C X d1_171 A_o3 g_o3 ⟨by decide, by decide⟩ rfl (Nat.le_of_ble_eq_true rfl) (fun T hh X W A_o3 => ?_)
  have A_o3 : Arv Z _ o3 k_o3 .char i52 (tw 24) (.int i0) := A_o3
  have Kp := Kp.wr W (Or.inr sz_o3)
  refine s_dup 173 C X d1_172 rfl ?_
  refine s_bipush 175 C X d1_173 kc_bipush_24 ?_
  refine s_sipush 178 C X d1_175 kc_sipush_12288 ?_
  refine s_castore 179 24 C X d1_178 A_o3 g_o3 ⟨by decide, by decide⟩ rfl (Nat.le_of_ble_eq_true rfl) (fun T hh X W A_o3 => ?_)
  have A_o3 : Arv Z _ o3 k_o3 .char i52 (tw 25) (.int i0) := A_o3
  have Kp := Kp.wr W (Or.inr sz_o3)
  refine s_dup 180 C X d1_179 rfl ?_
  refine s_bipush 182 C X d1_180 kc_bipush_25 ?_
  refine s_ldcInt 184 C X d1_182 (mW 6 rfl) ?_
  refine s_castore 185 25 C X d1_184 A_o3 g_o3 ⟨by decide, by decide⟩ rfl (Nat.le_of_ble_eq_true rfl) (fun T hh X W A_o3 => ?_)
  have A_o3 : Arv Z _ o3 k_o3 .char i52 (tw 26) (.int i0) := A_o3
  have Kp := Kp.wr W (Or.inr sz_o3)
  refine s_dup 186 C X d1_185 rfl ?_
  refine s_bipush 188 C X d1_186 kc_bipush_26 ?_
  refine s_iconst 189 C X d1_188 kc_iconst_0 ?_
  refine s_castore 190 26 C X d1_189 A_o3 g_o3 ⟨by decide, by decide⟩ rfl (Nat.le_of_ble_eq_true rfl) (fun T hh X W A_o3 => ?_)
  have A_o3 : Arv Z _ o3 k_o3 .char i52 (tw 27) (.int i0) := A_o3
  have Kp := Kp.wr W (Or.inr sz_o3)
  refine s_dup 191 C X d1_190 rfl ?_
  refine s_bipush 193 C X d1_191 kc_bipush_27 ?_
  refine s_bipush 195 C X d1_193 kc_bipush_8 ?_
  refine s_castore 196 27 C X d1_195 A_o3 g_o3 ⟨by decide, by decide⟩ rfl (Nat.le_of_ble_eq_true rfl) (fun T hh X W A_o3 => ?_)
  have A_o3 : Arv Z _ o3 k_o3 .char i52 (tw 28) (.int i0) := A_o3
  have Kp := Kp.wr W (Or.inr sz_o3)
  refine s_dup 197 C X d1_196 rfl ?_
  refine s_bipush 199 C X d1_197 kc_bipush_28 ?_
  refine s_bipush 201 C X d1_199 kc_bipush_14 ?_
  refine s_castore 202 28 C X d1_201 A_o3 g_o3 ⟨by decide, by decide⟩ rfl (Nat.le_of_ble_eq_true rfl) (fun T hh X W A_o3 => ?_)
  have A_o3 : Arv Z _ o3 k_o3 .char i52 (tw 29) (.int i0) := A_o3
  have Kp := Kp.wr W (Or.inr sz_o3)
  refine s_dup 203 C X d1_202 rfl ?_
  refine s_bipush 205 C X d1_203 kc_bipush_29 ?_
  refine s_bipush 207 C X d1_205 kc_bipush_28 ?_
  refine s_castore 208 29 C X d1_207 A_o3 g_o3 ⟨by decide, by decide⟩ rfl (Nat.le_of_ble_eq_true rfl) (fun T hh X W A_o3 => ?_)
  have A_o3 : Arv Z _ o3 k_o3 .char i52 (tw 30) (.int i0) := A_o3
  have Kp := Kp.wr W (Or.inr sz_o3)
  refine s_dup 209 C X d1_208 rfl ?_
  refine s_bipush 211 C X d1_209 kc_bipush_30 ?_
  refine s_bipush 213 C X d1_211 kc_bipush_31 ?_
  refine s_castore 214 30 C X d1_213 A_o3 g_o3 ⟨by decide, by decide⟩ rfl (Nat.le_of_ble_eq_true rfl) (fun T hh X W A_o3 => ?_)
  have A_o3 : Arv Z _ o3 k_o3 .char i52 (tw 31) (.int i0) := A_o3
  have Kp := Kp.wr W (Or.inr sz_o3)
  refine s_dup 215 C X d1_214 rfl ?_
  refine s_bipush 217 C X d1_215 kc_bipush_31 ?_
  refine s_bipush 219 C X d1_217 kc_bipush_33 ?_
  refine s_castore 220 31 C X d1_219 A_o3 g_o3 ⟨by decide, by decide⟩ rfl (Nat.le_of_ble_eq_true rfl) (fun T hh X W A_o3 => ?_)
  have A_o3 : Arv Z _ o3 k_o3 .char i52 (tw 32) (.int i0) := A_o3
  have Kp := Kp.wr W (Or.inr sz_o3)
  refine s_dup 221 C X d1_220 rfl ?_
  refine s_bipush 223 C X d1_221 kc_bipush_32 ?_
  refine s_bipush 225 C X d1_223 kc_bipush_97 ?_
  refine s_castore 226 32 C X d1_225 A_o3 g_o3 ⟨by decide, by decide⟩ rfl (Nat.le_of_ble_eq_true rfl) (fun T hh X W A_o3 => ?_)
  have A_o3 : Arv Z _ o3 k_o3 .char i52 (tw 33) (.int i0) := A_o3
  have Kp := Kp.wr W (Or.inr sz_o3)
  refine s_dup 227 C X d1_226 rfl ?_
  refine s_bipush 229 C X d1_227 kc_bipush_33 ?_
  refine s_sipush 232 C X d1_229 kc_sipush_132 ?_
  refine s_castore 233 33 C X d1_232 A_o3 g_o3 ⟨by decide, by decide⟩ rfl (Nat.le_of_ble_eq_true rfl) (fun T hh X W A_o3 => ?_)
  have A_o3 : Arv Z _ o3 k_o3 .char i52 (tw 34) (.int i0) := A_o3
  have Kp := Kp.wr W (Or.inr sz_o3)
  refine s_dup 234 C X d1_233 rfl ?_
  refine s_bipush 236 C X d1_234 kc_bipush_34 ?_
  refine s_sipush 239 C X d1_236 kc_sipush_134 ?_
  refine s_castore 240 34 C X d1_239 A_o3 g_o3 ⟨by decide, by decide⟩ rfl (Nat.le_of_ble_eq_true rfl) (fun T hh X W A_o3 => ?_)
  have A_o3 : Arv Z _ o3 k_o3 .char i52 (tw 35) (.int i0) := A_o3
  have Kp := Kp.wr W (Or.inr sz_o3)
  refine s_dup 241 C X d1_240 rfl ?_
  refine s_bipush 243 C X d1_241 kc_bipush_35 ?_
  refine s_sipush 246 C X d1_243 kc_sipush_159 ?_
  refine s_castore 247 35 C X d1_246 A_o3 g_o3 ⟨by decide, by decide⟩ rfl (Nat.le_of_ble_eq_true rfl) (fun T hh X W A_o3 => ?_)
  have A_o3 : Arv Z _ o3 k_o3 .char i52 (tw 36) (.int i0) := A_o3
  have Kp := Kp.wr W (Or.inr sz_o3)
  refine s_dup 248 C X d1_247 rfl ?_
  refine s_bipush 250 C X d1_248 kc_bipush_36 ?_
  refine s_sipush 253 C X d1_250 kc_sipush_161 ?_
  refine s_castore 254 36 C X d1_253 A_o3 g_o3 ⟨by decide, by decide⟩ rfl (Nat.le_of_ble_eq_true rfl) (fun T hh X W A_o3 => ?_)
  have A_o3 : Arv Z _ o3 k_o3 .char i52 (tw 37) (.int i0) := A_o3
  have Kp := Kp.wr W (Or.inr sz_o3)
  refine s_dup 255 C X d1_254 rfl ?_
  refine s_bipush 257 C X d1_255 kc_bipush_37 ?_
  refine s_sipush 260 C X d1_257 kc_sipush_5759 ?_
  refine s_castore 261 37 C X d1_260 A_o3 g_o3 ⟨by decide, by decide⟩ rfl (Nat.le_of_ble_eq_true rfl) (fun T hh X W A_o3 => ?_)
  have A_o3 : Arv Z _ o3 k_o3 .char i52 (tw 38) (.int i0) := A_o3
  have Kp := Kp.wr W (Or.inr sz_o3)
  refine s_dup 262 C X d1_261 rfl ?_
  refine s_bipush 264 C X d1_262 kc_bipush_38 ?_
  refine s_sipush 267 C X d1_264 kc_sipush_5761 ?_
  refine s_castore 268 38 C X d1_267 A_o3 g_o3 ⟨by decide, by decide⟩ rfl (Nat.le_of_ble_eq_true rfl) (fun T hh X W A_o3 => ?_)
  have A_o3 : Arv Z _ o3 k_o3 .char i52 (tw 39) (.int i0) := A_o3
  have Kp := Kp.wr W (Or.inr sz_o3)
  refine s_dup 269 C X d1_268 rfl ?_
  refine s_bipush 271 C X d1_269 kc_bipush_39 ?_
  refine s_sipush 274 C X d1_271 kc_sipush_6158 ?_
  refine s_castore 275 39 C X d1_274 A_o3 g_o3 ⟨by decide, by decide⟩ rfl (Nat.le_of_ble_eq_true rfl) (fun T hh X W A_o3 => ?_)
  have A_o3 : Arv Z _ o3 k_o3 .char i52 (tw 40) (.int i0) := A_o3
  have Kp := Kp.wr W (Or.inr sz_o3)
  refine s_dup 276 C X d1_275 rfl ?_
  refine s_bipush 278 C X d1_276 kc_bipush_40 ?_
  refine s_sipush 281 C X d1_278 kc_sipush_8191 ?_
  refine s_castore 282 40 C X d1_281 A_o3 g_o3 ⟨by decide, by decide⟩ rfl (Nat.le_of_ble_eq_true rfl) (fun T hh X W A_o3 => ?_)
  have A_o3 : Arv Z _ o3 k_o3 .char i52 (tw 41) (.int i0) := A_o3
  have Kp := Kp.wr W (Or.inr sz_o3)
  refine s_dup 283 C X d1_282 rfl ?_
  refine s_bipush 285 C X d1_283 kc_bipush_41 ?_
  refine s_sipush 288 C X d1_285 kc_sipush_8203 ?_
  refine s_castore 289 41 C X d1_288 A_o3 g_o3 ⟨by decide, by decide⟩ rfl (Nat.le_of_ble_eq_true rfl) (fun T hh X W A_o3 => ?_)
  have A_o3 : Arv Z _ o3 k_o3 .char i52 (tw 42) (.int i0) := A_o3
  have Kp := Kp.wr W (Or.inr sz_o3)
  refine s_dup 290 C X d1_289 rfl ?_
  refine s_bipush 292 C X d1_290 kc_bipush_42 ?_
  refine s_sipush 295 C X d1_292 kc_sipush_8231 ?_
  refine s_castore 296 42 C X d1_295 A_o3 g_o3 ⟨by decide, by decide⟩ rfl (Nat.le_of_ble_eq_true rfl) (fun T hh X W A_o3 => ?_)
  have A_o3 : Arv Z _ o3 k_o3 .char i52 (tw 43) (.int i0) := A_o3
  have Kp := Kp.wr W (Or.inr sz_o3)
  refine s_dup 297 C X d1_296 rfl ?_
  refine s_bipush 299 C X d1_297 kc_bipush_43 ?_
  refine s_sipush 302 C X d1_299 kc_sipush_8234 ?_
  refine s_castore 303 43 C X d1_302 A_o3 g_o3 ⟨by decide, by decide⟩ rfl (Nat.le_of_ble_eq_true rfl) (fun T hh X W A_o3 => ?_)
  have A_o3 : Arv Z _ o3 k_o3 .char i52 (tw 44) (.int i0) := A_o3
  have Kp := Kp.wr W (Or.inr sz_o3)
  refine s_dup 304 C X d1_303 rfl ?_
  refine s_bipush 306 C X d1_304 kc_bipush_44 ?_
  refine s_sipush 309 C X d1_306 kc_sipush_8238 ?_
  refine s_castore 310 44 C X d1_309 A_o3 g_o3 ⟨by decide, by decide⟩ rfl (Nat.le_of_ble_eq_true rfl) (fun T hh X W A_o3 => ?_)
  have A_o3 : Arv Z _ o3 k_o3 .char i52 (tw 45) (.int i0) := A_o3
  have Kp := Kp.wr W (Or.inr sz_o3)
  refine s_dup 311 C X d1_310 rfl ?_
  refine s_bipush 313 C X d1_311 kc_bipush_45 ?_
  refine s_sipush 316 C X d1_313 kc_sipush_8240 ?_
  refine s_castore 317 45 C X d1_316 A_o3 g_o3 ⟨by decide, by decide⟩ rfl (Nat.le_of_ble_eq_true rfl) (fun T hh X W A_o3 => ?_)
  have A_o3 : Arv Z _ o3 k_o3 .char i52 (tw 46) (.int i0) := A_o3
  have Kp := Kp.wr W (Or.inr sz_o3)
  refine s_dup 318 C X d1_317 rfl ?_
  refine s_bipush 320 C X d1_318 kc_bipush_46 ?_
  refine s_sipush 323 C X d1_320 kc_sipush_8286 ?_
  refine s_castore 324 46 C X d1_323 A_o3 g_o3 ⟨by decide, by decide⟩ rfl (Nat.le_of_ble_eq_true rfl) (fun T hh X W A_o3 => ?_)
  have A_o3 : Arv Z _ o3 k_o3 .char i52 (tw 47) (.int i0) := A_o3
  have Kp := Kp.wr W (Or.inr sz_o3)
  refine s_dup 325 C X d1_324 rfl ?_
  refine s_bipush 327 C X d1_325 kc_bipush_47 ?_
  refine s_sipush 330 C X d1_327 kc_sipush_8288 ?_
  refine s_castore 331 47 C X d1_330 A_o3 g_o3 ⟨by decide, by decide⟩ rfl (Nat.le_of_ble_eq_true rfl) (fun T hh X W A_o3 => ?_)
  have A_o3 : Arv Z _ o3 k_o3 .char i52 (tw 48) (.int i0) := A_o3
  have Kp := Kp.wr W (Or.inr sz_o3)
  refine s_dup 332 C X d1_331 rfl ?_
  refine s_bipush 334 C X d1_332 kc_bipush_48 ?_
  refine s_sipush 337 C X d1_334 kc_sipush_12287 ?_
  refine s_castore 338 48 C X d1_337 A_o3 g_o3 ⟨by decide, by decide⟩ rfl (Nat.le_of_ble_eq_true rfl) (fun T hh X W A_o3 => ?_)
  have A_o3 : Arv Z _ o3 k_o3 .char i52 (tw 49) (.int i0) := A_o3
  have Kp := Kp.wr W (Or.inr sz_o3)
  refine s_dup 339 C X d1_338 rfl ?_
  refine s_bipush 341 C X d1_339 kc_bipush_49 ?_
  refine s_sipush 344 C X d1_341 kc_sipush_12289 ?_
  refine s_castore 345 49 C X d1_344 A_o3 g_o3 ⟨by decide, by decide⟩ rfl (Nat.le_of_ble_eq_true rfl) (fun T hh X W A_o3 => ?_)
  have A_o3 : Arv Z _ o3 k_o3 .char i52 (tw 50) (.int i0) := A_o3
  have Kp := Kp.wr W (Or.inr sz_o3)
  refine s_dup 346 C X d1_345 rfl ?_
  refine s_bipush 348 C X d1_346 kc_bipush_50 ?_
  refine s_ldcInt 350 C X d1_348 (mW 7 rfl) ?_
  refine s_castore 351 50 C X d1_350 A_o3 g_o3 ⟨by decide, by decide⟩ rfl (Nat.le_of_ble_eq_true rfl) (fun T hh X W A_o3 => ?_)
  have A_o3 : Arv Z _ o3 k_o3 .char i52 (tw 51) (.int i0) := A_o3
  have Kp := Kp.wr W (Or.inr sz_o3)
  refine s_dup 352 C X d1_351 rfl ?_
  refine s_bipush 354 C X d1_352 kc_bipush_51 ?_
  refine s_ldcInt 356 C X d1_354 (mW 8 rfl) ?_
  refine s_castore 357 51 C X d1_356 A_o3 g_o3 ⟨by decide, by decide⟩ rfl (Nat.le_of_ble_eq_true rfl) (fun T hh X W A_o3 => ?_)
  have A_o3 : Arv Z _ o3 k_o3 .char i52 (tw 52) (.int i0) := A_o3
  have Kp := Kp.wr W (Or.inr sz_o3)
  have A_o3 : Arv Z _ o3 k_o3 .char i52 (Y tab) (.int i0) := A_o3
  refine s_astoreN 358 C X (l' := #[iv ga0, rv o3, un]) d1_357 rfl rfl ?_
  refine s_iloadN 359 C X d1_358 rfl ?_
  refine s_iconst 360 C X d1_359 kc_iconst_1 ?_
  refine s_iushr 361 C X d1_360 ?_
  refine s_sipush 364 C X d1_361 kc_sipush_32767 ?_
  refine s_iand 365 C X d1_364 ?_
  refine s_aloadN 366 C X d1_365 rfl rfl ?_
  refine s_arraylength 367 C X d1_366 A_o3 ?_
  refine s_irem 368 C X d1_367 (by decide) ?_
  refine s_istoreN 369 C X (l' := #[iv ga0, rv o3, .val (.int ((((ga0).toUInt32 >>> (i1 &&& 31).toUInt32).toInt32 &&& (32767 : Int32)) % i52))]) d1_368 rfl ?_
  refine s_aloadN 370 C X d1_369 rfl rfl ?_
  refine s_iloadN 371 C X d1_370 rfl ?_
  refine s_caload 372 C X d1_371 A_o3 (own_i52 _) (v := (.int (tab.getD (((((ga0).toUInt32 >>> (i1 &&& 31).toUInt32).toInt32 &&& (32767 : Int32)) % i52)).toNatClampNeg 0))) (own_getX _ _) ?_
  refine s_nreturn C X d1_372 rfl (by simp) (own_nU (own_tabU _)) ?_ (FG hG (by decide) (by decide))
  obtain ⟨yF, e_yF⟩ : ∃ z : Int32, z = (tab.getD (((((ga0).toUInt32 >>> (i1 &&& 31).toUInt32).toInt32 &&& (32767 : Int32)) % i52)).toNatClampNeg 0) := ⟨_, rfl⟩
  show Q' (some (.int (tab.getD (((((ga0).toUInt32 >>> (i1 &&& 31).toUInt32).toInt32 &&& (32767 : Int32)) % i52)).toNatClampNeg 0))) _
  rw [← e_yF]
  have hvU : own_U yF := by rw [e_yF]; exact own_tabU _
  exact hQ _ _ ⟨yF, rfl, hvU, Kp⟩
 refine s_iloadN 7 C X d1_6 rfl ?_
 refine s_bipush 9 C X d1_7 kc_bipush_16 ?_
 refine s_iushr 10 C X d1_9 ?_
 refine s_i2c 11 C X d1_10 ?_
 refine s_nreturn C X d1_11 rfl (by simp) (own_nU (own_i2U _)) ?_ (FG hG (by decide) (by decide))
 obtain ⟨yF, e_yF⟩ : ∃ z : Int32, z = (((ga0).toUInt32 >>> (i16 &&& 31).toUInt32).toInt32).toUInt32.toUInt16.toUInt32.toInt32 := ⟨_, rfl⟩
 show Q' (some (.int (((ga0).toUInt32 >>> (i16 &&& 31).toUInt32).toInt32).toUInt32.toUInt16.toUInt32.toInt32)) _
 rw [← e_yF]
 have hvU : own_U yF := by rw [e_yF]; exact own_i2U _
 exact hQ _ _ ⟨yF, rfl, hvU, Kp⟩
theorem rm_a2 (hw : Hw a0 Z) (yF : Int32) (yF_8 : Int32) (yF_13 : Int32) (yF_18 : Int32) (o25 : Addr) (k_o25 : ClassId) (o28 : Addr) (k_o28 : ClassId) (h0 : Heap) (n0 : Nat) (Z0 : n0 ≤ h0.size) (A_o25 : Arv Z h0 o25 k_o25 .char i4 [.int yF, .int yF_8, .int yF_13, .int yF_18] (.int i0)) (A_o28 : Arv Z h0 o28 k_o28 .byte i4 [.int i0, .int i0, .int i0, .int i0] (.int i0)) (ne_o25_o28 : o25 ≠ o28) (g_o28 : n0 ≤ o28) :
  Met l Z (⟨cU, "compress", "([CI[BII)I"⟩ : MethodName) jdk_52_method_21_code 7 (some .int) (rM 0 0 0 0) [] #[.ref o25, .int i0, .ref o28, .int i0, .int i4] h0 n0 (fun v h => (v = some (.int i4) ∧ ¬ i255 < yF ∧ ¬ i255 < yF_8 ∧ ¬ i255 < yF_13 ∧ ¬ i255 < yF_18 ∧ Arv Z h o28 k_o28 .byte i4 [(.int (bv yF)), (.int (bv yF_8)), (.int (bv yF_13)), (.int (bv yF_18))] (.int i0) ∧ Keep h0 h [o28]) ∨ (v = some (.int i3) ∧ ¬ i255 < yF ∧ ¬ i255 < yF_8 ∧ ¬ i255 < yF_13 ∧ i255 < yF_18 ∧ Arv Z h o28 k_o28 .byte i4 [(.int (bv yF)), (.int (bv yF_8)), (.int (bv yF_13)), .int i0] (.int i0) ∧ Keep h0 h [o28]) ∨ (v = some (.int i2) ∧ ¬ i255 < yF ∧ ¬ i255 < yF_8 ∧ i255 < yF_13 ∧ Arv Z h o28 k_o28 .byte i4 [(.int (bv yF)), (.int (bv yF_8)), .int i0, .int i0] (.int i0) ∧ Keep h0 h [o28]) ∨ (v = some (.int i1) ∧ ¬ i255 < yF ∧ i255 < yF_8 ∧ Arv Z h o28 k_o28 .byte i4 [(.int (bv yF)), .int i0, .int i0, .int i0] (.int i0) ∧ Keep h0 h [o28]) ∨ (v = some (.int i0) ∧ i255 < yF ∧ Arv Z h o28 k_o28 .byte i4 [.int i0, .int i0, .int i0, .int i0] (.int i0) ∧ Keep h0 h [o28])) := by
 refine Met.mkQ (tabs := tables_1) (a0 := a0) (ls0 := #[rv o25, iv i0, rv o28, iv i0, iv i4, un, un]) (plainFor_of_name pn_java_lang_StringUTF16) hw Z0 (fun m => by first | (simp [entryFrame, mkF, argsToLocals, Value.category]; done) | rfl) ?_
 intro p e s m below meth c T Q' G' hQ hG C X
 have Kp : Keep h0 h0 [o28] := Keep.refl _ _
 refine s_iconst 1 C X d12_0 kc_iconst_0 ?_
 refine s_istore 3 C X (l' := #[rv o25, iv i0, rv o28, iv i0, iv i4, iv i0, un]) d12_1 rfl ?_
 refine s_iload 5 C X d12_3 rfl ?_
 refine s_iload 7 C X d12_5 rfl ?_
 refine s_icmp_ge 44 10 C X d12_7 (fun c => absurd (by decide : i0 < i4) c) (fun _ => ?_)
 refine s_aloadN 11 C X d12_10 rfl rfl ?_
 refine s_iloadN 12 C X d12_11 rfl ?_
 refine s_caload 13 C X d12_12 A_o25 ⟨by decide, by decide⟩ (v := (.int yF)) rfl ?_
 refine s_istore 15 C X (l' := #[rv o25, iv i0, rv o28, iv i0, iv i4, iv i0, iv yF]) d12_13 rfl ?_
 refine s_iload 17 C X d12_15 rfl ?_
 refine s_sipush 20 C X d12_17 kc_sipush_255 ?_
 refine s_icmp_le 26 23 C X d12_20 (fun c20_30 => ?_) (fun c20_30 => ?_)
 ·have t_c20_30 : ¬ ((255 : Int) < (yF).toInt) := fun q => c20_30 (Int32.lt_iff_toInt_lt.mpr q)
  refine s_aloadN 27 C X d12_26 rfl rfl ?_
  refine s_iloadN 28 C X d12_27 rfl ?_
  refine s_iload 30 C X d12_28 rfl ?_
  refine s_i2b 31 C X d12_30 ?_
  refine s_bastore 32 0 C X d12_31 A_o28 g_o28 ⟨by decide, by decide⟩ rfl (Nat.le_of_ble_eq_true rfl) (fun T hh X W A_o28 => ?_)
  have A_o28 : Arv Z _ o28 k_o28 .byte i4 [(.int (nar .byte (yF).toInt8.toInt32)), .int i0, .int i0, .int i0] (.int i0) := A_o28
  have A_o25 := A_o25.other W ne_o25_o28
  have Kp := Kp.wr W (Or.inl (by simp))
  have A_o28 : Arv Z _ o28 k_o28 .byte i4 [(.int (bv yF)), .int i0, .int i0, .int i0] (.int i0) := A_o28
  refine s_iinc 35 C X (l' := #[rv o25, iv i1, rv o28, iv i0, iv i4, iv i0, iv yF]) d12_32 kc_iconst_1 rfl rfl ?_
  refine s_iinc 38 C X (l' := #[rv o25, iv i1, rv o28, iv i1, iv i4, iv i0, iv yF]) d12_35 kc_iconst_1 rfl rfl ?_
  refine s_iinc 41 C X (l' := #[rv o25, iv i1, rv o28, iv i1, iv i4, iv i1, iv yF]) d12_38 kc_iconst_1 rfl rfl ?_
  refine s_goto 3 C X d12_41 ?_
  refine s_iload 5 C X d12_3 rfl ?_
  refine s_iload 7 C X d12_5 rfl ?_
  refine s_icmp_ge 44 10 C X d12_7 (fun c => absurd (by decide : i1 < i4) c) (fun _ => ?_)
  refine s_aloadN 11 C X d12_10 rfl rfl ?_
  refine s_iloadN 12 C X d12_11 rfl ?_
  refine s_caload 13 C X d12_12 A_o25 ⟨by decide, by decide⟩ (v := (.int yF_8)) rfl ?_
  refine s_istore 15 C X (l' := #[rv o25, iv i1, rv o28, iv i1, iv i4, iv i1, iv yF_8]) d12_13 rfl ?_
  refine s_iload 17 C X d12_15 rfl ?_
  refine s_sipush 20 C X d12_17 kc_sipush_255 ?_
  refine s_icmp_le 26 23 C X d12_20 (fun c20_32 => ?_) (fun c20_32 => ?_)
  ·have t_c20_32 : ¬ ((255 : Int) < (yF_8).toInt) := fun q => c20_32 (Int32.lt_iff_toInt_lt.mpr q)
   refine s_aloadN 27 C X d12_26 rfl rfl ?_
   refine s_iloadN 28 C X d12_27 rfl ?_
   refine s_iload 30 C X d12_28 rfl ?_
   refine s_i2b 31 C X d12_30 ?_
   refine s_bastore 32 1 C X d12_31 A_o28 g_o28 ⟨by decide, by decide⟩ rfl (Nat.le_of_ble_eq_true rfl) (fun T hh X W A_o28 => ?_)
   have A_o28 : Arv Z _ o28 k_o28 .byte i4 [(.int (bv yF)), (.int (nar .byte (yF_8).toInt8.toInt32)), .int i0, .int i0] (.int i0) := A_o28
   have A_o25 := A_o25.other W ne_o25_o28
   have Kp := Kp.wr W (Or.inl (by simp))
   have A_o28 : Arv Z _ o28 k_o28 .byte i4 [(.int (bv yF)), (.int (bv yF_8)), .int i0, .int i0] (.int i0) := A_o28
   refine s_iinc 35 C X (l' := #[rv o25, iv i2, rv o28, iv i1, iv i4, iv i1, iv yF_8]) d12_32 kc_iconst_1 rfl rfl ?_
   refine s_iinc 38 C X (l' := #[rv o25, iv i2, rv o28, iv i2, iv i4, iv i1, iv yF_8]) d12_35 kc_iconst_1 rfl rfl ?_
   refine s_iinc 41 C X (l' := #[rv o25, iv i2, rv o28, iv i2, iv i4, iv i2, iv yF_8]) d12_38 kc_iconst_1 rfl rfl ?_
   refine s_goto 3 C X d12_41 ?_
   refine s_iload 5 C X d12_3 rfl ?_
   refine s_iload 7 C X d12_5 rfl ?_
   refine s_icmp_ge 44 10 C X d12_7 (fun c => absurd (by decide : i2 < i4) c) (fun _ => ?_)
   refine s_aloadN 11 C X d12_10 rfl rfl ?_
   refine s_iloadN 12 C X d12_11 rfl ?_
   refine s_caload 13 C X d12_12 A_o25 ⟨by decide, by decide⟩ (v := (.int yF_13)) rfl ?_
   refine s_istore 15 C X (l' := #[rv o25, iv i2, rv o28, iv i2, iv i4, iv i2, iv yF_13]) d12_13 rfl ?_
   refine s_iload 17 C X d12_15 rfl ?_
   refine s_sipush 20 C X d12_17 kc_sipush_255 ?_
   refine s_icmp_le 26 23 C X d12_20 (fun c20_34 => ?_) (fun c20_34 => ?_)
   ·have t_c20_34 : ¬ ((255 : Int) < (yF_13).toInt) := fun q => c20_34 (Int32.lt_iff_toInt_lt.mpr q)
    refine s_aloadN 27 C X d12_26 rfl rfl ?_
    refine s_iloadN 28 C X d12_27 rfl ?_
    refine s_iload 30 C X d12_28 rfl ?_
    refine s_i2b 31 C X d12_30 ?_
    refine s_bastore 32 2 C X d12_31 A_o28 g_o28 ⟨by decide, by decide⟩ rfl (Nat.le_of_ble_eq_true rfl) (fun T hh X W A_o28 => ?_)
    have A_o28 : Arv Z _ o28 k_o28 .byte i4 [(.int (bv yF)), (.int (bv yF_8)), (.int (nar .byte (yF_13).toInt8.toInt32)), .int i0] (.int i0) := A_o28
    have A_o25 := A_o25.other W ne_o25_o28
    have Kp := Kp.wr W (Or.inl (by simp))
    have A_o28 : Arv Z _ o28 k_o28 .byte i4 [(.int (bv yF)), (.int (bv yF_8)), (.int (bv yF_13)), .int i0] (.int i0) := A_o28
    refine s_iinc 35 C X (l' := #[rv o25, iv i3, rv o28, iv i2, iv i4, iv i2, iv yF_13]) d12_32 kc_iconst_1 rfl rfl ?_
    refine s_iinc 38 C X (l' := #[rv o25, iv i3, rv o28, iv i3, iv i4, iv i2, iv yF_13]) d12_35 kc_iconst_1 rfl rfl ?_
    refine s_iinc 41 C X (l' := #[rv o25, iv i3, rv o28, iv i3, iv i4, iv i3, iv yF_13]) d12_38 kc_iconst_1 rfl rfl ?_
    refine s_goto 3 C X d12_41 ?_
    refine s_iload 5 C X d12_3 rfl ?_
    refine s_iload 7 C X d12_5 rfl ?_
    refine s_icmp_ge 44 10 C X d12_7 (fun c => absurd (by decide : i3 < i4) c) (fun _ => ?_)
    refine s_aloadN 11 C X d12_10 rfl rfl ?_
    refine s_iloadN 12 C X d12_11 rfl ?_
    refine s_caload 13 C X d12_12 A_o25 ⟨by decide, by decide⟩ (v := (.int yF_18)) rfl ?_
    refine s_istore 15 C X (l' := #[rv o25, iv i3, rv o28, iv i3, iv i4, iv i3, iv yF_18]) d12_13 rfl ?_
    refine s_iload 17 C X d12_15 rfl ?_
    refine s_sipush 20 C X d12_17 kc_sipush_255 ?_
    refine s_icmp_le 26 23 C X d12_20 (fun c20_36 => ?_) (fun c20_36 => ?_)
    ·have t_c20_36 : ¬ ((255 : Int) < (yF_18).toInt) := fun q => c20_36 (Int32.lt_iff_toInt_lt.mpr q)
     refine s_aloadN 27 C X d12_26 rfl rfl ?_
     refine s_iloadN 28 C X d12_27 rfl ?_
     refine s_iload 30 C X d12_28 rfl ?_
     refine s_i2b 31 C X d12_30 ?_
     refine s_bastore 32 3 C X d12_31 A_o28 g_o28 ⟨by decide, by decide⟩ rfl (Nat.le_of_ble_eq_true rfl) (fun T hh X W A_o28 => ?_)
     have A_o28 : Arv Z _ o28 k_o28 .byte i4 [(.int (bv yF)), (.int (bv yF_8)), (.int (bv yF_13)), (.int (nar .byte (yF_18).toInt8.toInt32))] (.int i0) := A_o28
     have Kp := Kp.wr W (Or.inl (by simp))
     have A_o28 : Arv Z _ o28 k_o28 .byte i4 [(.int (bv yF)), (.int (bv yF_8)), (.int (bv yF_13)), (.int (bv yF_18))] (.int i0) := A_o28
     refine s_iinc 35 C X (l' := #[rv o25, iv i4, rv o28, iv i3, iv i4, iv i3, iv yF_18]) d12_32 kc_iconst_1 rfl rfl ?_
     refine s_iinc 38 C X (l' := #[rv o25, iv i4, rv o28, iv i4, iv i4, iv i3, iv yF_18]) d12_35 kc_iconst_1 rfl rfl ?_
     refine s_iinc 41 C X (l' := #[rv o25, iv i4, rv o28, iv i4, iv i4, iv i4, iv yF_18]) d12_38 kc_iconst_1 rfl rfl ?_
     refine s_goto 3 C X d12_41 ?_
     refine s_iload 5 C X d12_3 rfl ?_
     refine s_iload 7 C X d12_5 rfl ?_
     refine s_icmp_ge 44 10 C X d12_7 (fun _ => ?_) (fun c => absurd c (by decide))
     refine s_iload 46 C X d12_44 rfl ?_
     refine s_ireturn C X d12_46 rfl ?_ (FG hG (by decide) (by decide))
     exact hQ _ _ (Or.inl ⟨rfl, c20_30, c20_32, c20_34, c20_36, A_o28, Kp⟩)
    refine s_iload 25 C X d12_23 rfl ?_
    refine s_ireturn C X d12_25 rfl ?_ (FG hG (by decide) (by decide))
    exact hQ _ _ (Or.inr (Or.inl ⟨rfl, c20_30, c20_32, c20_34, c20_36, A_o28, Kp⟩))
   refine s_iload 25 C X d12_23 rfl ?_
   refine s_ireturn C X d12_25 rfl ?_ (FG hG (by decide) (by decide))
   exact hQ _ _ (Or.inr (Or.inr (Or.inl ⟨rfl, c20_30, c20_32, c20_34, A_o28, Kp⟩)))
  refine s_iload 25 C X d12_23 rfl ?_
  refine s_ireturn C X d12_25 rfl ?_ (FG hG (by decide) (by decide))
  exact hQ _ _ (Or.inr (Or.inr (Or.inr (Or.inl ⟨rfl, c20_30, c20_32, A_o28, Kp⟩))))
 refine s_iload 25 C X d12_23 rfl ?_
 refine s_ireturn C X d12_25 rfl ?_ (FG hG (by decide) (by decide))
 exact hQ _ _ (Or.inr (Or.inr (Or.inr (Or.inr ⟨rfl, c20_30, A_o28, Kp⟩))))
theorem rm_a3 (hw : Hw a0 Z)  (h0 : Heap) (n0 : Nat) (Z0 : n0 ≤ h0.size)  :
  Met l Z (⟨cU, "newBytesLength", "(I)I"⟩ : MethodName) jdk_52_method_3_code 1 (some .int) (rM 0 0 0 0) [] #[.int i4] h0 n0 (fun v h => v = some (.int i8) ∧ Keep h0 h []) := by
 refine Met.mkQ (tabs := tables_1) (a0 := a0) (ls0 := #[iv i4]) (plainFor_of_name pn_java_lang_StringUTF16) hw Z0 (fun m => by first | (simp [entryFrame, mkF, argsToLocals, Value.category]; done) | rfl) ?_
 intro p e s m below meth c T Q' G' hQ hG C X
 have Kp : Keep h0 h0 [] := Keep.refl _ _
 refine s_iloadN 1 C X d29_0 rfl ?_
 refine s_if_ge 12 4 C X d29_1 (fun _ => ?_) (fun c => absurd c (by decide))
 refine s_iloadN 13 C X d29_12 rfl ?_
 refine s_ldcInt 15 C X d29_13 (mW 131 rfl) ?_
 refine s_icmp_lt 55 18 C X d29_15 (fun _ => ?_) (fun c => absurd (by decide : i4 < (1073741823 : Int32)) c)
 refine s_iloadN 56 C X d29_55 rfl ?_
 refine s_iconst 57 C X d29_56 kc_iconst_1 ?_
 refine s_ishl 58 C X d29_57 ?_
 refine rc (st' := [.int i8]) (by rw [kf_0]) ?_
 refine s_ireturn C X d29_58 rfl ?_ (FG hG (by decide) (by decide))
 exact hQ _ _ ⟨rfl, Kp⟩
theorem rm_a4 (hw : Hw a0 Z)  (h0 : Heap) (n0 : Nat) (Z0 : n0 ≤ h0.size)  :
  Met l Z (⟨cU, "newBytesFor", "(I)[B"⟩ : MethodName) jdk_52_method_2_code 1 (some (.array .byte)) (rM 1 1 8 12) [] #[.int i4] h0 n0 (fun v h => ∃ (k_o44 : ClassId) (o44 : Addr), v = some (.ref o44) ∧ Keep h0 h [] ∧ Arv Z h o44 k_o44 .byte i8 [.int i0, .int i0, .int i0, .int i0, .int i0, .int i0, .int i0, .int i0] (.int i0) ∧ h0.size ≤ o44 ∧ n0 ≤ o44) := by
 refine Met.mkQ (tabs := tables_1) (a0 := a0) (ls0 := #[iv i4]) (plainFor_of_name pn_java_lang_StringUTF16) hw Z0 (fun m => by first | (simp [entryFrame, mkF, argsToLocals, Value.category]; done) | rfl) ?_
 intro p e s m below meth c T Q' G' hQ hG C X
 have Kp : Keep h0 h0 [] := Keep.refl _ _
 refine s_iloadN 1 C X d28_0 rfl ?_
 refine s_callS 4 [.int i4] [] 0 C X d28_1 (mW 128 rfl) (mW 129 rfl) (mW 62 rfl) (mW 130 rfl) (rm_a3 l Z a0 hw  _ n0 X.sz ) (lenOf pd__I_I rfl) rfl rfl rfl (fun T v hh X q => ?_)
 obtain ⟨rfl, Kc⟩ := q
 have Kp := Kp.trans Kc all0
 refine rc (st' := [.int i8]) rfl ?_
 refine s_newarray 6 8 C X d28_4 (mW 23 rfl) (by decide) (by decide) (fun T hh o44 k_o44 hb_o44 X E A_o44 g_o44 => ?_)
 have sz_o44 : h0.size ≤ o44 := Nat.le_trans Kp.1 (Nat.le_of_eq hb_o44)
 have Kp := Kp.ext E
 have A_o44 : Arv Z _ o44 k_o44 .byte i8 [.int i0, .int i0, .int i0, .int i0, .int i0, .int i0, .int i0, .int i0] (.int i0) := A_o44.pad (pad_rep [] _ 8)
 refine s_areturn C X d28_6 rfl rfl rfl ?_ (FG hG (by decide) (by decide))
 exact hQ _ _ ⟨k_o44, o44, rfl, Kp, A_o44, sz_o44, g_o44⟩
theorem rm_a5 (hw : Hw a0 Z) (yF : Int32) (k_o44 : ClassId) (o44 : Addr) (h0 : Heap) (n0 : Nat) (Z0 : n0 ≤ h0.size) (Od : Old Z n0 h0) (S_ad : Sta Z Z.heap cU "$assertionsDisabled" "Z" (.int i1)) (S_hi : Sta Z Z.heap cU "HI_BYTE_SHIFT" "I" (.int i0)) (S_lo : Sta Z Z.heap cU "LO_BYTE_SHIFT" "I" (.int i8)) (A_o44 : Arv Z h0 o44 k_o44 .byte i8 [.int i0, .int i0, .int i0, .int i0, .int i0, .int i0, .int i0, .int i0] (.int i0)) (g_o44 : n0 ≤ o44) :
  Met l Z (⟨cU, "putChar", "([BII)V"⟩ : MethodName) jdk_52_method_4_code 3 none (rM 0 0 0 0) [] #[.ref o44, .int i0, .int yF] h0 n0 (fun v h => v = none ∧ Old Z n0 h ∧ Arv Z h o44 k_o44 .byte i8 [(.int (lo yF)), (.int (hi yF)), .int i0, .int i0, .int i0, .int i0, .int i0, .int i0] (.int i0) ∧ Keep h0 h [o44]) := by
 refine Met.mkQ (tabs := tables_1) (a0 := a0) (ls0 := #[rv o44, iv i0, iv yF]) (plainFor_of_name pn_java_lang_StringUTF16) hw Z0 (fun m => by first | (simp [entryFrame, mkF, argsToLocals, Value.category]; done) | rfl) ?_
 intro p e s m below meth c T Q' G' hQ hG C X
 have Kp : Keep h0 h0 [o44] := Keep.refl _ _
 refine s_getstatic 3 C X (host := "") d30_0 (Or.inl (mW 135 rfl)) Via.refl (S_ad.ext Od.2) (fun T X => ?_)
 refine s_if_ne 28 6 C X d30_3 (fun _ => ?_) (fun c => absurd c (by decide))
 refine s_iloadN 29 C X d30_28 rfl ?_
 refine s_iconst 30 C X d30_29 kc_iconst_1 ?_
 refine s_ishl 31 C X d30_30 ?_
 refine rc (st' := [.int i0]) (by rw [kf_1]) ?_
 refine s_istoreN 32 C X (l' := #[rv o44, iv i0, iv yF]) d30_31 rfl ?_
 refine s_aloadN 33 C X d30_32 rfl rfl ?_
 refine s_iloadN 34 C X d30_33 rfl ?_
 refine s_iinc 37 C X (l' := #[rv o44, iv i1, iv yF]) d30_34 kc_iconst_1 rfl rfl ?_
 refine s_iloadN 38 C X d30_37 rfl ?_
 refine s_getstatic 41 C X (host := "") d30_38 (Or.inl (mW 136 rfl)) Via.refl (S_hi.ext Od.2) (fun T X => ?_)
 refine s_ishr 42 C X d30_41 ?_
 refine s_i2b 43 C X d30_42 ?_
 refine s_bastore 44 0 C X d30_43 A_o44 g_o44 ⟨by decide, by decide⟩ rfl (Nat.le_of_ble_eq_true rfl) (fun T hh X W A_o44 => ?_)
 have A_o44 : Arv Z _ o44 k_o44 .byte i8 [(.int (nar .byte ((yF >>> (i0 &&& 31))).toInt8.toInt32)), .int i0, .int i0, .int i0, .int i0, .int i0, .int i0, .int i0] (.int i0) := A_o44
 have Od := Od.wr W g_o44
 have Kp := Kp.wr W (Or.inl (by simp))
 have A_o44 : Arv Z _ o44 k_o44 .byte i8 [(.int (lo yF)), .int i0, .int i0, .int i0, .int i0, .int i0, .int i0, .int i0] (.int i0) := A_o44
 refine s_aloadN 45 C X d30_44 rfl rfl ?_
 refine s_iloadN 46 C X d30_45 rfl ?_
 refine s_iloadN 47 C X d30_46 rfl ?_
 refine s_getstatic 50 C X (host := "") d30_47 (Or.inl (mW 137 rfl)) Via.refl (S_lo.ext Od.2) (fun T X => ?_)
 refine s_ishr 51 C X d30_50 ?_
 refine s_i2b 52 C X d30_51 ?_
 refine s_bastore 53 1 C X d30_52 A_o44 g_o44 ⟨by decide, by decide⟩ rfl (Nat.le_of_ble_eq_true rfl) (fun T hh X W A_o44 => ?_)
 have A_o44 : Arv Z _ o44 k_o44 .byte i8 [(.int (lo yF)), (.int (nar .byte ((yF >>> (i8 &&& 31))).toInt8.toInt32)), .int i0, .int i0, .int i0, .int i0, .int i0, .int i0] (.int i0) := A_o44
 have Od := Od.wr W g_o44
 have Kp := Kp.wr W (Or.inl (by simp))
 have A_o44 : Arv Z _ o44 k_o44 .byte i8 [(.int (lo yF)), (.int (hi yF)), .int i0, .int i0, .int i0, .int i0, .int i0, .int i0] (.int i0) := A_o44
 refine s_return C X d30_53 rfl ?_ (FG hG (by decide) (by decide))
 exact hQ _ _ ⟨rfl, Od, A_o44, Kp⟩
theorem rm_a6 (hw : Hw a0 Z) (yF : Int32) (yF_8 : Int32) (k_o44 : ClassId) (o44 : Addr) (h0 : Heap) (n0 : Nat) (Z0 : n0 ≤ h0.size) (S_ad : Sta Z Z.heap cU "$assertionsDisabled" "Z" (.int i1)) (S_hi : Sta Z Z.heap cU "HI_BYTE_SHIFT" "I" (.int i0)) (S_lo : Sta Z Z.heap cU "LO_BYTE_SHIFT" "I" (.int i8)) (Od : Old Z n0 h0) (A_o44 : Arv Z h0 o44 k_o44 .byte i8 [(.int (lo yF)), (.int (hi yF)), .int i0, .int i0, .int i0, .int i0, .int i0, .int i0] (.int i0)) (g_o44 : n0 ≤ o44) :
  Met l Z (⟨cU, "putChar", "([BII)V"⟩ : MethodName) jdk_52_method_4_code 3 none (rM 0 0 0 0) [] #[.ref o44, .int i1, .int yF_8] h0 n0 (fun v h => v = none ∧ Old Z n0 h ∧ Arv Z h o44 k_o44 .byte i8 [(.int (lo yF)), (.int (hi yF)), (.int (lo yF_8)), (.int (hi yF_8)), .int i0, .int i0, .int i0, .int i0] (.int i0) ∧ Keep h0 h [o44]) := by
 refine Met.mkQ (tabs := tables_1) (a0 := a0) (ls0 := #[rv o44, iv i1, iv yF_8]) (plainFor_of_name pn_java_lang_StringUTF16) hw Z0 (fun m => by first | (simp [entryFrame, mkF, argsToLocals, Value.category]; done) | rfl) ?_
 intro p e s m below meth c T Q' G' hQ hG C X
 have Kp : Keep h0 h0 [o44] := Keep.refl _ _
 refine s_getstatic 3 C X (host := "") d30_0 (Or.inl (mW 135 rfl)) Via.refl (S_ad.ext Od.2) (fun T X => ?_)
 refine s_if_ne 28 6 C X d30_3 (fun _ => ?_) (fun c => absurd c (by decide))
 refine s_iloadN 29 C X d30_28 rfl ?_
 refine s_iconst 30 C X d30_29 kc_iconst_1 ?_
 refine s_ishl 31 C X d30_30 ?_
 refine rc (st' := [.int i2]) (by rw [kf_2]) ?_
 refine s_istoreN 32 C X (l' := #[rv o44, iv i2, iv yF_8]) d30_31 rfl ?_
 refine s_aloadN 33 C X d30_32 rfl rfl ?_
 refine s_iloadN 34 C X d30_33 rfl ?_
 refine s_iinc 37 C X (l' := #[rv o44, iv i3, iv yF_8]) d30_34 kc_iconst_1 rfl rfl ?_
 refine s_iloadN 38 C X d30_37 rfl ?_
 refine s_getstatic 41 C X (host := "") d30_38 (Or.inl (mW 136 rfl)) Via.refl (S_hi.ext Od.2) (fun T X => ?_)
 refine s_ishr 42 C X d30_41 ?_
 refine s_i2b 43 C X d30_42 ?_
 refine s_bastore 44 2 C X d30_43 A_o44 g_o44 ⟨by decide, by decide⟩ rfl (Nat.le_of_ble_eq_true rfl) (fun T hh X W A_o44 => ?_)
 have A_o44 : Arv Z _ o44 k_o44 .byte i8 [(.int (lo yF)), (.int (hi yF)), (.int (nar .byte ((yF_8 >>> (i0 &&& 31))).toInt8.toInt32)), .int i0, .int i0, .int i0, .int i0, .int i0] (.int i0) := A_o44
 have Od := Od.wr W g_o44
 have Kp := Kp.wr W (Or.inl (by simp))
 have A_o44 : Arv Z _ o44 k_o44 .byte i8 [(.int (lo yF)), (.int (hi yF)), (.int (lo yF_8)), .int i0, .int i0, .int i0, .int i0, .int i0] (.int i0) := A_o44
 refine s_aloadN 45 C X d30_44 rfl rfl ?_
 refine s_iloadN 46 C X d30_45 rfl ?_
 refine s_iloadN 47 C X d30_46 rfl ?_
 refine s_getstatic 50 C X (host := "") d30_47 (Or.inl (mW 137 rfl)) Via.refl (S_lo.ext Od.2) (fun T X => ?_)
 refine s_ishr 51 C X d30_50 ?_
 refine s_i2b 52 C X d30_51 ?_
 refine s_bastore 53 3 C X d30_52 A_o44 g_o44 ⟨by decide, by decide⟩ rfl (Nat.le_of_ble_eq_true rfl) (fun T hh X W A_o44 => ?_)
 have A_o44 : Arv Z _ o44 k_o44 .byte i8 [(.int (lo yF)), (.int (hi yF)), (.int (lo yF_8)), (.int (nar .byte ((yF_8 >>> (i8 &&& 31))).toInt8.toInt32)), .int i0, .int i0, .int i0, .int i0] (.int i0) := A_o44
 have Od := Od.wr W g_o44
 have Kp := Kp.wr W (Or.inl (by simp))
 have A_o44 : Arv Z _ o44 k_o44 .byte i8 [(.int (lo yF)), (.int (hi yF)), (.int (lo yF_8)), (.int (hi yF_8)), .int i0, .int i0, .int i0, .int i0] (.int i0) := A_o44
 refine s_return C X d30_53 rfl ?_ (FG hG (by decide) (by decide))
 exact hQ _ _ ⟨rfl, Od, A_o44, Kp⟩
theorem rm_a7 (hw : Hw a0 Z) (yF : Int32) (yF_8 : Int32) (yF_13 : Int32) (k_o44 : ClassId) (o44 : Addr) (h0 : Heap) (n0 : Nat) (Z0 : n0 ≤ h0.size) (S_ad : Sta Z Z.heap cU "$assertionsDisabled" "Z" (.int i1)) (S_hi : Sta Z Z.heap cU "HI_BYTE_SHIFT" "I" (.int i0)) (S_lo : Sta Z Z.heap cU "LO_BYTE_SHIFT" "I" (.int i8)) (Od : Old Z n0 h0) (A_o44 : Arv Z h0 o44 k_o44 .byte i8 [(.int (lo yF)), (.int (hi yF)), (.int (lo yF_8)), (.int (hi yF_8)), .int i0, .int i0, .int i0, .int i0] (.int i0)) (g_o44 : n0 ≤ o44) :
  Met l Z (⟨cU, "putChar", "([BII)V"⟩ : MethodName) jdk_52_method_4_code 3 none (rM 0 0 0 0) [] #[.ref o44, .int i2, .int yF_13] h0 n0 (fun v h => v = none ∧ Old Z n0 h ∧ Arv Z h o44 k_o44 .byte i8 [(.int (lo yF)), (.int (hi yF)), (.int (lo yF_8)), (.int (hi yF_8)), (.int (lo yF_13)), (.int (hi yF_13)), .int i0, .int i0] (.int i0) ∧ Keep h0 h [o44]) := by
 refine Met.mkQ (tabs := tables_1) (a0 := a0) (ls0 := #[rv o44, iv i2, iv yF_13]) (plainFor_of_name pn_java_lang_StringUTF16) hw Z0 (fun m => by first | (simp [entryFrame, mkF, argsToLocals, Value.category]; done) | rfl) ?_
 intro p e s m below meth c T Q' G' hQ hG C X
 have Kp : Keep h0 h0 [o44] := Keep.refl _ _
 refine s_getstatic 3 C X (host := "") d30_0 (Or.inl (mW 135 rfl)) Via.refl (S_ad.ext Od.2) (fun T X => ?_)
 refine s_if_ne 28 6 C X d30_3 (fun _ => ?_) (fun c => absurd c (by decide))
 refine s_iloadN 29 C X d30_28 rfl ?_
 refine s_iconst 30 C X d30_29 kc_iconst_1 ?_
 refine s_ishl 31 C X d30_30 ?_
 refine rc (st' := [.int i4]) (by rw [kf_3]) ?_
 refine s_istoreN 32 C X (l' := #[rv o44, iv i4, iv yF_13]) d30_31 rfl ?_
 refine s_aloadN 33 C X d30_32 rfl rfl ?_
 refine s_iloadN 34 C X d30_33 rfl ?_
 refine s_iinc 37 C X (l' := #[rv o44, iv i5, iv yF_13]) d30_34 kc_iconst_1 rfl rfl ?_
 refine s_iloadN 38 C X d30_37 rfl ?_
 refine s_getstatic 41 C X (host := "") d30_38 (Or.inl (mW 136 rfl)) Via.refl (S_hi.ext Od.2) (fun T X => ?_)
 refine s_ishr 42 C X d30_41 ?_
 refine s_i2b 43 C X d30_42 ?_
 refine s_bastore 44 4 C X d30_43 A_o44 g_o44 ⟨by decide, by decide⟩ rfl (Nat.le_of_ble_eq_true rfl) (fun T hh X W A_o44 => ?_)
 have A_o44 : Arv Z _ o44 k_o44 .byte i8 [(.int (lo yF)), (.int (hi yF)), (.int (lo yF_8)), (.int (hi yF_8)), (.int (nar .byte ((yF_13 >>> (i0 &&& 31))).toInt8.toInt32)), .int i0, .int i0, .int i0] (.int i0) := A_o44
 have Od := Od.wr W g_o44
 have Kp := Kp.wr W (Or.inl (by simp))
 have A_o44 : Arv Z _ o44 k_o44 .byte i8 [(.int (lo yF)), (.int (hi yF)), (.int (lo yF_8)), (.int (hi yF_8)), (.int (lo yF_13)), .int i0, .int i0, .int i0] (.int i0) := A_o44
 refine s_aloadN 45 C X d30_44 rfl rfl ?_
 refine s_iloadN 46 C X d30_45 rfl ?_
 refine s_iloadN 47 C X d30_46 rfl ?_
 refine s_getstatic 50 C X (host := "") d30_47 (Or.inl (mW 137 rfl)) Via.refl (S_lo.ext Od.2) (fun T X => ?_)
 refine s_ishr 51 C X d30_50 ?_
 refine s_i2b 52 C X d30_51 ?_
 refine s_bastore 53 5 C X d30_52 A_o44 g_o44 ⟨by decide, by decide⟩ rfl (Nat.le_of_ble_eq_true rfl) (fun T hh X W A_o44 => ?_)
 have A_o44 : Arv Z _ o44 k_o44 .byte i8 [(.int (lo yF)), (.int (hi yF)), (.int (lo yF_8)), (.int (hi yF_8)), (.int (lo yF_13)), (.int (nar .byte ((yF_13 >>> (i8 &&& 31))).toInt8.toInt32)), .int i0, .int i0] (.int i0) := A_o44
 have Od := Od.wr W g_o44
 have Kp := Kp.wr W (Or.inl (by simp))
 have A_o44 : Arv Z _ o44 k_o44 .byte i8 [(.int (lo yF)), (.int (hi yF)), (.int (lo yF_8)), (.int (hi yF_8)), (.int (lo yF_13)), (.int (hi yF_13)), .int i0, .int i0] (.int i0) := A_o44
 refine s_return C X d30_53 rfl ?_ (FG hG (by decide) (by decide))
 exact hQ _ _ ⟨rfl, Od, A_o44, Kp⟩
theorem rm_a8 (hw : Hw a0 Z) (yF : Int32) (yF_8 : Int32) (yF_13 : Int32) (yF_18 : Int32) (k_o44 : ClassId) (o44 : Addr) (h0 : Heap) (n0 : Nat) (Z0 : n0 ≤ h0.size) (S_ad : Sta Z Z.heap cU "$assertionsDisabled" "Z" (.int i1)) (S_hi : Sta Z Z.heap cU "HI_BYTE_SHIFT" "I" (.int i0)) (S_lo : Sta Z Z.heap cU "LO_BYTE_SHIFT" "I" (.int i8)) (Od : Old Z n0 h0) (A_o44 : Arv Z h0 o44 k_o44 .byte i8 [(.int (lo yF)), (.int (hi yF)), (.int (lo yF_8)), (.int (hi yF_8)), (.int (lo yF_13)), (.int (hi yF_13)), .int i0, .int i0] (.int i0)) (g_o44 : n0 ≤ o44) :
  Met l Z (⟨cU, "putChar", "([BII)V"⟩ : MethodName) jdk_52_method_4_code 3 none (rM 0 0 0 0) [] #[.ref o44, .int i3, .int yF_18] h0 n0 (fun v h => v = none ∧ Old Z n0 h ∧ Arv Z h o44 k_o44 .byte i8 [(.int (lo yF)), (.int (hi yF)), (.int (lo yF_8)), (.int (hi yF_8)), (.int (lo yF_13)), (.int (hi yF_13)), (.int (lo yF_18)), (.int (hi yF_18))] (.int i0) ∧ Keep h0 h [o44]) := by
 refine Met.mkQ (tabs := tables_1) (a0 := a0) (ls0 := #[rv o44, iv i3, iv yF_18]) (plainFor_of_name pn_java_lang_StringUTF16) hw Z0 (fun m => by first | (simp [entryFrame, mkF, argsToLocals, Value.category]; done) | rfl) ?_
 intro p e s m below meth c T Q' G' hQ hG C X
 have Kp : Keep h0 h0 [o44] := Keep.refl _ _
 refine s_getstatic 3 C X (host := "") d30_0 (Or.inl (mW 135 rfl)) Via.refl (S_ad.ext Od.2) (fun T X => ?_)
 refine s_if_ne 28 6 C X d30_3 (fun _ => ?_) (fun c => absurd c (by decide))
 refine s_iloadN 29 C X d30_28 rfl ?_
 refine s_iconst 30 C X d30_29 kc_iconst_1 ?_
 refine s_ishl 31 C X d30_30 ?_
 refine rc (st' := [.int i6]) (by rw [kf_4]) ?_
 refine s_istoreN 32 C X (l' := #[rv o44, iv i6, iv yF_18]) d30_31 rfl ?_
 refine s_aloadN 33 C X d30_32 rfl rfl ?_
 refine s_iloadN 34 C X d30_33 rfl ?_
 refine s_iinc 37 C X (l' := #[rv o44, iv i7, iv yF_18]) d30_34 kc_iconst_1 rfl rfl ?_
 refine s_iloadN 38 C X d30_37 rfl ?_
 refine s_getstatic 41 C X (host := "") d30_38 (Or.inl (mW 136 rfl)) Via.refl (S_hi.ext Od.2) (fun T X => ?_)
 refine s_ishr 42 C X d30_41 ?_
 refine s_i2b 43 C X d30_42 ?_
 refine s_bastore 44 6 C X d30_43 A_o44 g_o44 ⟨by decide, by decide⟩ rfl (Nat.le_of_ble_eq_true rfl) (fun T hh X W A_o44 => ?_)
 have A_o44 : Arv Z _ o44 k_o44 .byte i8 [(.int (lo yF)), (.int (hi yF)), (.int (lo yF_8)), (.int (hi yF_8)), (.int (lo yF_13)), (.int (hi yF_13)), (.int (nar .byte ((yF_18 >>> (i0 &&& 31))).toInt8.toInt32)), .int i0] (.int i0) := A_o44
 have Od := Od.wr W g_o44
 have Kp := Kp.wr W (Or.inl (by simp))
 have A_o44 : Arv Z _ o44 k_o44 .byte i8 [(.int (lo yF)), (.int (hi yF)), (.int (lo yF_8)), (.int (hi yF_8)), (.int (lo yF_13)), (.int (hi yF_13)), (.int (lo yF_18)), .int i0] (.int i0) := A_o44
 refine s_aloadN 45 C X d30_44 rfl rfl ?_
 refine s_iloadN 46 C X d30_45 rfl ?_
 refine s_iloadN 47 C X d30_46 rfl ?_
 refine s_getstatic 50 C X (host := "") d30_47 (Or.inl (mW 137 rfl)) Via.refl (S_lo.ext Od.2) (fun T X => ?_)
 refine s_ishr 51 C X d30_50 ?_
 refine s_i2b 52 C X d30_51 ?_
 refine s_bastore 53 7 C X d30_52 A_o44 g_o44 ⟨by decide, by decide⟩ rfl (Nat.le_of_ble_eq_true rfl) (fun T hh X W A_o44 => ?_)
 have A_o44 : Arv Z _ o44 k_o44 .byte i8 [(.int (lo yF)), (.int (hi yF)), (.int (lo yF_8)), (.int (hi yF_8)), (.int (lo yF_13)), (.int (hi yF_13)), (.int (lo yF_18)), (.int (nar .byte ((yF_18 >>> (i8 &&& 31))).toInt8.toInt32))] (.int i0) := A_o44
 have Od := Od.wr W g_o44
 have Kp := Kp.wr W (Or.inl (by simp))
 have A_o44 : Arv Z _ o44 k_o44 .byte i8 [(.int (lo yF)), (.int (hi yF)), (.int (lo yF_8)), (.int (hi yF_8)), (.int (lo yF_13)), (.int (hi yF_13)), (.int (lo yF_18)), (.int (hi yF_18))] (.int i0) := A_o44
 refine s_return C X d30_53 rfl ?_ (FG hG (by decide) (by decide))
 exact hQ _ _ ⟨rfl, Od, A_o44, Kp⟩
theorem rm_a9 (hw : Hw a0 Z) (yF : Int32) (yF_8 : Int32) (yF_13 : Int32) (yF_18 : Int32) (o25 : Addr) (k_o25 : ClassId) (h0 : Heap) (n0 : Nat) (Z0 : n0 ≤ h0.size) (Od : Old Z n0 h0) (S_ad : Sta Z Z.heap cU "$assertionsDisabled" "Z" (.int i1)) (S_hi : Sta Z Z.heap cU "HI_BYTE_SHIFT" "I" (.int i0)) (S_lo : Sta Z Z.heap cU "LO_BYTE_SHIFT" "I" (.int i8)) (A_o25 : Arv Z h0 o25 k_o25 .char i4 [.int yF, .int yF_8, .int yF_13, .int yF_18] (.int i0)) :
  Met l Z (⟨cU, "toBytes", "([CII)[B"⟩ : MethodName) jdk_52_method_14_code 5 (some (.array .byte)) (rM 2 1 8 24) [] #[.ref o25, .int i0, .int i4] h0 n0 (fun v h => ∃ (k_o44 : ClassId) (o44 : Addr), v = some (.ref o44) ∧ Keep h0 h [] ∧ Old Z n0 h ∧ Arv Z h o44 k_o44 .byte i8 [(.int (lo yF)), (.int (hi yF)), (.int (lo yF_8)), (.int (hi yF_8)), (.int (lo yF_13)), (.int (hi yF_13)), (.int (lo yF_18)), (.int (hi yF_18))] (.int i0) ∧ h0.size ≤ o44 ∧ n0 ≤ o44) := by
 refine Met.mkQ (tabs := tables_1) (a0 := a0) (ls0 := #[rv o25, iv i0, iv i4, un, un]) (plainFor_of_name pn_java_lang_StringUTF16) hw Z0 (fun m => by first | (simp [entryFrame, mkF, argsToLocals, Value.category]; done) | rfl) ?_
 intro p e s m below meth c T Q' G' hQ hG C X
 have Kp : Keep h0 h0 [] := Keep.refl _ _
 refine s_iloadN 1 C X d27_0 rfl ?_
 refine s_callS 4 [.int i4] [] 0 C X d27_1 (mW 125 rfl) (mW 126 rfl) (mW 62 rfl) (mW 127 rfl) (rm_a4 l Z a0 hw  _ n0 X.sz ) (lenOf pd__I__B rfl) rfl rfl rfl (fun T v hh X q => ?_)
 obtain ⟨k_o44, o44, rfl, Kc, A_o44, sz_o44', g_o44⟩ := q
 have ne_o25_o44 : o25 ≠ o44 := Nat.ne_of_lt (Nat.lt_of_lt_of_le A_o25.lt sz_o44')
 have sz_o44 : h0.size ≤ o44 := Nat.le_trans Kp.1 sz_o44'
 have Od := Od.keep Kc all0
 have A_o25 := A_o25.keep Kc nin0
 have Kp := Kp.trans Kc all0
 refine rc (st' := [.ref o44]) rfl ?_
 refine s_astoreN 5 C X (l' := #[rv o25, iv i0, iv i4, rv o44, un]) d27_4 rfl rfl ?_
 refine s_iconst 6 C X d27_5 kc_iconst_0 ?_
 refine s_istore 8 C X (l' := #[rv o25, iv i0, iv i4, rv o44, iv i0]) d27_6 rfl ?_
 refine s_iload 10 C X d27_8 rfl ?_
 refine s_iloadN 11 C X d27_10 rfl ?_
 refine s_icmp_ge 32 14 C X d27_11 (fun c => absurd (by decide : i0 < i4) c) (fun _ => ?_)
 refine s_aloadN 15 C X d27_14 rfl rfl ?_
 refine s_iload 17 C X d27_15 rfl ?_
 refine s_aloadN 18 C X d27_17 rfl rfl ?_
 refine s_iloadN 19 C X d27_18 rfl ?_
 refine s_caload 20 C X d27_19 A_o25 ⟨by decide, by decide⟩ (v := (.int yF)) rfl ?_
 refine s_callS 23 [.ref o44, .int i0, .int yF] [] 0 C X d27_20 (mW 132 rfl) (mW 133 rfl) (mW 62 rfl) (mW 134 rfl) (rm_a5 l Z a0 hw yF k_o44 o44 _ n0 X.sz Od S_ad S_hi S_lo A_o44 g_o44) (lenOf pd___BII_V rfl) rfl rfl rfl (fun T v hh X q => ?_)
 obtain ⟨rfl, Od, A_o44, Kc⟩ := q
 have A_o25 := A_o25.keep Kc (ninS ne_o25_o44 nin0)
 have Kp := Kp.trans Kc (allS (Or.inr sz_o44) all0)
 refine rc (st' := []) rfl ?_
 refine s_iinc 26 C X (l' := #[rv o25, iv i1, iv i4, rv o44, iv i0]) d27_23 kc_iconst_1 rfl rfl ?_
 refine s_iinc 29 C X (l' := #[rv o25, iv i1, iv i4, rv o44, iv i1]) d27_26 kc_iconst_1 rfl rfl ?_
 refine s_goto 8 C X d27_29 ?_
 refine s_iload 10 C X d27_8 rfl ?_
 refine s_iloadN 11 C X d27_10 rfl ?_
 refine s_icmp_ge 32 14 C X d27_11 (fun c => absurd (by decide : i1 < i4) c) (fun _ => ?_)
 refine s_aloadN 15 C X d27_14 rfl rfl ?_
 refine s_iload 17 C X d27_15 rfl ?_
 refine s_aloadN 18 C X d27_17 rfl rfl ?_
 refine s_iloadN 19 C X d27_18 rfl ?_
 refine s_caload 20 C X d27_19 A_o25 ⟨by decide, by decide⟩ (v := (.int yF_8)) rfl ?_
 refine s_callS 23 [.ref o44, .int i1, .int yF_8] [] 0 C X d27_20 (mW 132 rfl) (mW 133 rfl) (mW 62 rfl) (mW 134 rfl) (rm_a6 l Z a0 hw yF yF_8 k_o44 o44 _ n0 X.sz S_ad S_hi S_lo Od A_o44 g_o44) (lenOf pd___BII_V rfl) rfl rfl rfl (fun T v hh X q => ?_)
 obtain ⟨rfl, Od, A_o44, Kc⟩ := q
 have A_o25 := A_o25.keep Kc (ninS ne_o25_o44 nin0)
 have Kp := Kp.trans Kc (allS (Or.inr sz_o44) all0)
 refine rc (st' := []) rfl ?_
 refine s_iinc 26 C X (l' := #[rv o25, iv i2, iv i4, rv o44, iv i1]) d27_23 kc_iconst_1 rfl rfl ?_
 refine s_iinc 29 C X (l' := #[rv o25, iv i2, iv i4, rv o44, iv i2]) d27_26 kc_iconst_1 rfl rfl ?_
 refine s_goto 8 C X d27_29 ?_
 refine s_iload 10 C X d27_8 rfl ?_
 refine s_iloadN 11 C X d27_10 rfl ?_
 refine s_icmp_ge 32 14 C X d27_11 (fun c => absurd (by decide : i2 < i4) c) (fun _ => ?_)
 refine s_aloadN 15 C X d27_14 rfl rfl ?_
 refine s_iload 17 C X d27_15 rfl ?_
 refine s_aloadN 18 C X d27_17 rfl rfl ?_
 refine s_iloadN 19 C X d27_18 rfl ?_
 refine s_caload 20 C X d27_19 A_o25 ⟨by decide, by decide⟩ (v := (.int yF_13)) rfl ?_
 refine s_callS 23 [.ref o44, .int i2, .int yF_13] [] 0 C X d27_20 (mW 132 rfl) (mW 133 rfl) (mW 62 rfl) (mW 134 rfl) (rm_a7 l Z a0 hw yF yF_8 yF_13 k_o44 o44 _ n0 X.sz S_ad S_hi S_lo Od A_o44 g_o44) (lenOf pd___BII_V rfl) rfl rfl rfl (fun T v hh X q => ?_)
 obtain ⟨rfl, Od, A_o44, Kc⟩ := q
 have A_o25 := A_o25.keep Kc (ninS ne_o25_o44 nin0)
 have Kp := Kp.trans Kc (allS (Or.inr sz_o44) all0)
 refine rc (st' := []) rfl ?_
 refine s_iinc 26 C X (l' := #[rv o25, iv i3, iv i4, rv o44, iv i2]) d27_23 kc_iconst_1 rfl rfl ?_
 refine s_iinc 29 C X (l' := #[rv o25, iv i3, iv i4, rv o44, iv i3]) d27_26 kc_iconst_1 rfl rfl ?_
 refine s_goto 8 C X d27_29 ?_
 refine s_iload 10 C X d27_8 rfl ?_
 refine s_iloadN 11 C X d27_10 rfl ?_
 refine s_icmp_ge 32 14 C X d27_11 (fun c => absurd (by decide : i3 < i4) c) (fun _ => ?_)
 refine s_aloadN 15 C X d27_14 rfl rfl ?_
 refine s_iload 17 C X d27_15 rfl ?_
 refine s_aloadN 18 C X d27_17 rfl rfl ?_
 refine s_iloadN 19 C X d27_18 rfl ?_
 refine s_caload 20 C X d27_19 A_o25 ⟨by decide, by decide⟩ (v := (.int yF_18)) rfl ?_
 refine s_callS 23 [.ref o44, .int i3, .int yF_18] [] 0 C X d27_20 (mW 132 rfl) (mW 133 rfl) (mW 62 rfl) (mW 134 rfl) (rm_a8 l Z a0 hw yF yF_8 yF_13 yF_18 k_o44 o44 _ n0 X.sz S_ad S_hi S_lo Od A_o44 g_o44) (lenOf pd___BII_V rfl) rfl rfl rfl (fun T v hh X q => ?_)
 obtain ⟨rfl, Od, A_o44, Kc⟩ := q
 have Kp := Kp.trans Kc (allS (Or.inr sz_o44) all0)
 refine rc (st' := []) rfl ?_
 refine s_iinc 26 C X (l' := #[rv o25, iv i4, iv i4, rv o44, iv i3]) d27_23 kc_iconst_1 rfl rfl ?_
 refine s_iinc 29 C X (l' := #[rv o25, iv i4, iv i4, rv o44, iv i4]) d27_26 kc_iconst_1 rfl rfl ?_
 refine s_goto 8 C X d27_29 ?_
 refine s_iload 10 C X d27_8 rfl ?_
 refine s_iloadN 11 C X d27_10 rfl ?_
 refine s_icmp_ge 32 14 C X d27_11 (fun _ => ?_) (fun c => absurd c (by decide))
 refine s_aloadN 33 C X d27_32 rfl rfl ?_
 refine s_areturn C X d27_33 rfl rfl rfl ?_ (FG hG (by decide) (by decide))
 exact hQ _ _ ⟨k_o44, o44, rfl, Kp, Od, A_o44, sz_o44, g_o44⟩
theorem rm_a10 (hw : Hw a0 Z) (yF : Int32) (yF_8 : Int32) (yF_13 : Int32) (yF_18 : Int32) (k_o44 : ClassId) (o44 : Addr) (h0 : Heap) (n0 : Nat) (Z0 : n0 ≤ h0.size) (S_ad : Sta Z Z.heap cU "$assertionsDisabled" "Z" (.int i1)) (S_hi : Sta Z Z.heap cU "HI_BYTE_SHIFT" "I" (.int i0)) (S_lo : Sta Z Z.heap cU "LO_BYTE_SHIFT" "I" (.int i8)) (Od : Old Z n0 h0) (A_o44 : Arv Z h0 o44 k_o44 .byte i8 [(.int (lo yF)), (.int (hi yF)), (.int (lo yF_8)), (.int (hi yF_8)), (.int (lo yF_13)), (.int (hi yF_13)), (.int (lo yF_18)), (.int (hi yF_18))] (.int i0)) (hvU_19 : own_U yF_18) :
  Met l Z (⟨cU, "getChar", "([BI)C"⟩ : MethodName) jdk_52_method_5_code 2 (some .char) (rM 0 0 0 0) [] #[.ref o44, .int i3] h0 n0 (fun v h => v = some (.int yF_18) ∧ Old Z n0 h ∧ Keep h0 h []) := by
 refine Met.mkQ (tabs := tables_1) (a0 := a0) (ls0 := #[rv o44, iv i3]) (plainFor_of_name pn_java_lang_StringUTF16) hw Z0 (fun m => by first | (simp [entryFrame, mkF, argsToLocals, Value.category]; done) | rfl) ?_
 intro p e s m below meth c T Q' G' hQ hG C X
 have Kp : Keep h0 h0 [] := Keep.refl _ _
 refine s_getstatic 3 C X (host := "") d31_0 (Or.inl (mW 135 rfl)) Via.refl (S_ad.ext Od.2) (fun T X => ?_)
 refine s_if_ne 28 6 C X d31_3 (fun _ => ?_) (fun c => absurd c (by decide))
 refine s_iloadN 29 C X d31_28 rfl ?_
 refine s_iconst 30 C X d31_29 kc_iconst_1 ?_
 refine s_ishl 31 C X d31_30 ?_
 refine rc (st' := [.int i6]) (by rw [kf_4]) ?_
 refine s_istoreN 32 C X (l' := #[rv o44, iv i6]) d31_31 rfl ?_
 refine s_aloadN 33 C X d31_32 rfl rfl ?_
 refine s_iloadN 34 C X d31_33 rfl ?_
 refine s_iinc 37 C X (l' := #[rv o44, iv i7]) d31_34 kc_iconst_1 rfl rfl ?_
 refine s_baload 38 C X d31_37 A_o44 ⟨by decide, by decide⟩ (v := (.int (lo yF_18))) rfl ?_
 refine s_sipush 41 C X d31_38 kc_sipush_255 ?_
 refine s_iand 42 C X d31_41 ?_
 refine s_getstatic 45 C X (host := "") d31_42 (Or.inl (mW 136 rfl)) Via.refl (S_hi.ext Od.2) (fun T X => ?_)
 refine s_ishl 46 C X d31_45 ?_
 refine s_aloadN 47 C X d31_46 rfl rfl ?_
 refine s_iloadN 48 C X d31_47 rfl ?_
 refine s_baload 49 C X d31_48 A_o44 ⟨by decide, by decide⟩ (v := (.int (hi yF_18))) rfl ?_
 refine s_sipush 52 C X d31_49 kc_sipush_255 ?_
 refine s_iand 53 C X d31_52 ?_
 refine s_getstatic 56 C X (host := "") d31_53 (Or.inl (mW 137 rfl)) Via.refl (S_lo.ext Od.2) (fun T X => ?_)
 refine s_ishl 57 C X d31_56 ?_
 refine s_ior 58 C X d31_57 ?_
 refine s_i2c 59 C X d31_58 ?_
 refine rc (st' := [.int yF_18]) (by rw [show (((((lo yF_18) &&& i255) <<< (i0 &&& 31)) ||| (((hi yF_18) &&& i255) <<< (i8 &&& 31)))).toUInt32.toUInt16.toUInt32.toInt32 = yF_18 from own_get hvU_19]) ?_
 refine s_nreturn C X d31_59 rfl (by simp) (own_nU hvU_19) ?_ (FG hG (by decide) (by decide))
 exact hQ _ _ ⟨rfl, Od, Kp⟩
theorem rm_a11 (hw : Hw a0 Z) (yF : Int32) (yF_8 : Int32) (yF_13 : Int32) (yF_18 : Int32) (k_o44 : ClassId) (o44 : Addr) (h0 : Heap) (n0 : Nat) (Z0 : n0 ≤ h0.size) (S_ad : Sta Z Z.heap cU "$assertionsDisabled" "Z" (.int i1)) (S_hi : Sta Z Z.heap cU "HI_BYTE_SHIFT" "I" (.int i0)) (S_lo : Sta Z Z.heap cU "LO_BYTE_SHIFT" "I" (.int i8)) (Od : Old Z n0 h0) (A_o44 : Arv Z h0 o44 k_o44 .byte i8 [(.int (lo yF)), (.int (hi yF)), (.int (lo yF_8)), (.int (hi yF_8)), (.int (lo yF_13)), (.int (hi yF_13)), (.int (lo yF_18)), (.int (hi yF_18))] (.int i0)) (hvU_14 : own_U yF_13) :
  Met l Z (⟨cU, "getChar", "([BI)C"⟩ : MethodName) jdk_52_method_5_code 2 (some .char) (rM 0 0 0 0) [] #[.ref o44, .int i2] h0 n0 (fun v h => v = some (.int yF_13) ∧ Old Z n0 h ∧ Keep h0 h []) := by
 refine Met.mkQ (tabs := tables_1) (a0 := a0) (ls0 := #[rv o44, iv i2]) (plainFor_of_name pn_java_lang_StringUTF16) hw Z0 (fun m => by first | (simp [entryFrame, mkF, argsToLocals, Value.category]; done) | rfl) ?_
 intro p e s m below meth c T Q' G' hQ hG C X
 have Kp : Keep h0 h0 [] := Keep.refl _ _
 refine s_getstatic 3 C X (host := "") d31_0 (Or.inl (mW 135 rfl)) Via.refl (S_ad.ext Od.2) (fun T X => ?_)
 refine s_if_ne 28 6 C X d31_3 (fun _ => ?_) (fun c => absurd c (by decide))
 refine s_iloadN 29 C X d31_28 rfl ?_
 refine s_iconst 30 C X d31_29 kc_iconst_1 ?_
 refine s_ishl 31 C X d31_30 ?_
 refine rc (st' := [.int i4]) (by rw [kf_3]) ?_
 refine s_istoreN 32 C X (l' := #[rv o44, iv i4]) d31_31 rfl ?_
 refine s_aloadN 33 C X d31_32 rfl rfl ?_
 refine s_iloadN 34 C X d31_33 rfl ?_
 refine s_iinc 37 C X (l' := #[rv o44, iv i5]) d31_34 kc_iconst_1 rfl rfl ?_
 refine s_baload 38 C X d31_37 A_o44 ⟨by decide, by decide⟩ (v := (.int (lo yF_13))) rfl ?_
 refine s_sipush 41 C X d31_38 kc_sipush_255 ?_
 refine s_iand 42 C X d31_41 ?_
 refine s_getstatic 45 C X (host := "") d31_42 (Or.inl (mW 136 rfl)) Via.refl (S_hi.ext Od.2) (fun T X => ?_)
 refine s_ishl 46 C X d31_45 ?_
 refine s_aloadN 47 C X d31_46 rfl rfl ?_
 refine s_iloadN 48 C X d31_47 rfl ?_
 refine s_baload 49 C X d31_48 A_o44 ⟨by decide, by decide⟩ (v := (.int (hi yF_13))) rfl ?_
 refine s_sipush 52 C X d31_49 kc_sipush_255 ?_
 refine s_iand 53 C X d31_52 ?_
 refine s_getstatic 56 C X (host := "") d31_53 (Or.inl (mW 137 rfl)) Via.refl (S_lo.ext Od.2) (fun T X => ?_)
 refine s_ishl 57 C X d31_56 ?_
 refine s_ior 58 C X d31_57 ?_
 refine s_i2c 59 C X d31_58 ?_
 refine rc (st' := [.int yF_13]) (by rw [show (((((lo yF_13) &&& i255) <<< (i0 &&& 31)) ||| (((hi yF_13) &&& i255) <<< (i8 &&& 31)))).toUInt32.toUInt16.toUInt32.toInt32 = yF_13 from own_get hvU_14]) ?_
 refine s_nreturn C X d31_59 rfl (by simp) (own_nU hvU_14) ?_ (FG hG (by decide) (by decide))
 exact hQ _ _ ⟨rfl, Od, Kp⟩
theorem rm_a12 (hw : Hw a0 Z) (yF : Int32) (yF_8 : Int32) (yF_13 : Int32) (yF_18 : Int32) (k_o44 : ClassId) (o44 : Addr) (h0 : Heap) (n0 : Nat) (Z0 : n0 ≤ h0.size) (S_ad : Sta Z Z.heap cU "$assertionsDisabled" "Z" (.int i1)) (S_hi : Sta Z Z.heap cU "HI_BYTE_SHIFT" "I" (.int i0)) (S_lo : Sta Z Z.heap cU "LO_BYTE_SHIFT" "I" (.int i8)) (Od : Old Z n0 h0) (A_o44 : Arv Z h0 o44 k_o44 .byte i8 [(.int (lo yF)), (.int (hi yF)), (.int (lo yF_8)), (.int (hi yF_8)), (.int (lo yF_13)), (.int (hi yF_13)), (.int (lo yF_18)), (.int (hi yF_18))] (.int i0)) (hvU_9 : own_U yF_8) :
  Met l Z (⟨cU, "getChar", "([BI)C"⟩ : MethodName) jdk_52_method_5_code 2 (some .char) (rM 0 0 0 0) [] #[.ref o44, .int i1] h0 n0 (fun v h => v = some (.int yF_8) ∧ Old Z n0 h ∧ Keep h0 h []) := by
 refine Met.mkQ (tabs := tables_1) (a0 := a0) (ls0 := #[rv o44, iv i1]) (plainFor_of_name pn_java_lang_StringUTF16) hw Z0 (fun m => by first | (simp [entryFrame, mkF, argsToLocals, Value.category]; done) | rfl) ?_
 intro p e s m below meth c T Q' G' hQ hG C X
 have Kp : Keep h0 h0 [] := Keep.refl _ _
 refine s_getstatic 3 C X (host := "") d31_0 (Or.inl (mW 135 rfl)) Via.refl (S_ad.ext Od.2) (fun T X => ?_)
 refine s_if_ne 28 6 C X d31_3 (fun _ => ?_) (fun c => absurd c (by decide))
 refine s_iloadN 29 C X d31_28 rfl ?_
 refine s_iconst 30 C X d31_29 kc_iconst_1 ?_
 refine s_ishl 31 C X d31_30 ?_
 refine rc (st' := [.int i2]) (by rw [kf_2]) ?_
 refine s_istoreN 32 C X (l' := #[rv o44, iv i2]) d31_31 rfl ?_
 refine s_aloadN 33 C X d31_32 rfl rfl ?_
 refine s_iloadN 34 C X d31_33 rfl ?_
 refine s_iinc 37 C X (l' := #[rv o44, iv i3]) d31_34 kc_iconst_1 rfl rfl ?_
 refine s_baload 38 C X d31_37 A_o44 ⟨by decide, by decide⟩ (v := (.int (lo yF_8))) rfl ?_
 refine s_sipush 41 C X d31_38 kc_sipush_255 ?_
 refine s_iand 42 C X d31_41 ?_
 refine s_getstatic 45 C X (host := "") d31_42 (Or.inl (mW 136 rfl)) Via.refl (S_hi.ext Od.2) (fun T X => ?_)
 refine s_ishl 46 C X d31_45 ?_
 refine s_aloadN 47 C X d31_46 rfl rfl ?_
 refine s_iloadN 48 C X d31_47 rfl ?_
 refine s_baload 49 C X d31_48 A_o44 ⟨by decide, by decide⟩ (v := (.int (hi yF_8))) rfl ?_
 refine s_sipush 52 C X d31_49 kc_sipush_255 ?_
 refine s_iand 53 C X d31_52 ?_
 refine s_getstatic 56 C X (host := "") d31_53 (Or.inl (mW 137 rfl)) Via.refl (S_lo.ext Od.2) (fun T X => ?_)
 refine s_ishl 57 C X d31_56 ?_
 refine s_ior 58 C X d31_57 ?_
 refine s_i2c 59 C X d31_58 ?_
 refine rc (st' := [.int yF_8]) (by rw [show (((((lo yF_8) &&& i255) <<< (i0 &&& 31)) ||| (((hi yF_8) &&& i255) <<< (i8 &&& 31)))).toUInt32.toUInt16.toUInt32.toInt32 = yF_8 from own_get hvU_9]) ?_
 refine s_nreturn C X d31_59 rfl (by simp) (own_nU hvU_9) ?_ (FG hG (by decide) (by decide))
 exact hQ _ _ ⟨rfl, Od, Kp⟩
theorem rm_a13 (hw : Hw a0 Z) (yF : Int32) (yF_8 : Int32) (yF_13 : Int32) (yF_18 : Int32) (k_o44 : ClassId) (o44 : Addr) (h0 : Heap) (n0 : Nat) (Z0 : n0 ≤ h0.size) (S_ad : Sta Z Z.heap cU "$assertionsDisabled" "Z" (.int i1)) (S_hi : Sta Z Z.heap cU "HI_BYTE_SHIFT" "I" (.int i0)) (S_lo : Sta Z Z.heap cU "LO_BYTE_SHIFT" "I" (.int i8)) (Od : Old Z n0 h0) (A_o44 : Arv Z h0 o44 k_o44 .byte i8 [(.int (lo yF)), (.int (hi yF)), (.int (lo yF_8)), (.int (hi yF_8)), (.int (lo yF_13)), (.int (hi yF_13)), (.int (lo yF_18)), (.int (hi yF_18))] (.int i0)) (hvU : own_U yF) :
  Met l Z (⟨cU, "getChar", "([BI)C"⟩ : MethodName) jdk_52_method_5_code 2 (some .char) (rM 0 0 0 0) [] #[.ref o44, .int i0] h0 n0 (fun v h => v = some (.int yF) ∧ Old Z n0 h ∧ Keep h0 h []) := by
 refine Met.mkQ (tabs := tables_1) (a0 := a0) (ls0 := #[rv o44, iv i0]) (plainFor_of_name pn_java_lang_StringUTF16) hw Z0 (fun m => by first | (simp [entryFrame, mkF, argsToLocals, Value.category]; done) | rfl) ?_
 intro p e s m below meth c T Q' G' hQ hG C X
 have Kp : Keep h0 h0 [] := Keep.refl _ _
 refine s_getstatic 3 C X (host := "") d31_0 (Or.inl (mW 135 rfl)) Via.refl (S_ad.ext Od.2) (fun T X => ?_)
 refine s_if_ne 28 6 C X d31_3 (fun _ => ?_) (fun c => absurd c (by decide))
 refine s_iloadN 29 C X d31_28 rfl ?_
 refine s_iconst 30 C X d31_29 kc_iconst_1 ?_
 refine s_ishl 31 C X d31_30 ?_
 refine rc (st' := [.int i0]) (by rw [kf_1]) ?_
 refine s_istoreN 32 C X (l' := #[rv o44, iv i0]) d31_31 rfl ?_
 refine s_aloadN 33 C X d31_32 rfl rfl ?_
 refine s_iloadN 34 C X d31_33 rfl ?_
 refine s_iinc 37 C X (l' := #[rv o44, iv i1]) d31_34 kc_iconst_1 rfl rfl ?_
 refine s_baload 38 C X d31_37 A_o44 ⟨by decide, by decide⟩ (v := (.int (lo yF))) rfl ?_
 refine s_sipush 41 C X d31_38 kc_sipush_255 ?_
 refine s_iand 42 C X d31_41 ?_
 refine s_getstatic 45 C X (host := "") d31_42 (Or.inl (mW 136 rfl)) Via.refl (S_hi.ext Od.2) (fun T X => ?_)
 refine s_ishl 46 C X d31_45 ?_
 refine s_aloadN 47 C X d31_46 rfl rfl ?_
 refine s_iloadN 48 C X d31_47 rfl ?_
 refine s_baload 49 C X d31_48 A_o44 ⟨by decide, by decide⟩ (v := (.int (hi yF))) rfl ?_
 refine s_sipush 52 C X d31_49 kc_sipush_255 ?_
 refine s_iand 53 C X d31_52 ?_
 refine s_getstatic 56 C X (host := "") d31_53 (Or.inl (mW 137 rfl)) Via.refl (S_lo.ext Od.2) (fun T X => ?_)
 refine s_ishl 57 C X d31_56 ?_
 refine s_ior 58 C X d31_57 ?_
 refine s_i2c 59 C X d31_58 ?_
 refine rc (st' := [.int yF]) (by rw [show (((((lo yF) &&& i255) <<< (i0 &&& 31)) ||| (((hi yF) &&& i255) <<< (i8 &&& 31)))).toUInt32.toUInt16.toUInt32.toInt32 = yF from own_get hvU]) ?_
 refine s_nreturn C X d31_59 rfl (by simp) (own_nU hvU) ?_ (FG hG (by decide) (by decide))
 exact hQ _ _ ⟨rfl, Od, Kp⟩
theorem rm_a14 (hw : Hw a0 Z) (yF : Int32) (yF_8 : Int32) (yF_13 : Int32) (yF_18 : Int32) (o25 : Addr) (k_o25 : ClassId) (h0 : Heap) (n0 : Nat) (Z0 : n0 ≤ h0.size) (Od : Old Z n0 h0) (S_ad : Sta Z Z.heap cU "$assertionsDisabled" "Z" (.int i1)) (S_hi : Sta Z Z.heap cU "HI_BYTE_SHIFT" "I" (.int i0)) (S_lo : Sta Z Z.heap cU "LO_BYTE_SHIFT" "I" (.int i8)) (A_o25 : Arv Z h0 o25 k_o25 .char i4 [.int yF, .int yF_8, .int yF_13, .int yF_18] (.int i0)) (hvU : own_U yF) (hvU_9 : own_U yF_8) (hvU_14 : own_U yF_13) (hvU_19 : own_U yF_18) :
  Met l Z (⟨cU, "compress", "([CII)[B"⟩ : MethodName) jdk_52_method_16_code 6 (some (.array .byte)) (rM 3 2 12 40) [] #[.ref o25, .int i0, .int i4] h0 n0 (fun v h => (∃ (bFc : Addr) (k_bFc : ClassId), v = some (.ref bFc) ∧ own_B yF ∧ own_B yF_8 ∧ own_B yF_13 ∧ own_B yF_18 ∧ Old Z n0 h ∧ Keep h0 h [] ∧ Arv Z h bFc k_bFc .byte i4 [(.int (bv yF)), (.int (bv yF_8)), (.int (bv yF_13)), (.int (bv yF_18))] (.int i0)) ∨ (∃ (bFc : Addr) (k_bFc : ClassId), v = some (.ref bFc) ∧ Keep h0 h [] ∧ Old Z n0 h ∧ Arv Z h bFc k_bFc .byte i8 [(.int (lo yF)), (.int (hi yF)), (.int (lo yF_8)), (.int (hi yF_8)), (.int (lo yF_13)), (.int (hi yF_13)), (.int (lo yF_18)), (.int (hi yF_18))] (.int i0))) := by
 refine Met.mkQ (tabs := tables_1) (a0 := a0) (ls0 := #[rv o25, iv i0, iv i4, un, un, un]) (plainFor_of_name pn_java_lang_StringUTF16) hw Z0 (fun m => by first | (simp [entryFrame, mkF, argsToLocals, Value.category]; done) | rfl) ?_
 intro p e s m below meth c T Q' G' hQ hG C X
 have Kp : Keep h0 h0 [] := Keep.refl _ _
 refine s_iloadN 1 C X d11_0 rfl ?_
 refine s_newarray 3 4 C X d11_1 (mW 23 rfl) (by decide) (by decide) (fun T hh o28 k_o28 hb_o28 X E A_o28 g_o28 => ?_)
 have ne_o25_o28 : o25 ≠ o28 := Nat.ne_of_lt (Nat.lt_of_lt_of_le A_o25.lt (Nat.le_of_eq hb_o28))
 have sz_o28 : h0.size ≤ o28 := Nat.le_trans Kp.1 (Nat.le_of_eq hb_o28)
 have Od := Od.ext E
 have A_o25 := A_o25.ext E
 have Kp := Kp.ext E
 have A_o28 : Arv Z _ o28 k_o28 .byte i4 [.int i0, .int i0, .int i0, .int i0] (.int i0) := A_o28.pad (pad_rep [] _ 4)
 refine s_astoreN 4 C X (l' := #[rv o25, iv i0, iv i4, rv o28, un, un]) d11_3 rfl rfl ?_
 refine s_aloadN 5 C X d11_4 rfl rfl ?_
 refine s_iloadN 6 C X d11_5 rfl ?_
 refine s_aloadN 7 C X d11_6 rfl rfl ?_
 refine s_iconst 8 C X d11_7 kc_iconst_0 ?_
 refine s_iloadN 9 C X d11_8 rfl ?_
 refine s_callS 12 [.ref o25, .int i0, .ref o28, .int i0, .int i4] [] 0 C X d11_9 (mW 64 rfl) (mW 65 rfl) (mW 62 rfl) (mW 66 rfl) (rm_a2 l Z a0 hw yF yF_8 yF_13 yF_18 o25 k_o25 o28 k_o28 _ n0 X.sz A_o25 A_o28 ne_o25_o28 g_o28) (lenOf pd___CI_BII_I rfl) rfl rfl rfl (fun T v hh X q => ?_)
 obtain ⟨rfl, c20_30, c20_32, c20_34, c20_36, A_o28, Kc⟩ | ⟨rfl, c20_30, c20_32, c20_34, c20_36, A_o28, Kc⟩ | ⟨rfl, c20_30, c20_32, c20_34, A_o28, Kc⟩ | ⟨rfl, c20_30, c20_32, A_o28, Kc⟩ | ⟨rfl, c20_30, A_o28, Kc⟩ := q
 ·have Od := Od.keep Kc (allS g_o28 all0)
  have Kp := Kp.trans Kc (allS (Or.inr sz_o28) all0)
  refine rc (st' := [.int i4]) rfl ?_
  refine s_istore 14 C X (l' := #[rv o25, iv i0, iv i4, rv o28, iv i4, un]) d11_12 rfl ?_
  refine s_iload 16 C X d11_14 rfl ?_
  refine s_iloadN 17 C X d11_16 rfl ?_
  refine s_icmp_eq 57 20 C X d11_17 (fun _ => ?_) (fun c => absurd (by decide : i4 = i4) c)
  refine s_aloadN 58 C X d11_57 rfl rfl ?_
  refine s_areturn C X d11_58 rfl rfl rfl ?_ (FG hG (by decide) (by decide))
  obtain ⟨bFc, e_bFc⟩ : ∃ z : Addr, z = o28 := ⟨_, rfl⟩
  obtain ⟨k_bFc, e_k⟩ : ∃ z : ClassId, z = k_o28 := ⟨_, rfl⟩
  show Q' (some (.ref o28)) _
  rw [← e_bFc]
  have A_bFc : Arv Z hh bFc k_bFc .byte i4 [(.int (bv yF)), (.int (bv yF_8)), (.int (bv yF_13)), (.int (bv yF_18))] (.int i0) := by rw [e_bFc, e_k]; exact A_o28
  have hvB0 : own_B yF := own_BB hvU c20_30
  have hvB1 : own_B yF_8 := own_BB hvU_9 c20_32
  have hvB2 : own_B yF_13 := own_BB hvU_14 c20_34
  have hvB3 : own_B yF_18 := own_BB hvU_19 c20_36
  exact hQ _ _ (Or.inl ⟨bFc, k_bFc, rfl, hvB0, hvB1, hvB2, hvB3, Od, Kp, A_bFc⟩)
 ·have Od := Od.keep Kc (allS g_o28 all0)
  have A_o25 := A_o25.keep Kc (ninS ne_o25_o28 nin0)
  have Kp := Kp.trans Kc (allS (Or.inr sz_o28) all0)
  refine rc (st' := [.int i3]) rfl ?_
  refine s_istore 14 C X (l' := #[rv o25, iv i0, iv i4, rv o28, iv i3, un]) d11_12 rfl ?_
  refine s_iload 16 C X d11_14 rfl ?_
  refine s_iloadN 17 C X d11_16 rfl ?_
  refine s_icmp_eq 57 20 C X d11_17 (fun c => absurd c (by decide)) (fun _ => ?_)
  refine s_aloadN 21 C X d11_20 rfl rfl ?_
  refine s_iloadN 22 C X d11_21 rfl ?_
  refine s_iloadN 23 C X d11_22 rfl ?_
  refine s_callS 26 [.ref o25, .int i0, .int i4] [] 0 C X d11_23 (mW 122 rfl) (mW 123 rfl) (mW 62 rfl) (mW 124 rfl) (rm_a9 l Z a0 hw yF yF_8 yF_13 yF_18 o25 k_o25 _ n0 X.sz Od S_ad S_hi S_lo A_o25) (lenOf pd___CII__B rfl) rfl rfl rfl (fun T v hh X q => ?_)
  obtain ⟨k_o44, o44, rfl, Kc, Od, A_o44, sz_o44', g_o44⟩ := q
  have Kp := Kp.trans Kc all0
  refine rc (st' := [.ref o44]) rfl ?_
  refine s_astore 28 C X (l' := #[rv o25, iv i0, iv i4, rv o28, iv i3, rv o44]) d11_26 rfl rfl ?_
  refine s_aload 30 C X d11_28 rfl rfl ?_
  refine s_iload 32 C X d11_30 rfl ?_
  refine s_callS 35 [.ref o44, .int i3] [] 0 C X d11_32 (mW 138 rfl) (mW 139 rfl) (mW 62 rfl) (mW 140 rfl) (rm_a10 l Z a0 hw yF yF_8 yF_13 yF_18 k_o44 o44 _ n0 X.sz S_ad S_hi S_lo Od A_o44 hvU_19) (lenOf pd___BI_C rfl) rfl rfl rfl (fun T v hh X q => ?_)
  obtain ⟨rfl, Od, Kc⟩ := q
  have Kp := Kp.trans Kc all0
  have A_o44 := A_o44.keep Kc nin0
  refine rc (st' := [.int yF_18]) rfl ?_
  refine s_sipush 38 C X d11_35 kc_sipush_255 ?_
  refine s_icmp_gt 54 41 C X d11_38 (fun c38_62 => ?_) (fun c => absurd c20_36 c)
  refine s_aload 56 C X d11_54 rfl rfl ?_
  refine s_areturn C X d11_56 rfl rfl rfl ?_ (FG hG (by decide) (by decide))
  obtain ⟨bFc, e_bFc⟩ : ∃ z : Addr, z = o44 := ⟨_, rfl⟩
  obtain ⟨k_bFc, e_k⟩ : ∃ z : ClassId, z = k_o44 := ⟨_, rfl⟩
  show Q' (some (.ref o44)) _
  rw [← e_bFc]
  have A_bFc : Arv Z hh bFc k_bFc .byte i8 [(.int (lo yF)), (.int (hi yF)), (.int (lo yF_8)), (.int (hi yF_8)), (.int (lo yF_13)), (.int (hi yF_13)), (.int (lo yF_18)), (.int (hi yF_18))] (.int i0) := by rw [e_bFc, e_k]; exact A_o44
  exact hQ _ _ (Or.inr ⟨bFc, k_bFc, rfl, Kp, Od, A_bFc⟩)
 ·have Od := Od.keep Kc (allS g_o28 all0)
  have A_o25 := A_o25.keep Kc (ninS ne_o25_o28 nin0)
  have Kp := Kp.trans Kc (allS (Or.inr sz_o28) all0)
  refine rc (st' := [.int i2]) rfl ?_
  refine s_istore 14 C X (l' := #[rv o25, iv i0, iv i4, rv o28, iv i2, un]) d11_12 rfl ?_
  refine s_iload 16 C X d11_14 rfl ?_
  refine s_iloadN 17 C X d11_16 rfl ?_
  refine s_icmp_eq 57 20 C X d11_17 (fun c => absurd c (by decide)) (fun _ => ?_)
  refine s_aloadN 21 C X d11_20 rfl rfl ?_
  refine s_iloadN 22 C X d11_21 rfl ?_
  refine s_iloadN 23 C X d11_22 rfl ?_
  refine s_callS 26 [.ref o25, .int i0, .int i4] [] 0 C X d11_23 (mW 122 rfl) (mW 123 rfl) (mW 62 rfl) (mW 124 rfl) (rm_a9 l Z a0 hw yF yF_8 yF_13 yF_18 o25 k_o25 _ n0 X.sz Od S_ad S_hi S_lo A_o25) (lenOf pd___CII__B rfl) rfl rfl rfl (fun T v hh X q => ?_)
  obtain ⟨k_o44, o44, rfl, Kc, Od, A_o44, sz_o44', g_o44⟩ := q
  have Kp := Kp.trans Kc all0
  refine rc (st' := [.ref o44]) rfl ?_
  refine s_astore 28 C X (l' := #[rv o25, iv i0, iv i4, rv o28, iv i2, rv o44]) d11_26 rfl rfl ?_
  refine s_aload 30 C X d11_28 rfl rfl ?_
  refine s_iload 32 C X d11_30 rfl ?_
  refine s_callS 35 [.ref o44, .int i2] [] 0 C X d11_32 (mW 138 rfl) (mW 139 rfl) (mW 62 rfl) (mW 140 rfl) (rm_a11 l Z a0 hw yF yF_8 yF_13 yF_18 k_o44 o44 _ n0 X.sz S_ad S_hi S_lo Od A_o44 hvU_14) (lenOf pd___BI_C rfl) rfl rfl rfl (fun T v hh X q => ?_)
  obtain ⟨rfl, Od, Kc⟩ := q
  have Kp := Kp.trans Kc all0
  have A_o44 := A_o44.keep Kc nin0
  refine rc (st' := [.int yF_13]) rfl ?_
  refine s_sipush 38 C X d11_35 kc_sipush_255 ?_
  refine s_icmp_gt 54 41 C X d11_38 (fun c38_85 => ?_) (fun c => absurd c20_34 c)
  refine s_aload 56 C X d11_54 rfl rfl ?_
  refine s_areturn C X d11_56 rfl rfl rfl ?_ (FG hG (by decide) (by decide))
  obtain ⟨bFc, e_bFc⟩ : ∃ z : Addr, z = o44 := ⟨_, rfl⟩
  obtain ⟨k_bFc, e_k⟩ : ∃ z : ClassId, z = k_o44 := ⟨_, rfl⟩
  show Q' (some (.ref o44)) _
  rw [← e_bFc]
  have A_bFc : Arv Z hh bFc k_bFc .byte i8 [(.int (lo yF)), (.int (hi yF)), (.int (lo yF_8)), (.int (hi yF_8)), (.int (lo yF_13)), (.int (hi yF_13)), (.int (lo yF_18)), (.int (hi yF_18))] (.int i0) := by rw [e_bFc, e_k]; exact A_o44
  exact hQ _ _ (Or.inr ⟨bFc, k_bFc, rfl, Kp, Od, A_bFc⟩)
 ·have Od := Od.keep Kc (allS g_o28 all0)
  have A_o25 := A_o25.keep Kc (ninS ne_o25_o28 nin0)
  have Kp := Kp.trans Kc (allS (Or.inr sz_o28) all0)
  refine rc (st' := [.int i1]) rfl ?_
  refine s_istore 14 C X (l' := #[rv o25, iv i0, iv i4, rv o28, iv i1, un]) d11_12 rfl ?_
  refine s_iload 16 C X d11_14 rfl ?_
  refine s_iloadN 17 C X d11_16 rfl ?_
  refine s_icmp_eq 57 20 C X d11_17 (fun c => absurd c (by decide)) (fun _ => ?_)
  refine s_aloadN 21 C X d11_20 rfl rfl ?_
  refine s_iloadN 22 C X d11_21 rfl ?_
  refine s_iloadN 23 C X d11_22 rfl ?_
  refine s_callS 26 [.ref o25, .int i0, .int i4] [] 0 C X d11_23 (mW 122 rfl) (mW 123 rfl) (mW 62 rfl) (mW 124 rfl) (rm_a9 l Z a0 hw yF yF_8 yF_13 yF_18 o25 k_o25 _ n0 X.sz Od S_ad S_hi S_lo A_o25) (lenOf pd___CII__B rfl) rfl rfl rfl (fun T v hh X q => ?_)
  obtain ⟨k_o44, o44, rfl, Kc, Od, A_o44, sz_o44', g_o44⟩ := q
  have Kp := Kp.trans Kc all0
  refine rc (st' := [.ref o44]) rfl ?_
  refine s_astore 28 C X (l' := #[rv o25, iv i0, iv i4, rv o28, iv i1, rv o44]) d11_26 rfl rfl ?_
  refine s_aload 30 C X d11_28 rfl rfl ?_
  refine s_iload 32 C X d11_30 rfl ?_
  refine s_callS 35 [.ref o44, .int i1] [] 0 C X d11_32 (mW 138 rfl) (mW 139 rfl) (mW 62 rfl) (mW 140 rfl) (rm_a12 l Z a0 hw yF yF_8 yF_13 yF_18 k_o44 o44 _ n0 X.sz S_ad S_hi S_lo Od A_o44 hvU_9) (lenOf pd___BI_C rfl) rfl rfl rfl (fun T v hh X q => ?_)
  obtain ⟨rfl, Od, Kc⟩ := q
  have Kp := Kp.trans Kc all0
  have A_o44 := A_o44.keep Kc nin0
  refine rc (st' := [.int yF_8]) rfl ?_
  refine s_sipush 38 C X d11_35 kc_sipush_255 ?_
  refine s_icmp_gt 54 41 C X d11_38 (fun c38_108 => ?_) (fun c => absurd c20_32 c)
  refine s_aload 56 C X d11_54 rfl rfl ?_
  refine s_areturn C X d11_56 rfl rfl rfl ?_ (FG hG (by decide) (by decide))
  obtain ⟨bFc, e_bFc⟩ : ∃ z : Addr, z = o44 := ⟨_, rfl⟩
  obtain ⟨k_bFc, e_k⟩ : ∃ z : ClassId, z = k_o44 := ⟨_, rfl⟩
  show Q' (some (.ref o44)) _
  rw [← e_bFc]
  have A_bFc : Arv Z hh bFc k_bFc .byte i8 [(.int (lo yF)), (.int (hi yF)), (.int (lo yF_8)), (.int (hi yF_8)), (.int (lo yF_13)), (.int (hi yF_13)), (.int (lo yF_18)), (.int (hi yF_18))] (.int i0) := by rw [e_bFc, e_k]; exact A_o44
  exact hQ _ _ (Or.inr ⟨bFc, k_bFc, rfl, Kp, Od, A_bFc⟩)
 ·have Od := Od.keep Kc (allS g_o28 all0)
  have A_o25 := A_o25.keep Kc (ninS ne_o25_o28 nin0)
  have Kp := Kp.trans Kc (allS (Or.inr sz_o28) all0)
  refine rc (st' := [.int i0]) rfl ?_
  refine s_istore 14 C X (l' := #[rv o25, iv i0, iv i4, rv o28, iv i0, un]) d11_12 rfl ?_
  refine s_iload 16 C X d11_14 rfl ?_
  refine s_iloadN 17 C X d11_16 rfl ?_
  refine s_icmp_eq 57 20 C X d11_17 (fun c => absurd c (by decide)) (fun _ => ?_)
  refine s_aloadN 21 C X d11_20 rfl rfl ?_
  refine s_iloadN 22 C X d11_21 rfl ?_
  refine s_iloadN 23 C X d11_22 rfl ?_
  refine s_callS 26 [.ref o25, .int i0, .int i4] [] 0 C X d11_23 (mW 122 rfl) (mW 123 rfl) (mW 62 rfl) (mW 124 rfl) (rm_a9 l Z a0 hw yF yF_8 yF_13 yF_18 o25 k_o25 _ n0 X.sz Od S_ad S_hi S_lo A_o25) (lenOf pd___CII__B rfl) rfl rfl rfl (fun T v hh X q => ?_)
  obtain ⟨k_o44, o44, rfl, Kc, Od, A_o44, sz_o44', g_o44⟩ := q
  have Kp := Kp.trans Kc all0
  refine rc (st' := [.ref o44]) rfl ?_
  refine s_astore 28 C X (l' := #[rv o25, iv i0, iv i4, rv o28, iv i0, rv o44]) d11_26 rfl rfl ?_
  refine s_aload 30 C X d11_28 rfl rfl ?_
  refine s_iload 32 C X d11_30 rfl ?_
  refine s_callS 35 [.ref o44, .int i0] [] 0 C X d11_32 (mW 138 rfl) (mW 139 rfl) (mW 62 rfl) (mW 140 rfl) (rm_a13 l Z a0 hw yF yF_8 yF_13 yF_18 k_o44 o44 _ n0 X.sz S_ad S_hi S_lo Od A_o44 hvU) (lenOf pd___BI_C rfl) rfl rfl rfl (fun T v hh X q => ?_)
  obtain ⟨rfl, Od, Kc⟩ := q
  have Kp := Kp.trans Kc all0
  have A_o44 := A_o44.keep Kc nin0
  refine rc (st' := [.int yF]) rfl ?_
  refine s_sipush 38 C X d11_35 kc_sipush_255 ?_
  refine s_icmp_gt 54 41 C X d11_38 (fun c38_131 => ?_) (fun c => absurd c20_30 c)
  refine s_aload 56 C X d11_54 rfl rfl ?_
  refine s_areturn C X d11_56 rfl rfl rfl ?_ (FG hG (by decide) (by decide))
  obtain ⟨bFc, e_bFc⟩ : ∃ z : Addr, z = o44 := ⟨_, rfl⟩
  obtain ⟨k_bFc, e_k⟩ : ∃ z : ClassId, z = k_o44 := ⟨_, rfl⟩
  show Q' (some (.ref o44)) _
  rw [← e_bFc]
  have A_bFc : Arv Z hh bFc k_bFc .byte i8 [(.int (lo yF)), (.int (hi yF)), (.int (lo yF_8)), (.int (hi yF_8)), (.int (lo yF_13)), (.int (hi yF_13)), (.int (lo yF_18)), (.int (hi yF_18))] (.int i0) := by rw [e_bFc, e_k]; exact A_o44
  exact hQ _ _ (Or.inr ⟨bFc, k_bFc, rfl, Kp, Od, A_bFc⟩)
theorem rm_a15 (hw : Hw a0 Z) (yF : Int32) (yF_8 : Int32) (yF_13 : Int32) (yF_18 : Int32) (bFc : Addr) (k_bFc : ClassId) (h0 : Heap) (n0 : Nat) (Z0 : n0 ≤ h0.size) (A_bFc : Arv Z h0 bFc k_bFc .byte i4 [(.int (bv yF)), (.int (bv yF_8)), (.int (bv yF_13)), (.int (bv yF_18))] (.int i0)) :
  Met l Z (⟨cU, "coderFromArrayLen", "([BI)B"⟩ : MethodName) jdk_52_method_15_code 2 (some .byte) (rM 0 0 0 0) [] #[.ref bFc, .int i4] h0 n0 (fun v h => v = some (.int i0) ∧ Keep h0 h []) := by
 refine Met.mkQ (tabs := tables_1) (a0 := a0) (ls0 := #[rv bFc, iv i4]) (plainFor_of_name pn_java_lang_StringUTF16) hw Z0 (fun m => by first | (simp [entryFrame, mkF, argsToLocals, Value.category]; done) | rfl) ?_
 intro p e s m below meth c T Q' G' hQ hG C X
 have Kp : Keep h0 h0 [] := Keep.refl _ _
 refine s_iloadN 1 C X d13_0 rfl ?_
 refine s_aloadN 2 C X d13_1 rfl rfl ?_
 refine s_arraylength 3 C X d13_2 A_bFc ?_
 refine s_isub 4 C X d13_3 ?_
 refine rc (st' := [.int i0]) (by rw [kf_5]) ?_
 refine s_bipush 6 C X d13_4 kc_bipush_31 ?_
 refine s_iushr 7 C X d13_6 ?_
 refine rc (st' := [.int i0]) (by rw [kf_6]) ?_
 refine s_i2b 8 C X d13_7 ?_
 refine rc (st' := [.int i0]) (by rw [kf_7]) ?_
 refine s_nreturn C X d13_8 rfl (by simp) rfl ?_ (FG hG (by decide) (by decide))
 exact hQ _ _ ⟨rfl, Kp⟩
theorem rm_a16 (hw : Hw a0 Z) (yF : Int32) (yF_8 : Int32) (yF_13 : Int32) (yF_18 : Int32) (bFc : Addr) (k_bFc : ClassId) (h0 : Heap) (n0 : Nat) (Z0 : n0 ≤ h0.size) (A_bFc : Arv Z h0 bFc k_bFc .byte i8 [(.int (lo yF)), (.int (hi yF)), (.int (lo yF_8)), (.int (hi yF_8)), (.int (lo yF_13)), (.int (hi yF_13)), (.int (lo yF_18)), (.int (hi yF_18))] (.int i0)) :
  Met l Z (⟨cU, "coderFromArrayLen", "([BI)B"⟩ : MethodName) jdk_52_method_15_code 2 (some .byte) (rM 0 0 0 0) [] #[.ref bFc, .int i4] h0 n0 (fun v h => v = some (.int i1) ∧ Keep h0 h []) := by
 refine Met.mkQ (tabs := tables_1) (a0 := a0) (ls0 := #[rv bFc, iv i4]) (plainFor_of_name pn_java_lang_StringUTF16) hw Z0 (fun m => by first | (simp [entryFrame, mkF, argsToLocals, Value.category]; done) | rfl) ?_
 intro p e s m below meth c T Q' G' hQ hG C X
 have Kp : Keep h0 h0 [] := Keep.refl _ _
 refine s_iloadN 1 C X d13_0 rfl ?_
 refine s_aloadN 2 C X d13_1 rfl rfl ?_
 refine s_arraylength 3 C X d13_2 A_bFc ?_
 refine s_isub 4 C X d13_3 ?_
 refine rc (st' := [.int im4]) (by rw [kf_8]) ?_
 refine s_bipush 6 C X d13_4 kc_bipush_31 ?_
 refine s_iushr 7 C X d13_6 ?_
 refine rc (st' := [.int i1]) (by rw [kf_9]) ?_
 refine s_i2b 8 C X d13_7 ?_
 refine rc (st' := [.int i1]) (by rw [kf_10]) ?_
 refine s_nreturn C X d13_8 rfl (by simp) rfl ?_ (FG hG (by decide) (by decide))
 exact hQ _ _ ⟨rfl, Kp⟩
theorem rm_a17 (hw : Hw a0 Z) (cs : Int32) (yF : Int32) (yF_8 : Int32) (yF_13 : Int32) (yF_18 : Int32) (o24 : Addr) (o25 : Addr) (k_o25 : ClassId) (h0 : Heap) (n0 : Nat) (Z0 : n0 ≤ h0.size) (Od : Old Z n0 h0) (S_cs : Sta Z Z.heap cS cC "Z" (.int cs)) (S_ad : Sta Z Z.heap cU "$assertionsDisabled" "Z" (.int i1)) (S_hi : Sta Z Z.heap cU "HI_BYTE_SHIFT" "I" (.int i0)) (S_lo : Sta Z Z.heap cU "LO_BYTE_SHIFT" "I" (.int i8)) (E_o24 : Exa Z h0 o24 cS) (F_o24_a : Fld Z h0 o24 cS "value" "[B" .null) (F_o24_k : Fld Z h0 o24 cS "coder" "B" (.int i0)) (A_o25 : Arv Z h0 o25 k_o25 .char i4 [.int yF, .int yF_8, .int yF_13, .int yF_18] (.int i0)) (hv_cs : ¬ cs = i0) (hvU : own_U yF) (hvU_9 : own_U yF_8) (hvU_14 : own_U yF_13) (hvU_19 : own_U yF_18) (g_o24 : n0 ≤ o24) (ne_o24_o25 : o24 ≠ o25) :
  MetH l Z EL1 [o24] (⟨cS, "<init>", "([CIILjava/lang/Void;)V"⟩ : MethodName) jdk_42_method_149_code 6 none (rM 4 2 12 57) [] #[.ref o24, .ref o25, .int i0, .int i4, .null] h0 n0 (fun v h => ∃ (bF : Addr) (kF : Int32) (k_bF : ClassId) (zF : Int32) (zsF : List Int32), v = none ∧ own_T [yF, yF_8, yF_13, yF_18] kF zF zsF ∧ Exa Z h o24 cS ∧ Fld Z h o24 cS "value" "[B" (.ref bF) ∧ Fld Z h o24 cS "coder" "B" (.int kF) ∧ Keep h0 h [o24] ∧ Old Z n0 h ∧ Arv Z h bF k_bF .byte zF (Y zsF) (.int i0)) := by
 refine MetH.mkQ (tabs := tables_1) (a0 := a0) (ls0 := #[rv o24, rv o25, iv i0, iv i4, .val .null, un]) (plainFor_of_name pn_java_lang_String) hw Z0 (fun m => by first | (simp [entryFrame, mkF, argsToLocals, Value.category]; done) | rfl) ?_
 intro p e s m below meth c T Q' G' vm k1 hQ hG C X hS Rc hso
 have Kp : Keep h0 h0 [o24] := Keep.refl _ _
 have H_o24 : Safe Z EL1 vm h0 o24 := hso _ (by simp)
 refine s_aloadN 1 C X d3_0 rfl rfl ?_
 refine s_objInit 4 C X d3_1 (mW 19 rfl) (mW 20 rfl) (mW 21 rfl) rfl (W := 0) rfl (by decide) (fun T X => ?_)
 refine s_iloadN 5 C X d3_4 rfl ?_
 refine s_if_ne 27 8 C X d3_5 (fun _ => ?_) (fun c => absurd c (by decide))
 refine s_getstatic 30 C X (host := "") d3_27 (Or.inl (mW 44 rfl)) Via.refl (S_cs.ext Od.2) (fun T X => ?_)
 refine s_if_eq 58 33 C X d3_30 (fun c => absurd c hv_cs) (fun c30_27 => ?_)
 refine s_aloadN 34 C X d3_33 rfl rfl ?_
 refine s_iloadN 35 C X d3_34 rfl ?_
 refine s_iloadN 36 C X d3_35 rfl ?_
 refine s_callS 39 [.ref o25, .int i0, .int i4] [] 0 C X d3_36 (mW 60 rfl) (mW 61 rfl) (mW 62 rfl) (mW 63 rfl) (rm_a14 l Z a0 hw yF yF_8 yF_13 yF_18 o25 k_o25 _ n0 X.sz Od S_ad S_hi S_lo A_o25 hvU hvU_9 hvU_14 hvU_19) (lenOf pd___CII__B rfl) rfl rfl rfl (fun T v hh X q => ?_)
 obtain ⟨bFc, k_bFc, rfl, hvB0, hvB1, hvB2, hvB3, Od, Kc, A_bFc⟩ | ⟨bFc, k_bFc, rfl, Kc, Od, A_bFc⟩ := q
 ·have H_o24 := Safe.keep Kc so0 Rc.1.1 H_o24
  have Rc := Rc.keep Kc so0
  have E_o24 := E_o24.keep Kc
  have F_o24_a := F_o24_a.keep Kc nin0
  have F_o24_k := F_o24_k.keep Kc nin0
  have Kp := Kp.trans Kc all0
  refine rc (st' := [.ref bFc]) rfl ?_
  refine s_astore 41 C X (l' := #[rv o24, rv o25, iv i0, iv i4, .val .null, rv bFc]) d3_39 rfl rfl ?_
  refine s_aloadN 42 C X d3_41 rfl rfl ?_
  refine s_aload 44 C X d3_42 rfl rfl ?_
  refine s_iloadN 45 C X d3_44 rfl ?_
  refine s_callS 48 [.ref bFc, .int i4] [.ref o24] 1 C X d3_45 (mW 67 rfl) (mW 68 rfl) (mW 62 rfl) (mW 69 rfl) (rm_a15 l Z a0 hw yF yF_8 yF_13 yF_18 bFc k_bFc _ n0 X.sz A_bFc) (lenOf pd___BI_B rfl) rfl rfl rfl (fun T v hh X q => ?_)
  obtain ⟨rfl, Kc⟩ := q
  have H_o24 := Safe.keep Kc so0 Rc.1.1 H_o24
  have Rc := Rc.keep Kc so0
  have E_o24 := E_o24.keep Kc
  have F_o24_a := F_o24_a.keep Kc nin0
  have F_o24_k := F_o24_k.keep Kc nin0
  have Kp := Kp.trans Kc all0
  have Od := Od.keep Kc all0
  have A_bFc := A_bFc.keep Kc nin0
  refine rc (st' := [.int i0, .ref o24]) rfl ?_
  refine s_putfieldN 51 C X d3_48 (mW 29 rfl) Via.refl F_o24_k E_o24 (Or.inr ⟨(mW 25 rfl), rfl, rfl⟩) (mW 10 rfl) (ty := .byte) (by decide) rfl rfl g_o24 (fun T hh X W => ?_)
  have ne_bFc_o24 : bFc ≠ o24 := own_aen A_bFc E_o24 (hw _ (mW 10 rfl))
  have Sf : Safe Z EL1 vm _ o24 := H_o24
  have H_o24 := Safe.wr W Sf Rc.1.1 H_o24
  have Rc := Rc.wr W Sf
  have E_o24 := E_o24.wr W
  have F_o24_a := oth F_o24_a W (Or.inr (hw _ (mW 24 rfl))) (Or.inr (hw _ (mW 25 rfl))) (by decide)
  have F_o24_k := F_o24_k.same W
  have Kp := Kp.wr W (Or.inl (by simp))
  have Od := Od.wr W g_o24
  have A_bFc := A_bFc.other W ne_bFc_o24
  refine s_aloadN 52 C X d3_51 rfl rfl ?_
  refine s_aload 54 C X d3_52 rfl rfl ?_
  refine s_putfield 57 C X (host := "") d3_54 (Or.inl (mW 28 rfl)) Via.refl F_o24_a E_o24 (Or.inr ⟨(mW 24 rfl), rfl, rfl⟩) (mW 10 rfl) (ty := (.array .byte)) (by decide) rfl rfl g_o24 (fun T hh X W => ?_)
  have Sf : Safe Z EL1 vm _ o24 := H_o24
  have Rc := Rc.wr W Sf
  have E_o24 := E_o24.wr W
  have F_o24_a := F_o24_a.same W
  have F_o24_k := oth F_o24_k W (Or.inr (hw _ (mW 25 rfl))) (Or.inr (hw _ (mW 24 rfl))) (by decide)
  have Kp := Kp.wr W (Or.inl (by simp))
  have Od := Od.wr W g_o24
  have A_bFc := A_bFc.other W ne_bFc_o24
  refine s_return C X d3_57 rfl ?_ (FGH hG hS Rc C (own_EL hw))
  obtain ⟨bF, e_bF⟩ : ∃ z : Addr, z = bFc := ⟨_, rfl⟩
  obtain ⟨k_bF, e_k⟩ : ∃ z : ClassId, z = k_bFc := ⟨_, rfl⟩
  obtain ⟨kF, e_kF⟩ : ∃ z : Int32, z = i0 := ⟨_, rfl⟩
  obtain ⟨zF, e_zF⟩ : ∃ z : Int32, z = i4 := ⟨_, rfl⟩
  obtain ⟨zsF, e_zsF⟩ : ∃ z : List Int32, z = [(bv yF), (bv yF_8), (bv yF_13), (bv yF_18)] := ⟨_, rfl⟩
  rw [← e_bF] at F_o24_a
  have F_o24_k : Fld Z hh o24 cS "coder" "B" (.int kF) := by rw [e_kF]; exact F_o24_k
  have A_bF : Arv Z hh bF k_bF .byte zF (Y zsF) (.int i0) := by rw [e_bF, e_k, e_zF, e_zsF]; exact A_bFc
  have hvT : own_T [yF, yF_8, yF_13, yF_18] kF zF zsF := by rw [e_kF, e_zF, e_zsF]; exact own_tL4 hvU hvU_9 hvU_14 hvU_19 hvB0 hvB1 hvB2 hvB3
  exact hQ _ _ ⟨bF, kF, k_bF, zF, zsF, rfl, hvT, E_o24, F_o24_a, F_o24_k, Kp, Od, A_bF⟩
 ·have H_o24 := Safe.keep Kc so0 Rc.1.1 H_o24
  have Rc := Rc.keep Kc so0
  have E_o24 := E_o24.keep Kc
  have F_o24_a := F_o24_a.keep Kc nin0
  have F_o24_k := F_o24_k.keep Kc nin0
  have Kp := Kp.trans Kc all0
  refine rc (st' := [.ref bFc]) rfl ?_
  refine s_astore 41 C X (l' := #[rv o24, rv o25, iv i0, iv i4, .val .null, rv bFc]) d3_39 rfl rfl ?_
  refine s_aloadN 42 C X d3_41 rfl rfl ?_
  refine s_aload 44 C X d3_42 rfl rfl ?_
  refine s_iloadN 45 C X d3_44 rfl ?_
  refine s_callS 48 [.ref bFc, .int i4] [.ref o24] 1 C X d3_45 (mW 67 rfl) (mW 68 rfl) (mW 62 rfl) (mW 69 rfl) (rm_a16 l Z a0 hw yF yF_8 yF_13 yF_18 bFc k_bFc _ n0 X.sz A_bFc) (lenOf pd___BI_B rfl) rfl rfl rfl (fun T v hh X q => ?_)
  obtain ⟨rfl, Kc⟩ := q
  have H_o24 := Safe.keep Kc so0 Rc.1.1 H_o24
  have Rc := Rc.keep Kc so0
  have E_o24 := E_o24.keep Kc
  have F_o24_a := F_o24_a.keep Kc nin0
  have F_o24_k := F_o24_k.keep Kc nin0
  have Kp := Kp.trans Kc all0
  have Od := Od.keep Kc all0
  have A_bFc := A_bFc.keep Kc nin0
  refine rc (st' := [.int i1, .ref o24]) rfl ?_
  refine s_putfieldN 51 C X d3_48 (mW 29 rfl) Via.refl F_o24_k E_o24 (Or.inr ⟨(mW 25 rfl), rfl, rfl⟩) (mW 10 rfl) (ty := .byte) (by decide) rfl rfl g_o24 (fun T hh X W => ?_)
  have ne_bFc_o24 : bFc ≠ o24 := own_aen A_bFc E_o24 (hw _ (mW 10 rfl))
  have Sf : Safe Z EL1 vm _ o24 := H_o24
  have H_o24 := Safe.wr W Sf Rc.1.1 H_o24
  have Rc := Rc.wr W Sf
  have E_o24 := E_o24.wr W
  have F_o24_a := oth F_o24_a W (Or.inr (hw _ (mW 24 rfl))) (Or.inr (hw _ (mW 25 rfl))) (by decide)
  have F_o24_k := F_o24_k.same W
  have Kp := Kp.wr W (Or.inl (by simp))
  have Od := Od.wr W g_o24
  have A_bFc := A_bFc.other W ne_bFc_o24
  refine s_aloadN 52 C X d3_51 rfl rfl ?_
  refine s_aload 54 C X d3_52 rfl rfl ?_
  refine s_putfield 57 C X (host := "") d3_54 (Or.inl (mW 28 rfl)) Via.refl F_o24_a E_o24 (Or.inr ⟨(mW 24 rfl), rfl, rfl⟩) (mW 10 rfl) (ty := (.array .byte)) (by decide) rfl rfl g_o24 (fun T hh X W => ?_)
  have Sf : Safe Z EL1 vm _ o24 := H_o24
  have Rc := Rc.wr W Sf
  have E_o24 := E_o24.wr W
  have F_o24_a := F_o24_a.same W
  have F_o24_k := oth F_o24_k W (Or.inr (hw _ (mW 25 rfl))) (Or.inr (hw _ (mW 24 rfl))) (by decide)
  have Kp := Kp.wr W (Or.inl (by simp))
  have Od := Od.wr W g_o24
  have A_bFc := A_bFc.other W ne_bFc_o24
  refine s_return C X d3_57 rfl ?_ (FGH hG hS Rc C (own_EL hw))
  obtain ⟨bF, e_bF⟩ : ∃ z : Addr, z = bFc := ⟨_, rfl⟩
  obtain ⟨k_bF, e_k⟩ : ∃ z : ClassId, z = k_bFc := ⟨_, rfl⟩
  obtain ⟨kF, e_kF⟩ : ∃ z : Int32, z = i1 := ⟨_, rfl⟩
  obtain ⟨zF, e_zF⟩ : ∃ z : Int32, z = i8 := ⟨_, rfl⟩
  obtain ⟨zsF, e_zsF⟩ : ∃ z : List Int32, z = [(lo yF), (hi yF), (lo yF_8), (hi yF_8), (lo yF_13), (hi yF_13), (lo yF_18), (hi yF_18)] := ⟨_, rfl⟩
  rw [← e_bF] at F_o24_a
  have F_o24_k : Fld Z hh o24 cS "coder" "B" (.int kF) := by rw [e_kF]; exact F_o24_k
  have A_bF : Arv Z hh bF k_bF .byte zF (Y zsF) (.int i0) := by rw [e_bF, e_k, e_zF, e_zsF]; exact A_bFc
  have hvT : own_T [yF, yF_8, yF_13, yF_18] kF zF zsF := by rw [e_kF, e_zF, e_zsF]; exact own_tU4 hvU hvU_9 hvU_14 hvU_19
  exact hQ _ _ ⟨bF, kF, k_bF, zF, zsF, rfl, hvT, E_o24, F_o24_a, F_o24_k, Kp, Od, A_bF⟩
theorem rm_a18 (hw : Hw a0 Z) (cs : Int32) (yF : Int32) (yF_8 : Int32) (yF_13 : Int32) (yF_18 : Int32) (o24 : Addr) (o25 : Addr) (k_o25 : ClassId) (h0 : Heap) (n0 : Nat) (Z0 : n0 ≤ h0.size) (Od : Old Z n0 h0) (S_cs : Sta Z Z.heap cS cC "Z" (.int cs)) (S_ad : Sta Z Z.heap cU "$assertionsDisabled" "Z" (.int i1)) (S_hi : Sta Z Z.heap cU "HI_BYTE_SHIFT" "I" (.int i0)) (S_lo : Sta Z Z.heap cU "LO_BYTE_SHIFT" "I" (.int i8)) (E_o24 : Exa Z h0 o24 cS) (F_o24_a : Fld Z h0 o24 cS "value" "[B" .null) (F_o24_k : Fld Z h0 o24 cS "coder" "B" (.int i0)) (A_o25 : Arv Z h0 o25 k_o25 .char i4 [.int yF, .int yF_8, .int yF_13, .int yF_18] (.int i0)) (hv_cs : ¬ cs = i0) (hvU : own_U yF) (hvU_9 : own_U yF_8) (hvU_14 : own_U yF_13) (hvU_19 : own_U yF_18) (g_o24 : n0 ≤ o24) (ne_o24_o25 : o24 ≠ o25) :
  MetH l Z EL1 [o24] (⟨cS, "<init>", "([C)V"⟩ : MethodName) jdk_42_method_3_code 2 none (rM 5 2 12 74) [] #[.ref o24, .ref o25] h0 n0 (fun v h => ∃ (bF : Addr) (kF : Int32) (k_bF : ClassId) (zF : Int32) (zsF : List Int32), v = none ∧ own_T [yF, yF_8, yF_13, yF_18] kF zF zsF ∧ Keep h0 h [o24] ∧ Exa Z h o24 cS ∧ Fld Z h o24 cS "value" "[B" (.ref bF) ∧ Fld Z h o24 cS "coder" "B" (.int kF) ∧ Old Z n0 h ∧ Arv Z h bF k_bF .byte zF (Y zsF) (.int i0)) := by
 refine MetH.mkQ (tabs := tables_1) (a0 := a0) (ls0 := #[rv o24, rv o25]) (plainFor_of_name pn_java_lang_String) hw Z0 (fun m => by first | (simp [entryFrame, mkF, argsToLocals, Value.category]; done) | rfl) ?_
 intro p e s m below meth c T Q' G' vm k1 hQ hG C X hS Rc hso
 have Kp : Keep h0 h0 [o24] := Keep.refl _ _
 have H_o24 : Safe Z EL1 vm h0 o24 := hso _ (by simp)
 refine s_aloadN 1 C X d2_0 rfl rfl ?_
 refine s_aloadN 2 C X d2_1 rfl rfl ?_
 refine s_iconst 3 C X d2_2 kc_iconst_0 ?_
 refine s_aloadN 4 C X d2_3 rfl rfl ?_
 refine s_arraylength 5 C X d2_4 A_o25 ?_
 refine s_aconstNull 6 C X d2_5 ?_
 refine s_hcallC 9 [.ref o25, .int i0, .int i4, .null] [] 0 C X hS Rc.2 (own_EL hw) Rc.1.1 d2_6 rfl (mW 15 rfl) (mW 16 rfl) (mW 11 rfl) (mW 18 rfl) (rm_a17 l Z a0 hw cs yF yF_8 yF_13 yF_18 o24 o25 k_o25 _ n0 X.sz Od S_cs S_ad S_hi S_lo E_o24 F_o24_a F_o24_k A_o25 hv_cs hvU hvU_9 hvU_14 hvU_19 g_o24 ne_o24_o25) (lenOf pd___CIILjava_lang_Void__V rfl) rfl rfl rfl (soS ⟨E_o24.lt, H_o24⟩ so0) (fun T v hh vm k1 C X hS Nk Rn q => ?_)
 obtain ⟨bF, kF, k_bF, zF, zsF, rfl, hvT, E_o24, F_o24_a, F_o24_k, Kc, Od, A_bF⟩ := q
 have Rc := Rc.call Rn Nk
 have Kp := Kp.trans Kc (allS (Or.inl (by simp)) all0)
 refine rc (st' := []) rfl ?_
 refine s_return C X d2_9 rfl ?_ (FGH hG hS Rc C (own_EL hw))
 exact hQ _ _ ⟨bF, kF, k_bF, zF, zsF, rfl, hvT, Kp, E_o24, F_o24_a, F_o24_k, Od, A_bF⟩
theorem rm_a19 (hw : Hw a0 Z) (cs : Int32) (o24 : Addr) (kF : Int32) (zF : Int32) (xs : List Int32) (h0 : Heap) (n0 : Nat) (Z0 : n0 ≤ h0.size) (S_cs : Sta Z Z.heap cS cC "Z" (.int cs)) (F_o24_k : Fld Z h0 o24 cS "coder" "B" (.int kF)) (Od : Old Z n0 h0) (hv_cs : ¬ cs = i0) (hvS : own_T xs kF zF zsF) :
  Met l Z (⟨cS, "coder", "()B"⟩ : MethodName) jdk_42_method_152_code 1 (some .byte) (rM 0 0 0 0) [] #[.ref o24] h0 n0 (fun v h => v = some (.int kF) ∧ Old Z n0 h ∧ Keep h0 h []) := by
 refine Met.mkQ (tabs := tables_1) (a0 := a0) (ls0 := #[rv o24]) (plainFor_of_name pn_java_lang_String) hw Z0 (fun m => by first | (simp [entryFrame, mkF, argsToLocals, Value.category]; done) | rfl) ?_
 intro p e s m below meth c T Q' G' hQ hG C X
 have Kp : Keep h0 h0 [] := Keep.refl _ _
 refine s_getstatic 3 C X (host := "") d7_0 (Or.inl (mW 44 rfl)) Via.refl (S_cs.ext Od.2) (fun T X => ?_)
 refine s_if_eq 13 6 C X d7_3 (fun c => absurd c hv_cs) (fun c3_180 => ?_)
 refine s_aloadN 7 C X d7_6 rfl rfl ?_
 refine s_getfield 10 C X (host := "") d7_7 (Or.inl (mW 29 rfl)) Via.refl F_o24_k (fun T X => ?_)
 refine s_goto 14 C X d7_10 ?_
 refine s_nreturn C X d7_14 rfl (by simp) (own_nk hvS) ?_ (FG hG (by decide) (by decide))
 exact hQ _ _ ⟨rfl, Od, Kp⟩
theorem rm_a20 (hw : Hw a0 Z) (cs : Int32) (o24 : Addr) (bF : Addr) (kF : Int32) (k_bF : ClassId) (zF : Int32) (zsF : List Int32) (xs : List Int32) (h0 : Heap) (n0 : Nat) (Z0 : n0 ≤ h0.size) (S_cs : Sta Z Z.heap cS cC "Z" (.int cs)) (E_o24 : Exa Z h0 o24 cS) (F_o24_a : Fld Z h0 o24 cS "value" "[B" (.ref bF)) (F_o24_k : Fld Z h0 o24 cS "coder" "B" (.int kF)) (Od : Old Z n0 h0) (A_bF : Arv Z h0 bF k_bF .byte zF (Y zsF) (.int i0)) (hv_cs : ¬ cs = i0) (hvS : own_T xs kF zF zsF) :
  Met l Z (⟨cS, "length", "()I"⟩ : MethodName) jdk_42_method_54_code 1 (some .int) (rM 1 0 0 13) [] #[.ref o24] h0 n0 (fun v h => v = some (.int (zF >>> (kF &&& 31))) ∧ Keep h0 h [] ∧ Old Z n0 h) := by
 refine Met.mkQ (tabs := tables_1) (a0 := a0) (ls0 := #[rv o24]) (plainFor_of_name pn_java_lang_String) hw Z0 (fun m => by first | (simp [entryFrame, mkF, argsToLocals, Value.category]; done) | rfl) ?_
 intro p e s m below meth c T Q' G' hQ hG C X
 have Kp : Keep h0 h0 [] := Keep.refl _ _
 refine s_aloadN 1 C X d6_0 rfl rfl ?_
 refine s_getfield 4 C X (host := "") d6_1 (Or.inl (mW 28 rfl)) Via.refl F_o24_a (fun T X => ?_)
 refine s_arraylength 5 C X d6_4 A_bF ?_
 refine s_aloadN 6 C X d6_5 rfl rfl ?_
 refine s_callV 9 [] [.int zF] 1 C X d6_6 (mW 39 rfl) (mW 40 rfl) (nF C (mW 42 rfl)) (mW 42 rfl) (mW 41 rfl) (mW 11 rfl) (mW 43 rfl) E_o24 (rm_a19 l Z a0 hw cs o24 kF zF xs _ n0 X.sz S_cs F_o24_k Od hv_cs hvS) (lenOf pd___B rfl) rfl rfl rfl (fun T v hh X q => ?_)
 obtain ⟨rfl, Od, Kc⟩ := q
 have Kp := Kp.trans Kc all0
 refine rc (st' := [.int kF, .int zF]) rfl ?_
 refine s_ishr 10 C X d6_9 ?_
 refine s_ireturn C X d6_10 rfl ?_ (FG hG (by decide) (by decide))
 exact hQ _ _ ⟨rfl, Kp, Od⟩
theorem rm_a21 (hw : Hw a0 Z) (cs : Int32) (o24 : Addr) (kF : Int32) (h0 : Heap) (n0 : Nat) (Z0 : n0 ≤ h0.size) (S_cs : Sta Z Z.heap cS cC "Z" (.int cs)) (F_o24_k : Fld Z h0 o24 cS "coder" "B" (.int kF)) (Od : Old Z n0 h0) (hv_cs : ¬ cs = i0) :
  Met l Z (⟨cS, "isLatin1", "()Z"⟩ : MethodName) jdk_42_method_154_code 1 (some .boolean) (rM 0 0 0 0) [] #[.ref o24] h0 n0 (fun v h => (v = some (.int i1) ∧ (((kF).toInt = (0 : Int))) ∧ Old Z n0 h ∧ Keep h0 h []) ∨ (v = some (.int i0) ∧ ¬ (((kF).toInt = (0 : Int))) ∧ Old Z n0 h ∧ Keep h0 h [])) := by
 refine Met.mkQ (tabs := tables_1) (a0 := a0) (ls0 := #[rv o24]) (plainFor_of_name pn_java_lang_String) hw Z0 (fun m => by first | (simp [entryFrame, mkF, argsToLocals, Value.category]; done) | rfl) ?_
 intro p e s m below meth c T Q' G' hQ hG C X
 have Kp : Keep h0 h0 [] := Keep.refl _ _
 refine s_getstatic 3 C X (host := "") d16_0 (Or.inl (mW 44 rfl)) Via.refl (S_cs.ext Od.2) (fun T X => ?_)
 refine s_if_eq 17 6 C X d16_3 (fun c => absurd c hv_cs) (fun c3_185 => ?_)
 refine s_aloadN 7 C X d16_6 rfl rfl ?_
 refine s_getfield 10 C X (host := "") d16_7 (Or.inl (mW 29 rfl)) Via.refl F_o24_k (fun T X => ?_)
 refine s_if_ne 17 13 C X d16_10 (fun c10_186 => ?_) (fun c10_186 => ?_)
 ·have t_c10_186 : ¬ ((kF).toInt = (0 : Int)) := fun q => c10_186 (Int32.toInt_inj.mp q)
  refine s_iconst 18 C X d16_17 kc_iconst_0 ?_
  refine s_nreturn C X d16_18 rfl (by simp) rfl ?_ (FG hG (by decide) (by decide))
  exact hQ _ _ (Or.inr ⟨rfl, (by omega), Od, Kp⟩)
 have t_c10_186 : (kF).toInt = (0 : Int) := congrArg Int32.toInt c10_186
 refine s_iconst 14 C X d16_13 kc_iconst_1 ?_
 refine s_goto 18 C X d16_14 ?_
 refine s_nreturn C X d16_18 rfl (by simp) rfl ?_ (FG hG (by decide) (by decide))
 exact hQ _ _ (Or.inl ⟨rfl, t_c10_186, Od, Kp⟩)
theorem rm_a22 (hw : Hw a0 Z) (fm : Value) (zF : Int32) (xs : List Int32) (ix184 : Int32) (h0 : Heap) (n0 : Nat) (Z0 : n0 ≤ h0.size) (hv_fm : fm.isRef = true) (hvx_ix184 : own_ix xs ix184) (hvi : ix184 < zF) :
  Met l Z (⟨cP, "checkIndex", "(IILjava/util/function/BiFunction;)I"⟩ : MethodName) jdk_41_method_11_code 3 (some .int) (rM 0 0 0 0) [] #[.int ix184, .int zF, fm] h0 n0 (fun v h => v = some (.int ix184) ∧ Keep h0 h []) := by
 refine Met.mkQ (tabs := tables_1) (a0 := a0) (ls0 := #[iv ix184, iv zF, .val fm]) (plainFor_of_name pn_jdk_internal_util_Preconditions) hw Z0 (fun m => by first | (simp [entryFrame, mkF, argsToLocals, Value.category]; done) | rfl | (cases fm <;> first | (simp [entryFrame, mkF, argsToLocals, Value.category]; done) | (exact absurd hv_fm (by simp [Value.isRef])))) ?_
 intro p e s m below meth c T Q' G' hQ hG C X
 have Kp : Keep h0 h0 [] := Keep.refl _ _
 refine s_iloadN 1 C X d19_0 rfl ?_
 refine s_if_lt 9 4 C X d19_1 (fun c => absurd c (own_x0 hvx_ix184)) (fun c1_193 => ?_)
 refine s_iloadN 5 C X d19_4 rfl ?_
 refine s_iloadN 6 C X d19_5 rfl ?_
 refine s_icmp_lt 16 9 C X d19_6 (fun c6_194 => ?_) (fun c => absurd hvi c)
 refine s_iloadN 17 C X d19_16 rfl ?_
 refine s_ireturn C X d19_17 rfl ?_ (FG hG (by decide) (by decide))
 exact hQ _ _ ⟨rfl, Kp⟩
theorem rm_a23 (hw : Hw a0 Z) (fm : Value) (zF : Int32) (xs : List Int32) (ix184 : Int32) (h0 : Heap) (n0 : Nat) (Z0 : n0 ≤ h0.size) (S_fm : Sta Z Z.heap cP cM cF fm) (Od : Old Z n0 h0) (hv_fm : fm.isRef = true) (hvx_ix184 : own_ix xs ix184) (hvi : ix184 < zF) :
  Met l Z (⟨cS, "checkIndex", "(II)V"⟩ : MethodName) jdk_42_method_155_code 2 none (rM 1 0 0 14) [] #[.int ix184, .int zF] h0 n0 (fun v h => v = none ∧ Old Z n0 h ∧ Keep h0 h []) := by
 refine Met.mkQ (tabs := tables_1) (a0 := a0) (ls0 := #[iv ix184, iv zF]) (plainFor_of_name pn_java_lang_String) hw Z0 (fun m => by first | (simp [entryFrame, mkF, argsToLocals, Value.category]; done) | rfl) ?_
 intro p e s m below meth c T Q' G' hQ hG C X
 have Kp : Keep h0 h0 [] := Keep.refl _ _
 refine s_iloadN 1 C X d18_0 rfl ?_
 refine s_iloadN 2 C X d18_1 rfl ?_
 refine s_getstatic 5 C X (host := "") d18_2 (Or.inl (mW 54 rfl)) Via.refl (S_fm.ext Od.2) (fun T X => ?_)
 refine s_callS 8 [.int ix184, .int zF, fm] [] 0 C X d18_5 (mW 90 rfl) (mW 91 rfl) (mW 55 rfl) (mW 92 rfl) (rm_a22 l Z a0 hw fm zF xs ix184 _ n0 X.sz hv_fm hvx_ix184 hvi) (lenOf pd__IILjava_util_function_BiFunction__I rfl) rfl rfl rfl (fun T v hh X q => ?_)
 obtain ⟨rfl, Kc⟩ := q
 have Od := Od.keep Kc all0
 have Kp := Kp.trans Kc all0
 refine rc (st' := [.int ix184]) rfl ?_
 refine s_pop 9 C X d18_8 rfl ?_
 refine s_return C X d18_9 rfl ?_ (FG hG (by decide) (by decide))
 exact hQ _ _ ⟨rfl, Od, Kp⟩
theorem rm_a24 (hw : Hw a0 Z) (fm : Value) (bF : Addr) (kF : Int32) (k_bF : ClassId) (zF : Int32) (zsF : List Int32) (xs : List Int32) (ix184 : Int32) (h0 : Heap) (n0 : Nat) (Z0 : n0 ≤ h0.size) (S_fm : Sta Z Z.heap cP cM cF fm) (A_bF : Arv Z h0 bF k_bF .byte zF (Y zsF) (.int i0)) (Od : Old Z n0 h0) (hv_fm : fm.isRef = true) (hvS : own_T xs kF zF zsF) (hvx_ix184 : own_ix xs ix184) (hvk : kF = i0) :
  Met l Z (⟨cW, "charAt", "([BI)C"⟩ : MethodName) jdk_43_method_2_code 2 (some .char) (rM 2 0 0 27) [] #[.ref bF, .int ix184] h0 n0 (fun v h => v = some (.int (xs.getD (ix184).toNatClampNeg 0)) ∧ Keep h0 h [] ∧ Old Z n0 h) := by
 refine Met.mkQ (tabs := tables_1) (a0 := a0) (ls0 := #[rv bF, iv ix184]) (plainFor_of_name pn_java_lang_StringLatin1) hw Z0 (fun m => by first | (simp [entryFrame, mkF, argsToLocals, Value.category]; done) | rfl) ?_
 intro p e s m below meth c T Q' G' hQ hG C X
 have Kp : Keep h0 h0 [] := Keep.refl _ _
 have hvi : ix184 < zF := own_ltL hvS hvk hvx_ix184
 refine s_iloadN 1 C X d17_0 rfl ?_
 refine s_aloadN 2 C X d17_1 rfl rfl ?_
 refine s_arraylength 3 C X d17_2 A_bF ?_
 refine s_callS 6 [.int ix184, .int zF] [] 0 C X d17_3 (mW 87 rfl) (mW 88 rfl) (mW 11 rfl) (mW 89 rfl) (rm_a23 l Z a0 hw fm zF xs ix184 _ n0 X.sz S_fm Od hv_fm hvx_ix184 hvi) (lenOf pd__II_V rfl) rfl rfl rfl (fun T v hh X q => ?_)
 obtain ⟨rfl, Od, Kc⟩ := q
 have A_bF := A_bF.keep Kc nin0
 have Kp := Kp.trans Kc all0
 refine rc (st' := []) rfl ?_
 refine s_aloadN 7 C X d17_6 rfl rfl ?_
 refine s_iloadN 8 C X d17_7 rfl ?_
 refine s_baload 9 C X d17_8 A_bF ⟨own_x0 hvx_ix184, hvi⟩ (v := (.int (zsF.getD (ix184).toNatClampNeg 0))) (own_getX _ _) ?_
 refine s_sipush 12 C X d17_9 kc_sipush_255 ?_
 refine s_iand 13 C X d17_12 ?_
 refine rc (st' := [(.int (xs.getD (ix184).toNatClampNeg 0))]) (by rw [own_caL' hvS hvk hvx_ix184]) ?_
 refine s_i2c 14 C X d17_13 ?_
 refine rc (st' := [(.int (xs.getD (ix184).toNatClampNeg 0))]) (by rw [own_U2c (own_Ux hvS hvx_ix184)]) ?_
 refine s_nreturn C X d17_14 rfl (by simp) (own_nU (own_Ux hvS hvx_ix184)) ?_ (FG hG (by decide) (by decide))
 exact hQ _ _ ⟨rfl, Kp, Od⟩
theorem rm_a25 (hw : Hw a0 Z) (bF : Addr) (k_bF : ClassId) (zF : Int32) (zsF : List Int32) (h0 : Heap) (n0 : Nat) (Z0 : n0 ≤ h0.size) (A_bF : Arv Z h0 bF k_bF .byte zF (Y zsF) (.int i0)) :
  Met l Z (⟨cU, "length", "([B)I"⟩ : MethodName) jdk_52_method_6_code 1 (some .int) (rM 0 0 0 0) [] #[.ref bF] h0 n0 (fun v h => v = some (.int (zF >>> (i1 &&& 31))) ∧ Keep h0 h []) := by
 refine Met.mkQ (tabs := tables_1) (a0 := a0) (ls0 := #[rv bF]) (plainFor_of_name pn_java_lang_StringUTF16) hw Z0 (fun m => by first | (simp [entryFrame, mkF, argsToLocals, Value.category]; done) | rfl) ?_
 intro p e s m below meth c T Q' G' hQ hG C X
 have Kp : Keep h0 h0 [] := Keep.refl _ _
 refine s_aloadN 1 C X d34_0 rfl rfl ?_
 refine s_arraylength 2 C X d34_1 A_bF ?_
 refine s_iconst 3 C X d34_2 kc_iconst_1 ?_
 refine s_ishr 4 C X d34_3 ?_
 refine s_ireturn C X d34_4 rfl ?_ (FG hG (by decide) (by decide))
 exact hQ _ _ ⟨rfl, Kp⟩
theorem rm_a26 (hw : Hw a0 Z) (fm : Value) (zF : Int32) (xs : List Int32) (ix184 : Int32) (h0 : Heap) (n0 : Nat) (Z0 : n0 ≤ h0.size) (hv_fm : fm.isRef = true) (hvx_ix184 : own_ix xs ix184) (hvi : ix184 < (zF >>> (i1 &&& 31))) :
  Met l Z (⟨cP, "checkIndex", "(IILjava/util/function/BiFunction;)I"⟩ : MethodName) jdk_41_method_11_code 3 (some .int) (rM 0 0 0 0) [] #[.int ix184, (.int (zF >>> (i1 &&& 31))), fm] h0 n0 (fun v h => v = some (.int ix184) ∧ Keep h0 h []) := by
 refine Met.mkQ (tabs := tables_1) (a0 := a0) (ls0 := #[iv ix184, .val (.int (zF >>> (i1 &&& 31))), .val fm]) (plainFor_of_name pn_jdk_internal_util_Preconditions) hw Z0 (fun m => by first | (simp [entryFrame, mkF, argsToLocals, Value.category]; done) | rfl | (cases fm <;> first | (simp [entryFrame, mkF, argsToLocals, Value.category]; done) | (exact absurd hv_fm (by simp [Value.isRef])))) ?_
 intro p e s m below meth c T Q' G' hQ hG C X
 have Kp : Keep h0 h0 [] := Keep.refl _ _
 refine s_iloadN 1 C X d19_0 rfl ?_
 refine s_if_lt 9 4 C X d19_1 (fun c => absurd c (own_x0 hvx_ix184)) (fun c1_200 => ?_)
 refine s_iloadN 5 C X d19_4 rfl ?_
 refine s_iloadN 6 C X d19_5 rfl ?_
 refine s_icmp_lt 16 9 C X d19_6 (fun c6_201 => ?_) (fun c => absurd hvi c)
 refine s_iloadN 17 C X d19_16 rfl ?_
 refine s_ireturn C X d19_17 rfl ?_ (FG hG (by decide) (by decide))
 exact hQ _ _ ⟨rfl, Kp⟩
theorem rm_a27 (hw : Hw a0 Z) (fm : Value) (zF : Int32) (xs : List Int32) (ix184 : Int32) (h0 : Heap) (n0 : Nat) (Z0 : n0 ≤ h0.size) (S_fm : Sta Z Z.heap cP cM cF fm) (Od : Old Z n0 h0) (hv_fm : fm.isRef = true) (hvx_ix184 : own_ix xs ix184) (hvi : ix184 < (zF >>> (i1 &&& 31))) :
  Met l Z (⟨cS, "checkIndex", "(II)V"⟩ : MethodName) jdk_42_method_155_code 2 none (rM 1 0 0 14) [] #[.int ix184, (.int (zF >>> (i1 &&& 31)))] h0 n0 (fun v h => v = none ∧ Old Z n0 h ∧ Keep h0 h []) := by
 refine Met.mkQ (tabs := tables_1) (a0 := a0) (ls0 := #[iv ix184, .val (.int (zF >>> (i1 &&& 31)))]) (plainFor_of_name pn_java_lang_String) hw Z0 (fun m => by first | (simp [entryFrame, mkF, argsToLocals, Value.category]; done) | rfl) ?_
 intro p e s m below meth c T Q' G' hQ hG C X
 have Kp : Keep h0 h0 [] := Keep.refl _ _
 refine s_iloadN 1 C X d18_0 rfl ?_
 refine s_iloadN 2 C X d18_1 rfl ?_
 refine s_getstatic 5 C X (host := "") d18_2 (Or.inl (mW 54 rfl)) Via.refl (S_fm.ext Od.2) (fun T X => ?_)
 refine s_callS 8 [.int ix184, (.int (zF >>> (i1 &&& 31))), fm] [] 0 C X d18_5 (mW 90 rfl) (mW 91 rfl) (mW 55 rfl) (mW 92 rfl) (rm_a26 l Z a0 hw fm zF xs ix184 _ n0 X.sz hv_fm hvx_ix184 hvi) (lenOf pd__IILjava_util_function_BiFunction__I rfl) rfl rfl rfl (fun T v hh X q => ?_)
 obtain ⟨rfl, Kc⟩ := q
 have Od := Od.keep Kc all0
 have Kp := Kp.trans Kc all0
 refine rc (st' := [.int ix184]) rfl ?_
 refine s_pop 9 C X d18_8 rfl ?_
 refine s_return C X d18_9 rfl ?_ (FG hG (by decide) (by decide))
 exact hQ _ _ ⟨rfl, Od, Kp⟩
theorem rm_a28 (hw : Hw a0 Z) (fm : Value) (bF : Addr) (k_bF : ClassId) (zF : Int32) (zsF : List Int32) (xs : List Int32) (ix184 : Int32) (h0 : Heap) (n0 : Nat) (Z0 : n0 ≤ h0.size) (S_fm : Sta Z Z.heap cP cM cF fm) (A_bF : Arv Z h0 bF k_bF .byte zF (Y zsF) (.int i0)) (Od : Old Z n0 h0) (hv_fm : fm.isRef = true) (hvx_ix184 : own_ix xs ix184) (hvi : ix184 < (zF >>> (i1 &&& 31))) :
  Met l Z (⟨cU, "checkIndex", "(I[B)V"⟩ : MethodName) jdk_52_method_91_code 2 none (rM 2 0 0 27) [] #[.int ix184, .ref bF] h0 n0 (fun v h => v = none ∧ Keep h0 h [] ∧ Old Z n0 h) := by
 refine Met.mkQ (tabs := tables_1) (a0 := a0) (ls0 := #[iv ix184, rv bF]) (plainFor_of_name pn_java_lang_StringUTF16) hw Z0 (fun m => by first | (simp [entryFrame, mkF, argsToLocals, Value.category]; done) | rfl) ?_
 intro p e s m below meth c T Q' G' hQ hG C X
 have Kp : Keep h0 h0 [] := Keep.refl _ _
 refine s_iloadN 1 C X d33_0 rfl ?_
 refine s_aloadN 2 C X d33_1 rfl rfl ?_
 refine s_callS 5 [.ref bF] [.int ix184] 1 C X d33_2 (mW 147 rfl) (mW 148 rfl) (mW 62 rfl) (mW 149 rfl) (rm_a25 l Z a0 hw bF k_bF zF zsF _ n0 X.sz A_bF) (lenOf pd___B_I rfl) rfl rfl rfl (fun T v hh X q => ?_)
 obtain ⟨rfl, Kc⟩ := q
 have Od := Od.keep Kc all0
 have Kp := Kp.trans Kc all0
 refine rc (st' := [(.int (zF >>> (i1 &&& 31))), .int ix184]) rfl ?_
 refine s_callS 8 [.int ix184, (.int (zF >>> (i1 &&& 31)))] [] 0 C X d33_5 (mW 150 rfl) (mW 88 rfl) (mW 11 rfl) (mW 89 rfl) (rm_a27 l Z a0 hw fm zF xs ix184 _ n0 X.sz S_fm Od hv_fm hvx_ix184 hvi) (lenOf pd__II_V rfl) rfl rfl rfl (fun T v hh X q => ?_)
 obtain ⟨rfl, Od, Kc⟩ := q
 have Kp := Kp.trans Kc all0
 refine rc (st' := []) rfl ?_
 refine s_return C X d33_8 rfl ?_ (FG hG (by decide) (by decide))
 exact hQ _ _ ⟨rfl, Kp, Od⟩
theorem rm_a29 (hw : Hw a0 Z) (bF : Addr) (kF : Int32) (k_bF : ClassId) (zF : Int32) (zsF : List Int32) (xs : List Int32) (ix184 : Int32) (h0 : Heap) (n0 : Nat) (Z0 : n0 ≤ h0.size) (S_ad : Sta Z Z.heap cU "$assertionsDisabled" "Z" (.int i1)) (S_hi : Sta Z Z.heap cU "HI_BYTE_SHIFT" "I" (.int i0)) (S_lo : Sta Z Z.heap cU "LO_BYTE_SHIFT" "I" (.int i8)) (A_bF : Arv Z h0 bF k_bF .byte zF (Y zsF) (.int i0)) (Od : Old Z n0 h0) (hvS : own_T xs kF zF zsF) (hvx_ix184 : own_ix xs ix184) (hvk : ¬ kF = i0) :
  Met l Z (⟨cU, "getChar", "([BI)C"⟩ : MethodName) jdk_52_method_5_code 2 (some .char) (rM 0 0 0 0) [] #[.ref bF, .int ix184] h0 n0 (fun v h => v = some (.int (xs.getD (ix184).toNatClampNeg 0)) ∧ Old Z n0 h ∧ Keep h0 h []) := by
 refine Met.mkQ (tabs := tables_1) (a0 := a0) (ls0 := #[rv bF, iv ix184]) (plainFor_of_name pn_java_lang_StringUTF16) hw Z0 (fun m => by first | (simp [entryFrame, mkF, argsToLocals, Value.category]; done) | rfl) ?_
 intro p e s m below meth c T Q' G' hQ hG C X
 have Kp : Keep h0 h0 [] := Keep.refl _ _
 refine s_getstatic 3 C X (host := "") d31_0 (Or.inl (mW 135 rfl)) Via.refl (S_ad.ext Od.2) (fun T X => ?_)
 refine s_if_ne 28 6 C X d31_3 (fun _ => ?_) (fun c => absurd c (by decide))
 refine s_iloadN 29 C X d31_28 rfl ?_
 refine s_iconst 30 C X d31_29 kc_iconst_1 ?_
 refine s_ishl 31 C X d31_30 ?_
 obtain ⟨jx206, e_jx206⟩ : ∃ zz_ : Int32, zz_ = (ix184 <<< (i1 &&& 31)) := ⟨_, rfl⟩
 refine rc (st' := [.int jx206]) (by subst e_jx206; rfl) ?_
 have hvj : own_j ix184 jx206 := by rw [e_jx206]; exact own_jx hvS hvx_ix184
 refine s_istoreN 32 C X (l' := #[rv bF, iv jx206]) d31_31 rfl ?_
 refine s_aloadN 33 C X d31_32 rfl rfl ?_
 refine s_iloadN 34 C X d31_33 rfl ?_
 refine s_iinc 37 C X (l' := #[rv bF, .val (.int (jx206 + i1))]) d31_34 kc_iconst_1 rfl rfl ?_
 refine s_baload 38 C X d31_37 A_bF (own_jb hvS hvk hvx_ix184 hvj).1 (v := (.int (zsF.getD (jx206).toNatClampNeg 0))) (own_getX _ _) ?_
 refine s_sipush 41 C X d31_38 kc_sipush_255 ?_
 refine s_iand 42 C X d31_41 ?_
 refine s_getstatic 45 C X (host := "") d31_42 (Or.inl (mW 136 rfl)) Via.refl (S_hi.ext Od.2) (fun T X => ?_)
 refine s_ishl 46 C X d31_45 ?_
 refine s_aloadN 47 C X d31_46 rfl rfl ?_
 refine s_iloadN 48 C X d31_47 rfl ?_
 refine s_baload 49 C X d31_48 A_bF (own_jb hvS hvk hvx_ix184 hvj).2 (v := (.int (zsF.getD ((jx206 + i1)).toNatClampNeg 0))) (own_getX _ _) ?_
 refine s_sipush 52 C X d31_49 kc_sipush_255 ?_
 refine s_iand 53 C X d31_52 ?_
 refine s_getstatic 56 C X (host := "") d31_53 (Or.inl (mW 137 rfl)) Via.refl (S_lo.ext Od.2) (fun T X => ?_)
 refine s_ishl 57 C X d31_56 ?_
 refine s_ior 58 C X d31_57 ?_
 refine s_i2c 59 C X d31_58 ?_
 refine rc (st' := [(.int (xs.getD (ix184).toNatClampNeg 0))]) (by rw [show (((((zsF.getD (jx206).toNatClampNeg 0) &&& i255) <<< (i0 &&& 31)) ||| (((zsF.getD ((jx206 + i1)).toNatClampNeg 0) &&& i255) <<< (i8 &&& 31)))).toUInt32.toUInt16.toUInt32.toInt32 = (xs.getD (ix184).toNatClampNeg 0) from own_caU' hvS hvk hvx_ix184 hvj]) ?_
 refine s_nreturn C X d31_59 rfl (by simp) (own_nU (own_Ux hvS hvx_ix184)) ?_ (FG hG (by decide) (by decide))
 exact hQ _ _ ⟨rfl, Od, Kp⟩
theorem rm_a30 (hw : Hw a0 Z) (fm : Value) (bF : Addr) (kF : Int32) (k_bF : ClassId) (zF : Int32) (zsF : List Int32) (xs : List Int32) (ix184 : Int32) (h0 : Heap) (n0 : Nat) (Z0 : n0 ≤ h0.size) (S_fm : Sta Z Z.heap cP cM cF fm) (S_ad : Sta Z Z.heap cU "$assertionsDisabled" "Z" (.int i1)) (S_hi : Sta Z Z.heap cU "HI_BYTE_SHIFT" "I" (.int i0)) (S_lo : Sta Z Z.heap cU "LO_BYTE_SHIFT" "I" (.int i8)) (A_bF : Arv Z h0 bF k_bF .byte zF (Y zsF) (.int i0)) (Od : Old Z n0 h0) (hv_fm : fm.isRef = true) (hvS : own_T xs kF zF zsF) (hvx_ix184 : own_ix xs ix184) (hvk : ¬ kF = i0) :
  Met l Z (⟨cU, "charAt", "([BI)C"⟩ : MethodName) jdk_52_method_83_code 2 (some .char) (rM 3 0 0 40) [] #[.ref bF, .int ix184] h0 n0 (fun v h => v = some (.int (xs.getD (ix184).toNatClampNeg 0)) ∧ Keep h0 h [] ∧ Old Z n0 h) := by
 refine Met.mkQ (tabs := tables_1) (a0 := a0) (ls0 := #[rv bF, iv ix184]) (plainFor_of_name pn_java_lang_StringUTF16) hw Z0 (fun m => by first | (simp [entryFrame, mkF, argsToLocals, Value.category]; done) | rfl) ?_
 intro p e s m below meth c T Q' G' hQ hG C X
 have Kp : Keep h0 h0 [] := Keep.refl _ _
 have hvi : ix184 < (zF >>> (i1 &&& 31)) := own_ltU hvS hvk hvx_ix184
 refine s_iloadN 1 C X d32_0 rfl ?_
 refine s_aloadN 2 C X d32_1 rfl rfl ?_
 refine s_callS 5 [.int ix184, .ref bF] [] 0 C X d32_2 (mW 144 rfl) (mW 145 rfl) (mW 62 rfl) (mW 146 rfl) (rm_a28 l Z a0 hw fm bF k_bF zF zsF xs ix184 _ n0 X.sz S_fm A_bF Od hv_fm hvx_ix184 hvi) (lenOf pd__I_B_V rfl) rfl rfl rfl (fun T v hh X q => ?_)
 obtain ⟨rfl, Kc, Od⟩ := q
 have A_bF := A_bF.keep Kc nin0
 have Kp := Kp.trans Kc all0
 refine rc (st' := []) rfl ?_
 refine s_aloadN 6 C X d32_5 rfl rfl ?_
 refine s_iloadN 7 C X d32_6 rfl ?_
 refine s_callS 10 [.ref bF, .int ix184] [] 0 C X d32_7 (mW 138 rfl) (mW 139 rfl) (mW 62 rfl) (mW 140 rfl) (rm_a29 l Z a0 hw bF kF k_bF zF zsF xs ix184 _ n0 X.sz S_ad S_hi S_lo A_bF Od hvS hvx_ix184 hvk) (lenOf pd___BI_C rfl) rfl rfl rfl (fun T v hh X q => ?_)
 obtain ⟨rfl, Od, Kc⟩ := q
 have Kp := Kp.trans Kc all0
 refine rc (st' := [(.int (xs.getD (ix184).toNatClampNeg 0))]) rfl ?_
 refine s_nreturn C X d32_10 rfl (by simp) (own_nU (own_Ux hvS hvx_ix184)) ?_ (FG hG (by decide) (by decide))
 exact hQ _ _ ⟨rfl, Kp, Od⟩
theorem rm_a31 (hw : Hw a0 Z) (cs : Int32) (fm : Value) (o24 : Addr) (bF : Addr) (kF : Int32) (k_bF : ClassId) (zF : Int32) (zsF : List Int32) (xs : List Int32) (ix184 : Int32) (h0 : Heap) (n0 : Nat) (Z0 : n0 ≤ h0.size) (S_cs : Sta Z Z.heap cS cC "Z" (.int cs)) (S_fm : Sta Z Z.heap cP cM cF fm) (S_ad : Sta Z Z.heap cU "$assertionsDisabled" "Z" (.int i1)) (S_hi : Sta Z Z.heap cU "HI_BYTE_SHIFT" "I" (.int i0)) (S_lo : Sta Z Z.heap cU "LO_BYTE_SHIFT" "I" (.int i8)) (E_o24 : Exa Z h0 o24 cS) (F_o24_a : Fld Z h0 o24 cS "value" "[B" (.ref bF)) (F_o24_k : Fld Z h0 o24 cS "coder" "B" (.int kF)) (A_bF : Arv Z h0 bF k_bF .byte zF (Y zsF) (.int i0)) (Od : Old Z n0 h0) (hv_cs : ¬ cs = i0) (hv_fm : fm.isRef = true) (hvS : own_T xs kF zF zsF) (hvx_ix184 : own_ix xs ix184) :
  Met l Z (⟨cS, "charAt", "(I)C"⟩ : MethodName) jdk_42_method_56_code 2 (some .char) (rM 4 0 0 53) [] #[.ref o24, .int ix184] h0 n0 (fun v h => v = some (.int (xs.getD (ix184).toNatClampNeg 0)) ∧ Keep h0 h [] ∧ Old Z n0 h) := by
 refine Met.mkQ (tabs := tables_1) (a0 := a0) (ls0 := #[rv o24, iv ix184]) (plainFor_of_name pn_java_lang_String) hw Z0 (fun m => by first | (simp [entryFrame, mkF, argsToLocals, Value.category]; done) | rfl) ?_
 intro p e s m below meth c T Q' G' hQ hG C X
 have Kp : Keep h0 h0 [] := Keep.refl _ _
 refine s_aloadN 1 C X d15_0 rfl rfl ?_
 refine s_callV 4 [] [] 0 C X d15_1 (mW 78 rfl) (mW 79 rfl) (nF C (mW 81 rfl)) (mW 81 rfl) (mW 80 rfl) (mW 11 rfl) (mW 82 rfl) E_o24 (rm_a21 l Z a0 hw cs o24 kF _ n0 X.sz S_cs F_o24_k Od hv_cs) (lenOf pd___Z rfl) rfl rfl rfl (fun T v hh X q => ?_)
 obtain ⟨rfl, q190, Od, Kc⟩ | ⟨rfl, q191, Od, Kc⟩ := q
 ·have E_o24 := E_o24.keep Kc
  have F_o24_a := F_o24_a.keep Kc nin0
  have A_bF := A_bF.keep Kc nin0
  have Kp := Kp.trans Kc all0
  refine rc (st' := [.int i1]) rfl ?_
  refine s_if_eq 16 7 C X d15_4 (fun c => absurd c (by decide)) (fun _ => ?_)
  have hvk : kF = i0 := own_k0 q190
  refine s_aloadN 8 C X d15_7 rfl rfl ?_
  refine s_getfield 11 C X (host := "") d15_8 (Or.inl (mW 28 rfl)) Via.refl F_o24_a (fun T X => ?_)
  refine s_iloadN 12 C X d15_11 rfl ?_
  refine s_callS 15 [.ref bF, .int ix184] [] 0 C X d15_12 (mW 83 rfl) (mW 84 rfl) (mW 85 rfl) (mW 86 rfl) (rm_a24 l Z a0 hw fm bF kF k_bF zF zsF xs ix184 _ n0 X.sz S_fm A_bF Od hv_fm hvS hvx_ix184 hvk) (lenOf pd___BI_C rfl) rfl rfl rfl (fun T v hh X q => ?_)
  obtain ⟨rfl, Kc, Od⟩ := q
  have Kp := Kp.trans Kc all0
  refine rc (st' := [(.int (xs.getD (ix184).toNatClampNeg 0))]) rfl ?_
  refine s_nreturn C X d15_15 rfl (by simp) (own_nU (own_Ux hvS hvx_ix184)) ?_ (FG hG (by decide) (by decide))
  exact hQ _ _ ⟨rfl, Kp, Od⟩
 ·have E_o24 := E_o24.keep Kc
  have F_o24_a := F_o24_a.keep Kc nin0
  have A_bF := A_bF.keep Kc nin0
  have Kp := Kp.trans Kc all0
  refine rc (st' := [.int i0]) rfl ?_
  refine s_if_eq 16 7 C X d15_4 (fun _ => ?_) (fun c => absurd (by decide : i0 = i0) c)
  have hvk : ¬ kF = i0 := own_kn q191
  refine s_aloadN 17 C X d15_16 rfl rfl ?_
  refine s_getfield 20 C X (host := "") d15_17 (Or.inl (mW 28 rfl)) Via.refl F_o24_a (fun T X => ?_)
  refine s_iloadN 21 C X d15_20 rfl ?_
  refine s_callS 24 [.ref bF, .int ix184] [] 0 C X d15_21 (mW 141 rfl) (mW 142 rfl) (mW 62 rfl) (mW 143 rfl) (rm_a30 l Z a0 hw fm bF kF k_bF zF zsF xs ix184 _ n0 X.sz S_fm S_ad S_hi S_lo A_bF Od hv_fm hvS hvx_ix184 hvk) (lenOf pd___BI_C rfl) rfl rfl rfl (fun T v hh X q => ?_)
  obtain ⟨rfl, Kc, Od⟩ := q
  have Kp := Kp.trans Kc all0
  refine rc (st' := [(.int (xs.getD (ix184).toNatClampNeg 0))]) rfl ?_
  refine s_nreturn C X d15_24 rfl (by simp) (own_nU (own_Ux hvS hvx_ix184)) ?_ (FG hG (by decide) (by decide))
  exact hQ _ _ ⟨rfl, Kp, Od⟩
theorem rm_a32 (hw : Hw a0 Z) (fm : Value) (xs : List Int32) (ev316 : Int32) (sv317 : Int32) (ln321 : Int32) (h0 : Heap) (n0 : Nat) (Z0 : n0 ≤ h0.size) (hv_fm : fm.isRef = true) (hvse : own_se xs sv317 ev316) (hvln : ln321.toInt = xs.length) :
  Met l Z (⟨cP, "checkFromToIndex", "(IIILjava/util/function/BiFunction;)I"⟩ : MethodName) jdk_41_method_12_code 4 (some .int) (rM 0 0 0 0) [] #[.int sv317, .int ev316, .int ln321, fm] h0 n0 (fun v h => v = some (.int sv317) ∧ Keep h0 h []) := by
 refine Met.mkQ (tabs := tables_1) (a0 := a0) (ls0 := #[iv sv317, iv ev316, iv ln321, .val fm]) (plainFor_of_name pn_jdk_internal_util_Preconditions) hw Z0 (fun m => by first | (simp [entryFrame, mkF, argsToLocals, Value.category]; done) | rfl | (cases fm <;> first | (simp [entryFrame, mkF, argsToLocals, Value.category]; done) | (exact absurd hv_fm (by simp [Value.isRef])))) ?_
 intro p e s m below meth c T Q' G' hQ hG C X
 have Kp : Keep h0 h0 [] := Keep.refl _ _
 refine s_iloadN 1 C X d10_0 rfl ?_
 refine s_if_lt 14 4 C X d10_1 (fun c => absurd c (own_s0 hvse)) (fun c1_322 => ?_)
 refine s_iloadN 5 C X d10_4 rfl ?_
 refine s_iloadN 6 C X d10_5 rfl ?_
 refine s_icmp_gt 14 9 C X d10_6 (fun c => absurd c (own_s1 hvse)) (fun c6_323 => ?_)
 refine s_iloadN 10 C X d10_9 rfl ?_
 refine s_iloadN 11 C X d10_10 rfl ?_
 refine s_icmp_le 22 14 C X d10_11 (fun c11_324 => ?_) (fun c => absurd c (own_s2 hvse hvln))
 refine s_iloadN 23 C X d10_22 rfl ?_
 refine s_ireturn C X d10_23 rfl ?_ (FG hG (by decide) (by decide))
 exact hQ _ _ ⟨rfl, Kp⟩
theorem rm_a33 (hw : Hw a0 Z) (fm : Value) (xs : List Int32) (ev316 : Int32) (sv317 : Int32) (ln321 : Int32) (h0 : Heap) (n0 : Nat) (Z0 : n0 ≤ h0.size) (S_fm : Sta Z Z.heap cP cM cF fm) (Od : Old Z n0 h0) (hv_fm : fm.isRef = true) (hvse : own_se xs sv317 ev316) (hvln : ln321.toInt = xs.length) :
  Met l Z (⟨cS, "checkBoundsBeginEnd", "(III)V"⟩ : MethodName) jdk_42_method_158_code 3 none (rM 1 0 0 15) [] #[.int sv317, .int ev316, .int ln321] h0 n0 (fun v h => v = none ∧ Old Z n0 h ∧ Keep h0 h []) := by
 refine Met.mkQ (tabs := tables_1) (a0 := a0) (ls0 := #[iv sv317, iv ev316, iv ln321]) (plainFor_of_name pn_java_lang_String) hw Z0 (fun m => by first | (simp [entryFrame, mkF, argsToLocals, Value.category]; done) | rfl) ?_
 intro p e s m below meth c T Q' G' hQ hG C X
 have Kp : Keep h0 h0 [] := Keep.refl _ _
 refine s_iloadN 1 C X d9_0 rfl ?_
 refine s_iloadN 2 C X d9_1 rfl ?_
 refine s_iloadN 3 C X d9_2 rfl ?_
 refine s_getstatic 6 C X (host := "") d9_3 (Or.inl (mW 54 rfl)) Via.refl (S_fm.ext Od.2) (fun T X => ?_)
 refine s_callS 9 [.int sv317, .int ev316, .int ln321, fm] [] 0 C X d9_6 (mW 56 rfl) (mW 57 rfl) (mW 55 rfl) (mW 58 rfl) (rm_a32 l Z a0 hw fm xs ev316 sv317 ln321 _ n0 X.sz hv_fm hvse hvln) (lenOf pd__IIILjava_util_function_BiFunction__I rfl) rfl rfl rfl (fun T v hh X q => ?_)
 obtain ⟨rfl, Kc⟩ := q
 have Od := Od.keep Kc all0
 have Kp := Kp.trans Kc all0
 refine rc (st' := [.int sv317]) rfl ?_
 refine s_pop 10 C X d9_9 rfl ?_
 refine s_return C X d9_10 rfl ?_ (FG hG (by decide) (by decide))
 exact hQ _ _ ⟨rfl, Od, Kp⟩
theorem rm_a34 (hw : Hw a0 Z) (zF : Int32) (sv317 : Int32) (tv339 : Int32) (h0 : Heap) (n0 : Nat) (Z0 : n0 ≤ h0.size) (hvcr : own_cr zF sv317 tv339) :
  Met l Z (⟨"java/util/Arrays", "checkLength", "(II)V"⟩ : MethodName) jdk_65_method_131_code 2 none (rM 0 0 0 0) [] #[.int sv317, .int tv339] h0 n0 (fun v h => v = none ∧ Keep h0 h []) := by
 refine Met.mkQ (tabs := tables_1) (a0 := a0) (ls0 := #[iv sv317, iv tv339]) (plainFor_of_name pn_java_util_Arrays) hw Z0 (fun m => by first | (simp [entryFrame, mkF, argsToLocals, Value.category]; done) | rfl) ?_
 intro p e s m below meth c T Q' G' hQ hG C X
 have Kp : Keep h0 h0 [] := Keep.refl _ _
 refine s_iloadN 1 C X d24_0 rfl ?_
 refine s_iloadN 2 C X d24_1 rfl ?_
 refine s_icmp_ge 37 5 C X d24_2 (fun c2_344 => ?_) (fun c => absurd c (own_crg hvcr))
 refine s_return C X d24_37 rfl ?_ (FG hG (by decide) (by decide))
 exact hQ _ _ ⟨rfl, Kp⟩
theorem rm_a35 (hw : Hw a0 Z) (zF : Int32) (sv317 : Int32) (dv346 : Int32) (h0 : Heap) (n0 : Nat) (Z0 : n0 ≤ h0.size)  :
  Met l Z (⟨"java/lang/Math", "min", "(II)I"⟩ : MethodName) jdk_29_method_69_code 2 (some .int) (rM 0 0 0 0) [] #[(.int (zF - sv317)), .int dv346] h0 n0 (fun v h => (v = some (.int dv346) ∧ dv346 < (zF - sv317) ∧ Keep h0 h []) ∨ (v = some (.int (zF - sv317)) ∧ ¬ dv346 < (zF - sv317) ∧ Keep h0 h [])) := by
 refine Met.mkQ (tabs := tables_1) (a0 := a0) (ls0 := #[.val (.int (zF - sv317)), iv dv346]) (Jvm.Free.JP.mathPlain rfl (by decide +kernel)) hw Z0 (fun m => by first | (simp [entryFrame, mkF, argsToLocals, Value.category]; done) | rfl) ?_
 intro p e s m below meth c T Q' G' hQ hG C X
 have Kp : Keep h0 h0 [] := Keep.refl _ _
 refine s_iloadN 1 C X d25_0 rfl ?_
 refine s_iloadN 2 C X d25_1 rfl ?_
 refine s_icmp_gt 9 5 C X d25_2 (fun c2_348 => ?_) (fun c2_348 => ?_)
 ·have t_c2_348 : (dv346).toInt < ((zF - sv317)).toInt := Int32.lt_iff_toInt_lt.mp c2_348
  refine s_iloadN 10 C X d25_9 rfl ?_
  refine s_ireturn C X d25_10 rfl ?_ (FG hG (by decide) (by decide))
  exact hQ _ _ (Or.inl ⟨rfl, c2_348, Kp⟩)
 refine s_iloadN 6 C X d25_5 rfl ?_
 refine s_goto 10 C X d25_6 ?_
 refine s_ireturn C X d25_10 rfl ?_ (FG hG (by decide) (by decide))
 exact hQ _ _ (Or.inr ⟨rfl, c2_348, Kp⟩)
theorem rm_a36 (hw : Hw a0 Z) (bF : Addr) (k_bF : ClassId) (zF : Int32) (zsF : List Int32) (sv317 : Int32) (tv339 : Int32) (h0 : Heap) (n0 : Nat) (Z0 : n0 ≤ h0.size) (A_bF : Arv Z h0 bF k_bF .byte zF (Y zsF) (.int i0)) (hvcr : own_cr zF sv317 tv339) :
  Met l Z (⟨"java/util/Arrays", "copyOfRangeByte", "([BII)[B"⟩ : MethodName) jdk_65_method_133_code 5 (some (.array .byte)) (rM 1 1 8 40) [] #[.ref bF, .int sv317, .int tv339] h0 n0 (fun v h => ∃ (dv346 : Int32) (k_o347 : ClassId) (o347 : Addr) (wsF : List Int32), v = some (.ref o347) ∧ own_d zF sv317 tv339 dv346 ∧ own_w zsF sv317 dv346 wsF ∧ Keep h0 h [] ∧ Arv Z h o347 k_o347 .byte dv346 (Y wsF) (.int i0) ∧ h0.size ≤ o347 ∧ n0 ≤ o347) := by
 refine Met.mkQ (tabs := tables_1) (a0 := a0) (ls0 := #[rv bF, iv sv317, iv tv339, un, un]) (plainFor_of_name pn_java_util_Arrays) hw Z0 (fun m => by first | (simp [entryFrame, mkF, argsToLocals, Value.category]; done) | rfl) ?_
 intro p e s m below meth c T Q' G' hQ hG C X
 have Kp : Keep h0 h0 [] := Keep.refl _ _
 refine s_iloadN 1 C X d23_0 rfl ?_
 refine s_iloadN 2 C X d23_1 rfl ?_
 refine s_callS 5 [.int sv317, .int tv339] [] 0 C X d23_2 (mW 107 rfl) (mW 108 rfl) (mW 102 rfl) (mW 109 rfl) (rm_a34 l Z a0 hw zF sv317 tv339 _ n0 X.sz hvcr) (lenOf pd__II_V rfl) rfl rfl rfl (fun T v hh X q => ?_)
 obtain ⟨rfl, Kc⟩ := q
 have A_bF := A_bF.keep Kc nin0
 have Kp := Kp.trans Kc all0
 refine rc (st' := []) rfl ?_
 refine s_iloadN 6 C X d23_5 rfl ?_
 refine s_iloadN 7 C X d23_6 rfl ?_
 refine s_isub 8 C X d23_7 ?_
 obtain ⟨dv346, e_dv346⟩ : ∃ zz_ : Int32, zz_ = (tv339 - sv317) := ⟨_, rfl⟩
 refine rc (st' := [.int dv346]) (by subst e_dv346; rfl) ?_
 have hvd : own_d zF sv317 tv339 dv346 := ⟨hvcr, by rw [e_dv346]; exact (own_crd hvcr).1⟩
 refine s_istoreN 9 C X (l' := #[rv bF, iv sv317, iv tv339, iv dv346, un]) d23_8 rfl ?_
 refine s_iloadN 10 C X d23_9 rfl ?_
 refine s_newarray 12 8 C X d23_10 (mW 23 rfl) (own_dc hvd).1 (own_dc hvd).2 (fun T hh o347 k_o347 hb_o347 X E A_o347 g_o347 => ?_)
 have sz_o347 : h0.size ≤ o347 := Nat.le_trans Kp.1 (Nat.le_of_eq hb_o347)
 have A_bF := A_bF.ext E
 have Kp := Kp.ext E
 have A_o347 : Arv Z _ o347 k_o347 .byte dv346 [.int i0, .int i0, .int i0, .int i0, .int i0, .int i0, .int i0, .int i0] (.int i0) := A_o347.pad (pad_rep [] _ 8)
 refine s_astore 14 C X (l' := #[rv bF, iv sv317, iv tv339, iv dv346, rv o347]) d23_12 rfl rfl ?_
 refine s_aloadN 15 C X d23_14 rfl rfl ?_
 refine s_iloadN 16 C X d23_15 rfl ?_
 refine s_aload 18 C X d23_16 rfl rfl ?_
 refine s_iconst 19 C X d23_18 kc_iconst_0 ?_
 refine s_aloadN 20 C X d23_19 rfl rfl ?_
 refine s_arraylength 21 C X d23_20 A_bF ?_
 refine s_iloadN 22 C X d23_21 rfl ?_
 refine s_isub 23 C X d23_22 ?_
 refine s_iloadN 24 C X d23_23 rfl ?_
 refine s_callS 27 [(.int (zF - sv317)), .int dv346] [.int i0, .ref o347, .int sv317, .ref bF] 4 C X d23_24 (mW 110 rfl) (mW 111 rfl) (mW 112 rfl) (mW 113 rfl) (rm_a35 l Z a0 hw zF sv317 dv346 _ n0 X.sz ) (lenOf pd__II_I rfl) rfl rfl rfl (fun T v hh X q => ?_)
 obtain ⟨rfl, c2_348, Kc⟩ | ⟨rfl, c2_348, Kc⟩ := q
 ·have A_bF := A_bF.keep Kc nin0
  have Kp := Kp.trans Kc all0
  have A_o347 := A_o347.keep Kc nin0
  refine rc (st' := [.int dv346, .int i0, .ref o347, .int sv317, .ref bF]) rfl ?_
  refine s_arraycopy 30 0 (Y (sl zsF sv317.toNatClampNeg dv346.toNatClampNeg ++ List.replicate (8 - dv346.toNatClampNeg) 0)) C X d23_27 (mW 114 rfl) (mW 117 rfl) (mW 115 rfl) (mW 116 rfl) A_bF A_o347 rfl (own_c1 hvd) (by decide) (own_dc hvd).1 (own_c4 hvd) own_c5 (own_c8 hvd) g_o347 (own_cpw hvd) rfl rfl (fun T hh X Kc A_o347 => ?_)
  have Kp := Kp.trans Kc (allS (Or.inr sz_o347) all0)
  refine rc (st' := []) rfl ?_
  refine s_aload 32 C X d23_30 rfl rfl ?_
  refine s_areturn C X d23_32 rfl rfl rfl ?_ (FG hG (by decide) (by decide))
  obtain ⟨wsF, e_wsF⟩ : ∃ z : List Int32, z = (sl zsF sv317.toNatClampNeg dv346.toNatClampNeg ++ List.replicate (8 - dv346.toNatClampNeg) 0) := ⟨_, rfl⟩
  rw [← e_wsF] at A_o347
  have hvw : own_w zsF sv317 dv346 wsF := by rw [e_wsF]; exact own_cpg hvd
  have hvdd := hvd
  exact hQ _ _ ⟨dv346, k_o347, o347, wsF, rfl, hvdd, hvw, Kp, A_o347, sz_o347, g_o347⟩
 ·have A_bF := A_bF.keep Kc nin0
  have Kp := Kp.trans Kc all0
  have A_o347 := A_o347.keep Kc nin0
  refine rc (st' := [(.int (zF - sv317)), .int i0, .ref o347, .int sv317, .ref bF]) rfl ?_
  refine rc (st' := [.int dv346, .int i0, .ref o347, .int sv317, .ref bF]) (by rw [own_mn hvd c2_348]) ?_
  refine s_arraycopy 30 0 (Y (sl zsF sv317.toNatClampNeg dv346.toNatClampNeg ++ List.replicate (8 - dv346.toNatClampNeg) 0)) C X d23_27 (mW 114 rfl) (mW 117 rfl) (mW 115 rfl) (mW 116 rfl) A_bF A_o347 rfl (own_c1 hvd) (by decide) (own_dc hvd).1 (own_c4 hvd) own_c5 (own_c8 hvd) g_o347 (own_cpw hvd) rfl rfl (fun T hh X Kc A_o347 => ?_)
  have Kp := Kp.trans Kc (allS (Or.inr sz_o347) all0)
  refine rc (st' := []) rfl ?_
  refine s_aload 32 C X d23_30 rfl rfl ?_
  refine s_areturn C X d23_32 rfl rfl rfl ?_ (FG hG (by decide) (by decide))
  obtain ⟨wsF, e_wsF⟩ : ∃ z : List Int32, z = (sl zsF sv317.toNatClampNeg dv346.toNatClampNeg ++ List.replicate (8 - dv346.toNatClampNeg) 0) := ⟨_, rfl⟩
  rw [← e_wsF] at A_o347
  have hvw : own_w zsF sv317 dv346 wsF := by rw [e_wsF]; exact own_cpg hvd
  have hvdd := hvd
  exact hQ _ _ ⟨dv346, k_o347, o347, wsF, rfl, hvdd, hvw, Kp, A_o347, sz_o347, g_o347⟩
theorem rm_a37 (hw : Hw a0 Z) (bF : Addr) (k_bF : ClassId) (zF : Int32) (zsF : List Int32) (sv317 : Int32) (tv339 : Int32) (h0 : Heap) (n0 : Nat) (Z0 : n0 ≤ h0.size) (A_bF : Arv Z h0 bF k_bF .byte zF (Y zsF) (.int i0)) (hvcr : own_cr zF sv317 tv339) :
  Met l Z (⟨"java/util/Arrays", "copyOfRange", "([BII)[B"⟩ : MethodName) jdk_65_method_132_code 3 (some (.array .byte)) (rM 2 1 8 56) [] #[.ref bF, .int sv317, .int tv339] h0 n0 (fun v h => ∃ (dv346 : Int32) (k_o347 : ClassId) (o347 : Addr) (wsF : List Int32), v = some (.ref o347) ∧ own_d zF sv317 tv339 dv346 ∧ own_w zsF sv317 dv346 wsF ∧ Keep h0 h [] ∧ Arv Z h o347 k_o347 .byte dv346 (Y wsF) (.int i0) ∧ h0.size ≤ o347 ∧ n0 ≤ o347) := by
 refine Met.mkQ (tabs := tables_1) (a0 := a0) (ls0 := #[rv bF, iv sv317, iv tv339]) (plainFor_of_name pn_java_util_Arrays) hw Z0 (fun m => by first | (simp [entryFrame, mkF, argsToLocals, Value.category]; done) | rfl) ?_
 intro p e s m below meth c T Q' G' hQ hG C X
 have Kp : Keep h0 h0 [] := Keep.refl _ _
 refine s_iloadN 1 C X d22_0 rfl ?_
 suffices J343 : Run p e below n0 Q' G' m T 10 #[rv bF, iv sv317, iv tv339] [] by
  refine s_if_ne 10 4 C X d22_1 (fun c1_340 => ?_) (fun c1_340 => ?_)
  ·have t_c1_340 : ¬ ((sv317).toInt = (0 : Int)) := fun q => c1_340 (Int32.toInt_inj.mp q)
   exact J343 
  refine s_iloadN 5 C X d22_4 rfl ?_
  refine s_aloadN 6 C X d22_5 rfl rfl ?_
  refine s_arraylength 7 C X d22_6 A_bF ?_
  refine s_icmp_eq 17 10 C X d22_7 (fun c => absurd c (own_crn hvcr c1_340)) (fun c7_341 => ?_)
  exact J343 
 refine s_aloadN 11 C X d22_10 rfl rfl ?_
 refine s_iloadN 12 C X d22_11 rfl ?_
 refine s_iloadN 13 C X d22_12 rfl ?_
 refine s_callS 16 [.ref bF, .int sv317, .int tv339] [] 0 C X d22_13 (mW 104 rfl) (mW 105 rfl) (mW 102 rfl) (mW 106 rfl) (rm_a36 l Z a0 hw bF k_bF zF zsF sv317 tv339 _ n0 X.sz A_bF hvcr) (lenOf pd___BII__B rfl) rfl rfl rfl (fun T v hh X q => ?_)
 obtain ⟨dv346, k_o347, o347, wsF, rfl, hvdd, hvw, Kc, A_o347, sz_o347', g_o347⟩ := q
 have sz_o347 : h0.size ≤ o347 := Nat.le_trans Kp.1 sz_o347'
 have Kp := Kp.trans Kc all0
 refine rc (st' := [.ref o347]) rfl ?_
 refine s_areturn C X d22_16 rfl rfl rfl ?_ (FG hG (by decide) (by decide))
 exact hQ _ _ ⟨dv346, k_o347, o347, wsF, rfl, hvdd, hvw, Kp, A_o347, sz_o347, g_o347⟩
theorem rm_a38 (hw : Hw a0 Z) (o338 : Addr) (o347 : Addr) (h0 : Heap) (n0 : Nat) (Z0 : n0 ≤ h0.size) (E_o338 : Exa Z h0 o338 cS) (F_o338_a : Fld Z h0 o338 cS "value" "[B" .null) (F_o338_k : Fld Z h0 o338 cS "coder" "B" (.int i0)) (g_o338 : n0 ≤ o338) :
  Met l Z (⟨cS, "<init>", "([BB)V"⟩ : MethodName) jdk_42_method_151_code 3 none (rM 1 0 0 12) [] #[.ref o338, .ref o347, .int i0] h0 n0 (fun v h => v = none ∧ Exa Z h o338 cS ∧ Fld Z h o338 cS "value" "[B" (.ref o347) ∧ Fld Z h o338 cS "coder" "B" (.int i0) ∧ Keep h0 h [o338]) := by
 refine Met.mkQ (tabs := tables_1) (a0 := a0) (ls0 := #[rv o338, rv o347, iv i0]) (plainFor_of_name pn_java_lang_String) hw Z0 (fun m => by first | (simp [entryFrame, mkF, argsToLocals, Value.category]; done) | rfl) ?_
 intro p e s m below meth c T Q' G' hQ hG C X
 have Kp : Keep h0 h0 [o338] := Keep.refl _ _
 refine s_aloadN 1 C X d26_0 rfl rfl ?_
 refine s_objInit 4 C X d26_1 (mW 19 rfl) (mW 20 rfl) (mW 21 rfl) rfl (W := 0) rfl (by decide) (fun T X => ?_)
 refine s_aloadN 5 C X d26_4 rfl rfl ?_
 refine s_aloadN 6 C X d26_5 rfl rfl ?_
 refine s_putfield 9 C X (host := "") d26_6 (Or.inl (mW 28 rfl)) Via.refl F_o338_a E_o338 (Or.inr ⟨(mW 24 rfl), rfl, rfl⟩) (mW 10 rfl) (ty := (.array .byte)) (by decide) rfl rfl g_o338 (fun T hh X W => ?_)
 have E_o338 := E_o338.wr W
 have F_o338_a := F_o338_a.same W
 have F_o338_k := oth F_o338_k W (Or.inr (hw _ (mW 25 rfl))) (Or.inr (hw _ (mW 24 rfl))) (by decide)
 have Kp := Kp.wr W (Or.inl (by simp))
 refine s_aloadN 10 C X d26_9 rfl rfl ?_
 refine s_iloadN 11 C X d26_10 rfl ?_
 refine s_putfieldN 14 C X d26_11 (mW 29 rfl) Via.refl F_o338_k E_o338 (Or.inr ⟨(mW 25 rfl), rfl, rfl⟩) (mW 10 rfl) (ty := .byte) (by decide) rfl rfl g_o338 (fun T hh X W => ?_)
 have E_o338 := E_o338.wr W
 have F_o338_a := oth F_o338_a W (Or.inr (hw _ (mW 24 rfl))) (Or.inr (hw _ (mW 25 rfl))) (by decide)
 have F_o338_k := F_o338_k.same W
 have Kp := Kp.wr W (Or.inl (by simp))
 refine s_return C X d26_14 rfl ?_ (FG hG (by decide) (by decide))
 exact hQ _ _ ⟨rfl, E_o338, F_o338_a, F_o338_k, Kp⟩
theorem rm_a39 (hw : Hw a0 Z) (bF : Addr) (kF : Int32) (k_bF : ClassId) (zF : Int32) (zsF : List Int32) (xs : List Int32) (sv317 : Int32) (lv328 : Int32) (h0 : Heap) (n0 : Nat) (Z0 : n0 ≤ h0.size) (A_bF : Arv Z h0 bF k_bF .byte zF (Y zsF) (.int i0)) (hvS : own_T xs kF zF zsF) (hvsl : own_sl xs sv317 lv328) (hvk : kF = i0) :
  MetH l Z EL1 [] (⟨cW, "newString", "([BII)Ljava/lang/String;"⟩ : MethodName) jdk_43_method_47_code 3 (some (.object cS)) (rM 3 2 12 72) [] #[.ref bF, .int sv317, .int lv328] h0 n0 (fun v h => ∃ (bFp : Addr) (kFp : Int32) (k_bFp : ClassId) (rFp : Addr) (zFp : Int32) (zsFp : List Int32), v = some (.ref rFp) ∧ own_T (sl xs sv317.toNatClampNeg lv328.toNatClampNeg) kFp zFp zsFp ∧ Keep h0 h [] ∧ Exa Z h rFp cS ∧ Fld Z h rFp cS "coder" "B" (.int kFp) ∧ Fld Z h rFp cS "value" "[B" (.ref bFp) ∧ Arv Z h bFp k_bFp .byte zFp (Y zsFp) (.int i0)) := by
 refine MetH.mkQ (tabs := tables_1) (a0 := a0) (ls0 := #[rv bF, iv sv317, iv lv328]) (plainFor_of_name pn_java_lang_StringLatin1) hw Z0 (fun m => by first | (simp [entryFrame, mkF, argsToLocals, Value.category]; done) | rfl) ?_
 intro p e s m below meth c T Q' G' vm k1 hQ hG C X hS Rc hso
 have Kp : Keep h0 h0 [] := Keep.refl _ _
 refine s_iloadN 1 C X d21_0 rfl ?_
 refine s_if_ne 7 4 C X d21_1 (fun c1_337 => ?_) (fun c1_337 => ?_)
 ·have t_c1_337 : ¬ ((lv328).toInt = (0 : Int)) := fun q => c1_337 (Int32.toInt_inj.mp q)
  refine s_new 10 C X d21_7 (mW 99 rfl) (mW 10 rfl) (mW 11 rfl) (fun T hh o338 hb_o338 X E E_o338 D g_o338 => ?_)
  have H_o338 : Safe Z EL1 vm _ o338 := Safe.ext E Rc.1.1 (Safe.new (Nat.le_of_eq hb_o338))
  have Rc := Rc.ext E
  have sz_o338 : h0.size ≤ o338 := Nat.le_trans Kp.1 (Nat.le_of_eq hb_o338)
  have A_bF := A_bF.ext E
  have Kp := Kp.ext E
  have F_o338_a : Fld Z _ o338 cS "value" "[B" .null := D (Or.inr (hw _ (mW 24 rfl))) (ty := (.array .byte)) (by decide)
  have F_o338_k : Fld Z _ o338 cS "coder" "B" (.int i0) := D (Or.inr (hw _ (mW 25 rfl))) (ty := .byte) (by decide)
  refine s_dup 11 C X d21_10 rfl ?_
  refine s_aloadN 12 C X d21_11 rfl rfl ?_
  refine s_iloadN 13 C X d21_12 rfl ?_
  refine s_iloadN 14 C X d21_13 rfl ?_
  refine s_iloadN 15 C X d21_14 rfl ?_
  refine s_iadd 16 C X d21_15 ?_
  obtain ⟨tv339, e_tv339⟩ : ∃ zz_ : Int32, zz_ = (sv317 + lv328) := ⟨_, rfl⟩
  refine rc (st' := [.int tv339, .int sv317, .ref bF, .ref o338, .ref o338]) (by subst e_tv339; rfl) ?_
  have qc := own_crL hvS hvk hvsl e_tv339
  have hvcr : own_cr zF sv317 tv339 := qc.1
  have qt := qc.2
  refine s_callS 19 [.ref bF, .int sv317, .int tv339] [.ref o338, .ref o338] 2 C X d21_16 (mW 100 rfl) (mW 101 rfl) (mW 102 rfl) (mW 103 rfl) (rm_a37 l Z a0 hw bF k_bF zF zsF sv317 tv339 _ n0 X.sz A_bF hvcr) (lenOf pd___BII__B rfl) rfl rfl rfl (fun T v hh X q => ?_)
  obtain ⟨dv346, k_o347, o347, wsF, rfl, hvdd, hvw, Kc, A_o347, sz_o347', g_o347⟩ := q
  have ne_o338_o347 : o338 ≠ o347 := Nat.ne_of_lt (Nat.lt_of_lt_of_le E_o338.lt sz_o347')
  have H_o338 := Safe.keep Kc so0 Rc.1.1 H_o338
  have Rc := Rc.keep Kc so0
  have Kp := Kp.trans Kc all0
  have E_o338 := E_o338.keep Kc
  have F_o338_a := F_o338_a.keep Kc nin0
  have F_o338_k := F_o338_k.keep Kc nin0
  refine rc (st' := [.ref o347, .ref o338, .ref o338]) rfl ?_
  refine s_iconst 20 C X d21_19 kc_iconst_0 ?_
  have Sw_o338 : Safe Z EL1 vm _ o338 := H_o338
  refine s_callC 23 [.ref o347, .int i0] [.ref o338] 1 C X d21_20 rfl (mW 118 rfl) (mW 119 rfl) (mW 11 rfl) (mW 120 rfl) (rm_a38 l Z a0 hw o338 o347 _ n0 X.sz E_o338 F_o338_a F_o338_k g_o338) (lenOf pd___BB_V rfl) rfl rfl rfl (fun T v hh X q => ?_)
  obtain ⟨rfl, E_o338, F_o338_a, F_o338_k, Kc⟩ := q
  have Hs : ∀ x ∈ [o338], Safe Z EL1 vm _ x := (soS Sw_o338 so0)
  have Rc := Rc.keep Kc Hs
  have Kp := Kp.trans Kc (allS (Or.inr sz_o338) all0)
  have A_o347 := A_o347.keep Kc (ninS (Ne.symm ne_o338_o347) nin0)
  refine rc (st' := [.ref o338]) rfl ?_
  refine s_areturn C X d21_23 rfl rfl rfl ?_ (FGH hG hS Rc C (own_EL hw))
  obtain ⟨rFp, e_rFp⟩ : ∃ z : Addr, z = o338 := ⟨_, rfl⟩
  obtain ⟨bFp, e_bFp⟩ : ∃ z : Addr, z = o347 := ⟨_, rfl⟩
  obtain ⟨k_bFp, e_k⟩ : ∃ z : ClassId, z = k_o347 := ⟨_, rfl⟩
  obtain ⟨kFp, e_kFp⟩ : ∃ z : Int32, z = i0 := ⟨_, rfl⟩
  obtain ⟨zFp, e_zFp⟩ : ∃ z : Int32, z = dv346 := ⟨_, rfl⟩
  obtain ⟨zsFp, e_zsFp⟩ : ∃ z : List Int32, z = wsF := ⟨_, rfl⟩
  show Q' (some (.ref o338)) _
  rw [← e_rFp]
  have E_rFp : Exa Z hh rFp cS := by rw [e_rFp]; exact E_o338
  have F_rFp_k : Fld Z hh rFp cS "coder" "B" (.int kFp) := by rw [e_rFp, e_kFp]; exact F_o338_k
  have F_rFp_a : Fld Z hh rFp cS "value" "[B" (.ref bFp) := by rw [e_rFp, e_bFp]; exact F_o338_a
  have A_bFp : Arv Z hh bFp k_bFp .byte zFp (Y zsFp) (.int i0) := by rw [e_bFp, e_k, e_zFp, e_zsFp]; exact A_o347
  have hvR : own_T (sl xs sv317.toNatClampNeg lv328.toNatClampNeg) kFp zFp zsFp := by rw [e_kFp, e_zFp, e_zsFp]; exact own_tP hvS hvk hvsl (by have z := hvdd.2; omega) hvw
  exact hQ _ _ ⟨bFp, kFp, k_bFp, rFp, zFp, zsFp, rfl, hvR, Kp, E_rFp, F_rFp_k, F_rFp_a, A_bFp⟩
 have t_c1_337 : (lv328).toInt = (0 : Int) := congrArg Int32.toInt c1_337
 refine s_ldcH 6 0 C X hS Rc.2 (own_EL hw) Rc.1.1 d21_4 (mW 174 rfl) (own_wS hw) (vs := []) (z := i0) (by decide) ⟨by decide, rfl⟩ (by decide) rfl (fun T hh t353 b354 k_b354 vm k1 C X E hS Nk Rn E_t353 F_t353_k F_t353_a A_b354 nS => ?_)
 have Rc := Rc.call Rn Nk
 have Kp := Kp.ext E
 refine s_areturn C X d21_6 rfl rfl rfl ?_ (FGH hG hS Rc C (own_EL hw))
 obtain ⟨rFp, e_rFp⟩ : ∃ z : Addr, z = t353 := ⟨_, rfl⟩
 obtain ⟨bFp, e_bFp⟩ : ∃ z : Addr, z = b354 := ⟨_, rfl⟩
 obtain ⟨k_bFp, e_k⟩ : ∃ z : ClassId, z = k_b354 := ⟨_, rfl⟩
 obtain ⟨kFp, e_kFp⟩ : ∃ z : Int32, z = i0 := ⟨_, rfl⟩
 obtain ⟨zFp, e_zFp⟩ : ∃ z : Int32, z = i0 := ⟨_, rfl⟩
 obtain ⟨zsFp, e_zsFp⟩ : ∃ z : List Int32, z = [] := ⟨_, rfl⟩
 show Q' (some (.ref t353)) _
 rw [← e_rFp]
 have E_rFp : Exa Z hh rFp cS := by rw [e_rFp]; exact E_t353
 have F_rFp_k : Fld Z hh rFp cS "coder" "B" (.int kFp) := by rw [e_rFp, e_kFp]; exact F_t353_k
 have F_rFp_a : Fld Z hh rFp cS "value" "[B" (.ref bFp) := by rw [e_rFp, e_bFp]; exact F_t353_a
 have A_bFp : Arv Z hh bFp k_bFp .byte zFp (Y zsFp) (.int i0) := by rw [e_bFp, e_k, e_zFp, e_zsFp]; exact A_b354
 have hvR : own_T (sl xs sv317.toNatClampNeg lv328.toNatClampNeg) kFp zFp zsFp := by rw [e_kFp, e_zFp, e_zsFp]; exact own_tE t_c1_337
 exact hQ _ _ ⟨bFp, kFp, k_bFp, rFp, zFp, zsFp, rfl, hvR, Kp, E_rFp, F_rFp_k, F_rFp_a, A_bFp⟩
theorem rm_a40 (hw : Hw a0 Z) (fm : Value) (kF : Int32) (zF : Int32) (zsF : List Int32) (xs : List Int32) (sv317 : Int32) (lv328 : Int32) (h0 : Heap) (n0 : Nat) (Z0 : n0 ≤ h0.size) (hv_fm : fm.isRef = true) (hvS : own_T xs kF zF zsF) (hvsl : own_sl xs sv317 lv328) (hvk : ¬ kF = i0) :
  Met l Z (⟨cP, "checkFromIndexSize", "(IIILjava/util/function/BiFunction;)I"⟩ : MethodName) jdk_41_method_13_code 4 (some .int) (rM 0 0 0 0) [] #[.int sv317, .int lv328, (.int (zF >>> (i1 &&& 31))), fm] h0 n0 (fun v h => v = some (.int sv317) ∧ Keep h0 h []) := by
 refine Met.mkQ (tabs := tables_1) (a0 := a0) (ls0 := #[iv sv317, iv lv328, .val (.int (zF >>> (i1 &&& 31))), .val fm]) (plainFor_of_name pn_jdk_internal_util_Preconditions) hw Z0 (fun m => by first | (simp [entryFrame, mkF, argsToLocals, Value.category]; done) | rfl | (cases fm <;> first | (simp [entryFrame, mkF, argsToLocals, Value.category]; done) | (exact absurd hv_fm (by simp [Value.isRef])))) ?_
 intro p e s m below meth c T Q' G' hQ hG C X
 have Kp : Keep h0 h0 [] := Keep.refl _ _
 refine s_iloadN 1 C X d40_0 rfl ?_
 refine s_iloadN 2 C X d40_1 rfl ?_
 refine s_ior 3 C X d40_2 ?_
 refine s_iloadN 4 C X d40_3 rfl ?_
 refine s_ior 5 C X d40_4 ?_
 refine s_if_lt 15 8 C X d40_5 (fun c => absurd c (own_or3 hvS hvk hvsl)) (fun c5_361 => ?_)
 refine s_iloadN 9 C X d40_8 rfl ?_
 refine s_iloadN 10 C X d40_9 rfl ?_
 refine s_iloadN 11 C X d40_10 rfl ?_
 refine s_isub 12 C X d40_11 ?_
 refine s_icmp_le 23 15 C X d40_12 (fun c12_362 => ?_) (fun c => absurd c (own_fsz hvS hvk hvsl))
 refine s_iloadN 24 C X d40_23 rfl ?_
 refine s_ireturn C X d40_24 rfl ?_ (FG hG (by decide) (by decide))
 exact hQ _ _ ⟨rfl, Kp⟩
theorem rm_a41 (hw : Hw a0 Z) (fm : Value) (kF : Int32) (zF : Int32) (zsF : List Int32) (xs : List Int32) (sv317 : Int32) (lv328 : Int32) (h0 : Heap) (n0 : Nat) (Z0 : n0 ≤ h0.size) (S_fm : Sta Z Z.heap cP cM cF fm) (Od : Old Z n0 h0) (hv_fm : fm.isRef = true) (hvS : own_T xs kF zF zsF) (hvsl : own_sl xs sv317 lv328) (hvk : ¬ kF = i0) :
  Met l Z (⟨cS, "checkBoundsOffCount", "(III)I"⟩ : MethodName) jdk_42_method_157_code 3 (some .int) (rM 1 0 0 15) [] #[.int sv317, .int lv328, (.int (zF >>> (i1 &&& 31)))] h0 n0 (fun v h => v = some (.int sv317) ∧ Old Z n0 h ∧ Keep h0 h []) := by
 refine Met.mkQ (tabs := tables_1) (a0 := a0) (ls0 := #[iv sv317, iv lv328, .val (.int (zF >>> (i1 &&& 31)))]) (plainFor_of_name pn_java_lang_String) hw Z0 (fun m => by first | (simp [entryFrame, mkF, argsToLocals, Value.category]; done) | rfl) ?_
 intro p e s m below meth c T Q' G' hQ hG C X
 have Kp : Keep h0 h0 [] := Keep.refl _ _
 refine s_iloadN 1 C X d39_0 rfl ?_
 refine s_iloadN 2 C X d39_1 rfl ?_
 refine s_iloadN 3 C X d39_2 rfl ?_
 refine s_getstatic 6 C X (host := "") d39_3 (Or.inl (mW 54 rfl)) Via.refl (S_fm.ext Od.2) (fun T X => ?_)
 refine s_callS 9 [.int sv317, .int lv328, (.int (zF >>> (i1 &&& 31))), fm] [] 0 C X d39_6 (mW 167 rfl) (mW 168 rfl) (mW 55 rfl) (mW 169 rfl) (rm_a40 l Z a0 hw fm kF zF zsF xs sv317 lv328 _ n0 X.sz hv_fm hvS hvsl hvk) (lenOf pd__IIILjava_util_function_BiFunction__I rfl) rfl rfl rfl (fun T v hh X q => ?_)
 obtain ⟨rfl, Kc⟩ := q
 have Od := Od.keep Kc all0
 have Kp := Kp.trans Kc all0
 refine rc (st' := [.int sv317]) rfl ?_
 refine s_ireturn C X d39_9 rfl ?_ (FG hG (by decide) (by decide))
 exact hQ _ _ ⟨rfl, Od, Kp⟩
theorem rm_a42 (hw : Hw a0 Z) (fm : Value) (bF : Addr) (kF : Int32) (k_bF : ClassId) (zF : Int32) (zsF : List Int32) (xs : List Int32) (sv317 : Int32) (lv328 : Int32) (h0 : Heap) (n0 : Nat) (Z0 : n0 ≤ h0.size) (S_fm : Sta Z Z.heap cP cM cF fm) (A_bF : Arv Z h0 bF k_bF .byte zF (Y zsF) (.int i0)) (Od : Old Z n0 h0) (hv_fm : fm.isRef = true) (hvS : own_T xs kF zF zsF) (hvsl : own_sl xs sv317 lv328) (hvk : ¬ kF = i0) :
  Met l Z (⟨cU, "checkBoundsOffCount", "(II[B)V"⟩ : MethodName) jdk_52_method_94_code 3 none (rM 2 0 0 29) [] #[.int sv317, .int lv328, .ref bF] h0 n0 (fun v h => v = none ∧ Keep h0 h [] ∧ Old Z n0 h) := by
 refine Met.mkQ (tabs := tables_1) (a0 := a0) (ls0 := #[iv sv317, iv lv328, rv bF]) (plainFor_of_name pn_java_lang_StringUTF16) hw Z0 (fun m => by first | (simp [entryFrame, mkF, argsToLocals, Value.category]; done) | rfl) ?_
 intro p e s m below meth c T Q' G' hQ hG C X
 have Kp : Keep h0 h0 [] := Keep.refl _ _
 refine s_iloadN 1 C X d38_0 rfl ?_
 refine s_iloadN 2 C X d38_1 rfl ?_
 refine s_aloadN 3 C X d38_2 rfl rfl ?_
 refine s_callS 6 [.ref bF] [.int lv328, .int sv317] 2 C X d38_3 (mW 147 rfl) (mW 148 rfl) (mW 62 rfl) (mW 149 rfl) (rm_a25 l Z a0 hw bF k_bF zF zsF _ n0 X.sz A_bF) (lenOf pd___B_I rfl) rfl rfl rfl (fun T v hh X q => ?_)
 obtain ⟨rfl, Kc⟩ := q
 have Od := Od.keep Kc all0
 have Kp := Kp.trans Kc all0
 refine rc (st' := [(.int (zF >>> (i1 &&& 31))), .int lv328, .int sv317]) rfl ?_
 refine s_callS 9 [.int sv317, .int lv328, (.int (zF >>> (i1 &&& 31)))] [] 0 C X d38_6 (mW 164 rfl) (mW 165 rfl) (mW 11 rfl) (mW 166 rfl) (rm_a41 l Z a0 hw fm kF zF zsF xs sv317 lv328 _ n0 X.sz S_fm Od hv_fm hvS hvsl hvk) (lenOf pd__III_I rfl) rfl rfl rfl (fun T v hh X q => ?_)
 obtain ⟨rfl, Od, Kc⟩ := q
 have Kp := Kp.trans Kc all0
 refine rc (st' := [.int sv317]) rfl ?_
 refine s_pop 10 C X d38_9 rfl ?_
 refine s_return C X d38_10 rfl ?_ (FG hG (by decide) (by decide))
 exact hQ _ _ ⟨rfl, Kp, Od⟩
theorem rm_a43 (hw : Hw a0 Z) (fm : Value) (bF : Addr) (kF : Int32) (k_bF : ClassId) (zF : Int32) (zsF : List Int32) (xs : List Int32) (sv317 : Int32) (lv328 : Int32) (o359 : Addr) (k_o359 : ClassId) (h0 : Heap) (n0 : Nat) (Z0 : n0 ≤ h0.size) (S_fm : Sta Z Z.heap cP cM cF fm) (S_ad : Sta Z Z.heap cU "$assertionsDisabled" "Z" (.int i1)) (S_hi : Sta Z Z.heap cU "HI_BYTE_SHIFT" "I" (.int i0)) (S_lo : Sta Z Z.heap cU "LO_BYTE_SHIFT" "I" (.int i8)) (A_bF : Arv Z h0 bF k_bF .byte zF (Y zsF) (.int i0)) (Od : Old Z n0 h0) (A_o359 : Arv Z h0 o359 k_o359 .byte lv328 [.int i0, .int i0, .int i0, .int i0] (.int i0)) (hv_fm : fm.isRef = true) (hvS : own_T xs kF zF zsF) (hvsl : own_sl xs sv317 lv328) (hvk : ¬ kF = i0) (ne_bF_o359 : bF ≠ o359) (g_o359 : n0 ≤ o359) :
  Met l Z (⟨cU, "compress", "([BI[BII)I"⟩ : MethodName) jdk_52_method_22_code 7 (some .int) (rM 3 0 0 43) [] #[.ref bF, .int sv317, .ref o359, .int i0, .int lv328] h0 n0 (fun v h => (∃ (zsFw : List Int32), v = some (.int lv328) ∧ own_zb xs sv317 lv328 zsFw ∧ Arv Z h o359 k_o359 .byte lv328 (Y zsFw) (.int i0) ∧ Keep h0 h [o359] ∧ Old Z n0 h) ∨ (∃ (iFw : Int32) (zsFw : List Int32), v = some (.int iFw) ∧ own_ab xs sv317 lv328 iFw ∧ Arv Z h o359 k_o359 .byte lv328 (Y zsFw) (.int i0) ∧ Keep h0 h [o359] ∧ Old Z n0 h)) := by
 refine Met.mkQ (tabs := tables_1) (a0 := a0) (ls0 := #[rv bF, iv sv317, rv o359, iv i0, iv lv328, un, un]) (plainFor_of_name pn_java_lang_StringUTF16) hw Z0 (fun m => by first | (simp [entryFrame, mkF, argsToLocals, Value.category]; done) | rfl) ?_
 intro p e s m below meth c T Q' G' hQ hG C X
 have Kp : Keep h0 h0 [o359] := Keep.refl _ _
 refine s_iloadN 1 C X d37_0 rfl ?_
 refine s_iload 3 C X d37_1 rfl ?_
 refine s_aloadN 4 C X d37_3 rfl rfl ?_
 refine s_callS 7 [.int sv317, .int lv328, .ref bF] [] 0 C X d37_4 (mW 161 rfl) (mW 162 rfl) (mW 62 rfl) (mW 163 rfl) (rm_a42 l Z a0 hw fm bF kF k_bF zF zsF xs sv317 lv328 _ n0 X.sz S_fm A_bF Od hv_fm hvS hvsl hvk) (lenOf pd__II_B_V rfl) rfl rfl rfl (fun T v hh X q => ?_)
 obtain ⟨rfl, Kc, Od⟩ := q
 have A_bF := A_bF.keep Kc nin0
 have A_o359 := A_o359.keep Kc nin0
 have Kp := Kp.trans Kc all0
 refine rc (st' := []) rfl ?_
 refine s_iconst 8 C X d37_7 kc_iconst_0 ?_
 refine s_istore 10 C X (l' := #[rv bF, iv sv317, rv o359, iv i0, iv lv328, iv i0, un]) d37_8 rfl ?_
 refine s_iload 12 C X d37_10 rfl ?_
 refine s_iload 14 C X d37_12 rfl ?_
 refine s_icmp_ge 53 17 C X d37_14 (fun c14_366 => ?_) (fun c14_366 => ?_)
 ·have t_c14_366 : ¬ ((0 : Int) < (lv328).toInt) := fun q => c14_366 (Int32.lt_iff_toInt_lt.mpr q)
  refine s_iload 55 C X d37_53 rfl ?_
  refine s_ireturn C X d37_55 rfl ?_ (FG hG (by decide) (by decide))
  obtain ⟨zsFw, e_zsFw⟩ : ∃ z : List Int32, z = [i0, i0, i0, i0] := ⟨_, rfl⟩
  have A_o359 : Arv Z hh o359 k_o359 .byte lv328 (Y zsFw) (.int i0) := by rw [e_zsFw]; exact A_o359
  have hle : lv328.toInt ≤ 0 := Int.not_lt.mp t_c14_366
  have hvzb : own_zb xs sv317 lv328 zsFw := fun j hj => by
   omega
  exact hQ _ _ (Or.inl ⟨zsFw, rfl, hvzb, A_o359, Kp, Od⟩)
 have t_c14_366 : (0 : Int) < (lv328).toInt := Int32.lt_iff_toInt_lt.mp c14_366
 refine s_aloadN 18 C X d37_17 rfl rfl ?_
 refine s_iloadN 19 C X d37_18 rfl ?_
 obtain ⟨ix367, e_ix367⟩ : ∃ zz_ : Int32, zz_ = sv317 := ⟨_, rfl⟩
 refine rc (st' := [.int ix367, .ref bF]) (by subst e_ix367; rfl) ?_
 refine Run.castL (ls' := #[rv bF, iv ix367, rv o359, iv i0, iv lv328, iv i0, un]) (by rw [e_ix367]) ?_
 have hvsi_ix367 : own_si sv317 ix367 0 := own_si0 e_ix367
 have hvx_ix367 : own_ix xs ix367 := own_six hvS hvsl hvsi_ix367 c14_366 (by decide)
 refine s_callS 22 [.ref bF, .int ix367] [] 0 C X d37_19 (mW 138 rfl) (mW 139 rfl) (mW 62 rfl) (mW 140 rfl) (rm_a29 l Z a0 hw bF kF k_bF zF zsF xs ix367 _ n0 X.sz S_ad S_hi S_lo A_bF Od hvS hvx_ix367 hvk) (lenOf pd___BI_C rfl) rfl rfl rfl (fun T v hh X q => ?_)
 obtain ⟨rfl, Od, Kc⟩ := q
 have A_bF := A_bF.keep Kc nin0
 have A_o359 := A_o359.keep Kc nin0
 have Kp := Kp.trans Kc all0
 refine rc (st' := [(.int (xs.getD (ix367).toNatClampNeg 0))]) rfl ?_
 refine s_istore 24 C X (l' := #[rv bF, iv ix367, rv o359, iv i0, iv lv328, iv i0, .val (.int (xs.getD (ix367).toNatClampNeg 0))]) d37_22 rfl ?_
 refine s_iload 26 C X d37_24 rfl ?_
 refine s_sipush 29 C X d37_26 kc_sipush_255 ?_
 refine s_icmp_le 35 32 C X d37_29 (fun c29_371 => ?_) (fun c29_371 => ?_)
 ·have t_c29_371 : ¬ ((255 : Int) < ((xs.getD (ix367).toNatClampNeg 0)).toInt) := fun q => c29_371 (Int32.lt_iff_toInt_lt.mpr q)
  refine s_aloadN 36 C X d37_35 rfl rfl ?_
  refine s_iloadN 37 C X d37_36 rfl ?_
  refine s_iload 39 C X d37_37 rfl ?_
  refine s_i2b 40 C X d37_39 ?_
  refine s_bastore 41 0 C X d37_40 A_o359 g_o359 ⟨by decide, c14_366⟩ rfl (Nat.le_of_ble_eq_true rfl) (fun T hh X W A_o359 => ?_)
  have A_o359 : Arv Z _ o359 k_o359 .byte lv328 [(.int (nar .byte ((xs.getD (ix367).toNatClampNeg 0)).toInt8.toInt32)), .int i0, .int i0, .int i0] (.int i0) := A_o359
  have A_bF := A_bF.other W ne_bF_o359
  have Kp := Kp.wr W (Or.inl (by simp))
  have Od := Od.wr W g_o359
  have A_o359 : Arv Z _ o359 k_o359 .byte lv328 [(.int (bv (xs.getD (ix367).toNatClampNeg 0))), .int i0, .int i0, .int i0] (.int i0) := A_o359
  refine s_iinc 44 C X (l' := #[rv bF, .val (.int (ix367 + i1)), rv o359, iv i0, iv lv328, iv i0, .val (.int (xs.getD (ix367).toNatClampNeg 0))]) d37_41 kc_iconst_1 rfl rfl ?_
  refine s_iinc 47 C X (l' := #[rv bF, .val (.int (ix367 + i1)), rv o359, iv i1, iv lv328, iv i0, .val (.int (xs.getD (ix367).toNatClampNeg 0))]) d37_44 kc_iconst_1 rfl rfl ?_
  refine s_iinc 50 C X (l' := #[rv bF, .val (.int (ix367 + i1)), rv o359, iv i1, iv lv328, iv i1, .val (.int (xs.getD (ix367).toNatClampNeg 0))]) d37_47 kc_iconst_1 rfl rfl ?_
  refine s_goto 10 C X d37_50 ?_
  refine s_iload 12 C X d37_10 rfl ?_
  refine s_iload 14 C X d37_12 rfl ?_
  refine s_icmp_ge 53 17 C X d37_14 (fun c14_372 => ?_) (fun c14_372 => ?_)
  ·have t_c14_372 : ¬ ((1 : Int) < (lv328).toInt) := fun q => c14_372 (Int32.lt_iff_toInt_lt.mpr q)
   refine s_iload 55 C X d37_53 rfl ?_
   refine s_ireturn C X d37_55 rfl ?_ (FG hG (by decide) (by decide))
   obtain ⟨zsFw, e_zsFw⟩ : ∃ z : List Int32, z = [(bv (xs.getD (ix367).toNatClampNeg 0)), i0, i0, i0] := ⟨_, rfl⟩
   have A_o359 : Arv Z hh o359 k_o359 .byte lv328 (Y zsFw) (.int i0) := by rw [e_zsFw]; exact A_o359
   have hle : lv328.toInt ≤ 1 := Int.not_lt.mp t_c14_372
   have hvzb : own_zb xs sv317 lv328 zsFw := fun j hj => by
    have : j = 0 := by omega
    rcases this with rfl
    ·rw [← own_sig (xs := xs) hvsl.1 hvsi_ix367]; exact ⟨own_BB (own_Ux hvS hvx_ix367) c29_371, by rw [e_zsFw]; rfl⟩
   exact hQ _ _ (Or.inl ⟨zsFw, rfl, hvzb, A_o359, Kp, Od⟩)
  have t_c14_372 : (1 : Int) < (lv328).toInt := Int32.lt_iff_toInt_lt.mp c14_372
  refine s_aloadN 18 C X d37_17 rfl rfl ?_
  refine s_iloadN 19 C X d37_18 rfl ?_
  obtain ⟨ix373, e_ix373⟩ : ∃ zz_ : Int32, zz_ = (ix367 + i1) := ⟨_, rfl⟩
  refine rc (st' := [.int ix373, .ref bF]) (by subst e_ix373; rfl) ?_
  refine Run.castL (ls' := #[rv bF, iv ix373, rv o359, iv i1, iv lv328, iv i1, .val (.int (xs.getD (ix367).toNatClampNeg 0))]) (by rw [e_ix373]) ?_
  have hvsi_ix373 : own_si sv317 ix373 1 := own_sin hvS hvsl hvsi_ix367 hvx_ix367 e_ix373
  have hvx_ix373 : own_ix xs ix373 := own_six hvS hvsl hvsi_ix373 c14_372 (by decide)
  refine s_callS 22 [.ref bF, .int ix373] [] 0 C X d37_19 (mW 138 rfl) (mW 139 rfl) (mW 62 rfl) (mW 140 rfl) (rm_a29 l Z a0 hw bF kF k_bF zF zsF xs ix373 _ n0 X.sz S_ad S_hi S_lo A_bF Od hvS hvx_ix373 hvk) (lenOf pd___BI_C rfl) rfl rfl rfl (fun T v hh X q => ?_)
  obtain ⟨rfl, Od, Kc⟩ := q
  have A_bF := A_bF.keep Kc nin0
  have A_o359 := A_o359.keep Kc nin0
  have Kp := Kp.trans Kc all0
  refine rc (st' := [(.int (xs.getD (ix373).toNatClampNeg 0))]) rfl ?_
  refine s_istore 24 C X (l' := #[rv bF, iv ix373, rv o359, iv i1, iv lv328, iv i1, .val (.int (xs.getD (ix373).toNatClampNeg 0))]) d37_22 rfl ?_
  refine s_iload 26 C X d37_24 rfl ?_
  refine s_sipush 29 C X d37_26 kc_sipush_255 ?_
  refine s_icmp_le 35 32 C X d37_29 (fun c29_377 => ?_) (fun c29_377 => ?_)
  ·have t_c29_377 : ¬ ((255 : Int) < ((xs.getD (ix373).toNatClampNeg 0)).toInt) := fun q => c29_377 (Int32.lt_iff_toInt_lt.mpr q)
   refine s_aloadN 36 C X d37_35 rfl rfl ?_
   refine s_iloadN 37 C X d37_36 rfl ?_
   refine s_iload 39 C X d37_37 rfl ?_
   refine s_i2b 40 C X d37_39 ?_
   refine s_bastore 41 1 C X d37_40 A_o359 g_o359 ⟨by decide, c14_372⟩ rfl (Nat.le_of_ble_eq_true rfl) (fun T hh X W A_o359 => ?_)
   have A_o359 : Arv Z _ o359 k_o359 .byte lv328 [(.int (bv (xs.getD (ix367).toNatClampNeg 0))), (.int (nar .byte ((xs.getD (ix373).toNatClampNeg 0)).toInt8.toInt32)), .int i0, .int i0] (.int i0) := A_o359
   have A_bF := A_bF.other W ne_bF_o359
   have Kp := Kp.wr W (Or.inl (by simp))
   have Od := Od.wr W g_o359
   have A_o359 : Arv Z _ o359 k_o359 .byte lv328 [(.int (bv (xs.getD (ix367).toNatClampNeg 0))), (.int (bv (xs.getD (ix373).toNatClampNeg 0))), .int i0, .int i0] (.int i0) := A_o359
   refine s_iinc 44 C X (l' := #[rv bF, .val (.int (ix373 + i1)), rv o359, iv i1, iv lv328, iv i1, .val (.int (xs.getD (ix373).toNatClampNeg 0))]) d37_41 kc_iconst_1 rfl rfl ?_
   refine s_iinc 47 C X (l' := #[rv bF, .val (.int (ix373 + i1)), rv o359, iv i2, iv lv328, iv i1, .val (.int (xs.getD (ix373).toNatClampNeg 0))]) d37_44 kc_iconst_1 rfl rfl ?_
   refine s_iinc 50 C X (l' := #[rv bF, .val (.int (ix373 + i1)), rv o359, iv i2, iv lv328, iv i2, .val (.int (xs.getD (ix373).toNatClampNeg 0))]) d37_47 kc_iconst_1 rfl rfl ?_
   refine s_goto 10 C X d37_50 ?_
   refine s_iload 12 C X d37_10 rfl ?_
   refine s_iload 14 C X d37_12 rfl ?_
   refine s_icmp_ge 53 17 C X d37_14 (fun c14_378 => ?_) (fun c14_378 => ?_)
   ·have t_c14_378 : ¬ ((2 : Int) < (lv328).toInt) := fun q => c14_378 (Int32.lt_iff_toInt_lt.mpr q)
    refine s_iload 55 C X d37_53 rfl ?_
    refine s_ireturn C X d37_55 rfl ?_ (FG hG (by decide) (by decide))
    obtain ⟨zsFw, e_zsFw⟩ : ∃ z : List Int32, z = [(bv (xs.getD (ix367).toNatClampNeg 0)), (bv (xs.getD (ix373).toNatClampNeg 0)), i0, i0] := ⟨_, rfl⟩
    have A_o359 : Arv Z hh o359 k_o359 .byte lv328 (Y zsFw) (.int i0) := by rw [e_zsFw]; exact A_o359
    have hle : lv328.toInt ≤ 2 := Int.not_lt.mp t_c14_378
    have hvzb : own_zb xs sv317 lv328 zsFw := fun j hj => by
     have : j = 0 ∨ j = 1 := by omega
     rcases this with rfl | rfl
     ·rw [← own_sig (xs := xs) hvsl.1 hvsi_ix367]; exact ⟨own_BB (own_Ux hvS hvx_ix367) c29_371, by rw [e_zsFw]; rfl⟩
     ·rw [← own_sig (xs := xs) hvsl.1 hvsi_ix373]; exact ⟨own_BB (own_Ux hvS hvx_ix373) c29_377, by rw [e_zsFw]; rfl⟩
    exact hQ _ _ (Or.inl ⟨zsFw, rfl, hvzb, A_o359, Kp, Od⟩)
   have t_c14_378 : (2 : Int) < (lv328).toInt := Int32.lt_iff_toInt_lt.mp c14_378
   refine s_aloadN 18 C X d37_17 rfl rfl ?_
   refine s_iloadN 19 C X d37_18 rfl ?_
   obtain ⟨ix379, e_ix379⟩ : ∃ zz_ : Int32, zz_ = (ix373 + i1) := ⟨_, rfl⟩
   refine rc (st' := [.int ix379, .ref bF]) (by subst e_ix379; rfl) ?_
   refine Run.castL (ls' := #[rv bF, iv ix379, rv o359, iv i2, iv lv328, iv i2, .val (.int (xs.getD (ix373).toNatClampNeg 0))]) (by rw [e_ix379]) ?_
   have hvsi_ix379 : own_si sv317 ix379 2 := own_sin hvS hvsl hvsi_ix373 hvx_ix373 e_ix379
   have hvx_ix379 : own_ix xs ix379 := own_six hvS hvsl hvsi_ix379 c14_378 (by decide)
   refine s_callS 22 [.ref bF, .int ix379] [] 0 C X d37_19 (mW 138 rfl) (mW 139 rfl) (mW 62 rfl) (mW 140 rfl) (rm_a29 l Z a0 hw bF kF k_bF zF zsF xs ix379 _ n0 X.sz S_ad S_hi S_lo A_bF Od hvS hvx_ix379 hvk) (lenOf pd___BI_C rfl) rfl rfl rfl (fun T v hh X q => ?_)
   obtain ⟨rfl, Od, Kc⟩ := q
   have A_bF := A_bF.keep Kc nin0
   have A_o359 := A_o359.keep Kc nin0
   have Kp := Kp.trans Kc all0
   refine rc (st' := [(.int (xs.getD (ix379).toNatClampNeg 0))]) rfl ?_
   refine s_istore 24 C X (l' := #[rv bF, iv ix379, rv o359, iv i2, iv lv328, iv i2, .val (.int (xs.getD (ix379).toNatClampNeg 0))]) d37_22 rfl ?_
   refine s_iload 26 C X d37_24 rfl ?_
   refine s_sipush 29 C X d37_26 kc_sipush_255 ?_
   refine s_icmp_le 35 32 C X d37_29 (fun c29_383 => ?_) (fun c29_383 => ?_)
   ·have t_c29_383 : ¬ ((255 : Int) < ((xs.getD (ix379).toNatClampNeg 0)).toInt) := fun q => c29_383 (Int32.lt_iff_toInt_lt.mpr q)
    refine s_aloadN 36 C X d37_35 rfl rfl ?_
    refine s_iloadN 37 C X d37_36 rfl ?_
    refine s_iload 39 C X d37_37 rfl ?_
    refine s_i2b 40 C X d37_39 ?_
    refine s_bastore 41 2 C X d37_40 A_o359 g_o359 ⟨by decide, c14_378⟩ rfl (Nat.le_of_ble_eq_true rfl) (fun T hh X W A_o359 => ?_)
    have A_o359 : Arv Z _ o359 k_o359 .byte lv328 [(.int (bv (xs.getD (ix367).toNatClampNeg 0))), (.int (bv (xs.getD (ix373).toNatClampNeg 0))), (.int (nar .byte ((xs.getD (ix379).toNatClampNeg 0)).toInt8.toInt32)), .int i0] (.int i0) := A_o359
    have A_bF := A_bF.other W ne_bF_o359
    have Kp := Kp.wr W (Or.inl (by simp))
    have Od := Od.wr W g_o359
    have A_o359 : Arv Z _ o359 k_o359 .byte lv328 [(.int (bv (xs.getD (ix367).toNatClampNeg 0))), (.int (bv (xs.getD (ix373).toNatClampNeg 0))), (.int (bv (xs.getD (ix379).toNatClampNeg 0))), .int i0] (.int i0) := A_o359
    refine s_iinc 44 C X (l' := #[rv bF, .val (.int (ix379 + i1)), rv o359, iv i2, iv lv328, iv i2, .val (.int (xs.getD (ix379).toNatClampNeg 0))]) d37_41 kc_iconst_1 rfl rfl ?_
    refine s_iinc 47 C X (l' := #[rv bF, .val (.int (ix379 + i1)), rv o359, iv i3, iv lv328, iv i2, .val (.int (xs.getD (ix379).toNatClampNeg 0))]) d37_44 kc_iconst_1 rfl rfl ?_
    refine s_iinc 50 C X (l' := #[rv bF, .val (.int (ix379 + i1)), rv o359, iv i3, iv lv328, iv i3, .val (.int (xs.getD (ix379).toNatClampNeg 0))]) d37_47 kc_iconst_1 rfl rfl ?_
    refine s_goto 10 C X d37_50 ?_
    refine s_iload 12 C X d37_10 rfl ?_
    refine s_iload 14 C X d37_12 rfl ?_
    refine s_icmp_ge 53 17 C X d37_14 (fun c14_384 => ?_) (fun c14_384 => ?_)
    ·have t_c14_384 : ¬ ((3 : Int) < (lv328).toInt) := fun q => c14_384 (Int32.lt_iff_toInt_lt.mpr q)
     refine s_iload 55 C X d37_53 rfl ?_
     refine s_ireturn C X d37_55 rfl ?_ (FG hG (by decide) (by decide))
     obtain ⟨zsFw, e_zsFw⟩ : ∃ z : List Int32, z = [(bv (xs.getD (ix367).toNatClampNeg 0)), (bv (xs.getD (ix373).toNatClampNeg 0)), (bv (xs.getD (ix379).toNatClampNeg 0)), i0] := ⟨_, rfl⟩
     have A_o359 : Arv Z hh o359 k_o359 .byte lv328 (Y zsFw) (.int i0) := by rw [e_zsFw]; exact A_o359
     have hle : lv328.toInt ≤ 3 := Int.not_lt.mp t_c14_384
     have hvzb : own_zb xs sv317 lv328 zsFw := fun j hj => by
      have : j = 0 ∨ j = 1 ∨ j = 2 := by omega
      rcases this with rfl | rfl | rfl
      ·rw [← own_sig (xs := xs) hvsl.1 hvsi_ix367]; exact ⟨own_BB (own_Ux hvS hvx_ix367) c29_371, by rw [e_zsFw]; rfl⟩
      ·rw [← own_sig (xs := xs) hvsl.1 hvsi_ix373]; exact ⟨own_BB (own_Ux hvS hvx_ix373) c29_377, by rw [e_zsFw]; rfl⟩
      ·rw [← own_sig (xs := xs) hvsl.1 hvsi_ix379]; exact ⟨own_BB (own_Ux hvS hvx_ix379) c29_383, by rw [e_zsFw]; rfl⟩
     exact hQ _ _ (Or.inl ⟨zsFw, rfl, hvzb, A_o359, Kp, Od⟩)
    have t_c14_384 : (3 : Int) < (lv328).toInt := Int32.lt_iff_toInt_lt.mp c14_384
    refine s_aloadN 18 C X d37_17 rfl rfl ?_
    refine s_iloadN 19 C X d37_18 rfl ?_
    obtain ⟨ix385, e_ix385⟩ : ∃ zz_ : Int32, zz_ = (ix379 + i1) := ⟨_, rfl⟩
    refine rc (st' := [.int ix385, .ref bF]) (by subst e_ix385; rfl) ?_
    refine Run.castL (ls' := #[rv bF, iv ix385, rv o359, iv i3, iv lv328, iv i3, .val (.int (xs.getD (ix379).toNatClampNeg 0))]) (by rw [e_ix385]) ?_
    have hvsi_ix385 : own_si sv317 ix385 3 := own_sin hvS hvsl hvsi_ix379 hvx_ix379 e_ix385
    have hvx_ix385 : own_ix xs ix385 := own_six hvS hvsl hvsi_ix385 c14_384 (by decide)
    refine s_callS 22 [.ref bF, .int ix385] [] 0 C X d37_19 (mW 138 rfl) (mW 139 rfl) (mW 62 rfl) (mW 140 rfl) (rm_a29 l Z a0 hw bF kF k_bF zF zsF xs ix385 _ n0 X.sz S_ad S_hi S_lo A_bF Od hvS hvx_ix385 hvk) (lenOf pd___BI_C rfl) rfl rfl rfl (fun T v hh X q => ?_)
    obtain ⟨rfl, Od, Kc⟩ := q
    have A_o359 := A_o359.keep Kc nin0
    have Kp := Kp.trans Kc all0
    refine rc (st' := [(.int (xs.getD (ix385).toNatClampNeg 0))]) rfl ?_
    refine s_istore 24 C X (l' := #[rv bF, iv ix385, rv o359, iv i3, iv lv328, iv i3, .val (.int (xs.getD (ix385).toNatClampNeg 0))]) d37_22 rfl ?_
    refine s_iload 26 C X d37_24 rfl ?_
    refine s_sipush 29 C X d37_26 kc_sipush_255 ?_
    refine s_icmp_le 35 32 C X d37_29 (fun c29_389 => ?_) (fun c29_389 => ?_)
    ·have t_c29_389 : ¬ ((255 : Int) < ((xs.getD (ix385).toNatClampNeg 0)).toInt) := fun q => c29_389 (Int32.lt_iff_toInt_lt.mpr q)
     refine s_aloadN 36 C X d37_35 rfl rfl ?_
     refine s_iloadN 37 C X d37_36 rfl ?_
     refine s_iload 39 C X d37_37 rfl ?_
     refine s_i2b 40 C X d37_39 ?_
     refine s_bastore 41 3 C X d37_40 A_o359 g_o359 ⟨by decide, c14_384⟩ rfl (Nat.le_of_ble_eq_true rfl) (fun T hh X W A_o359 => ?_)
     have A_o359 : Arv Z _ o359 k_o359 .byte lv328 [(.int (bv (xs.getD (ix367).toNatClampNeg 0))), (.int (bv (xs.getD (ix373).toNatClampNeg 0))), (.int (bv (xs.getD (ix379).toNatClampNeg 0))), (.int (nar .byte ((xs.getD (ix385).toNatClampNeg 0)).toInt8.toInt32))] (.int i0) := A_o359
     have Kp := Kp.wr W (Or.inl (by simp))
     have Od := Od.wr W g_o359
     have A_o359 : Arv Z _ o359 k_o359 .byte lv328 [(.int (bv (xs.getD (ix367).toNatClampNeg 0))), (.int (bv (xs.getD (ix373).toNatClampNeg 0))), (.int (bv (xs.getD (ix379).toNatClampNeg 0))), (.int (bv (xs.getD (ix385).toNatClampNeg 0)))] (.int i0) := A_o359
     refine s_iinc 44 C X (l' := #[rv bF, .val (.int (ix385 + i1)), rv o359, iv i3, iv lv328, iv i3, .val (.int (xs.getD (ix385).toNatClampNeg 0))]) d37_41 kc_iconst_1 rfl rfl ?_
     refine s_iinc 47 C X (l' := #[rv bF, .val (.int (ix385 + i1)), rv o359, iv i4, iv lv328, iv i3, .val (.int (xs.getD (ix385).toNatClampNeg 0))]) d37_44 kc_iconst_1 rfl rfl ?_
     refine s_iinc 50 C X (l' := #[rv bF, .val (.int (ix385 + i1)), rv o359, iv i4, iv lv328, iv i4, .val (.int (xs.getD (ix385).toNatClampNeg 0))]) d37_47 kc_iconst_1 rfl rfl ?_
     refine s_goto 10 C X d37_50 ?_
     refine s_iload 12 C X d37_10 rfl ?_
     refine s_iload 14 C X d37_12 rfl ?_
     refine s_icmp_ge 53 17 C X d37_14 (fun c14_390 => ?_) (fun c => absurd c (own_l4 hvS hvsl))
     refine s_iload 55 C X d37_53 rfl ?_
     refine s_ireturn C X d37_55 rfl ?_ (FG hG (by decide) (by decide))
     obtain ⟨zsFw, e_zsFw⟩ : ∃ z : List Int32, z = [(bv (xs.getD (ix367).toNatClampNeg 0)), (bv (xs.getD (ix373).toNatClampNeg 0)), (bv (xs.getD (ix379).toNatClampNeg 0)), (bv (xs.getD (ix385).toNatClampNeg 0))] := ⟨_, rfl⟩
     have A_o359 : Arv Z hh o359 k_o359 .byte lv328 (Y zsFw) (.int i0) := by rw [e_zsFw]; exact A_o359
     have hle : lv328.toInt ≤ 4 := own_l4' hvS hvsl
     have hvzb : own_zb xs sv317 lv328 zsFw := fun j hj => by
      have : j = 0 ∨ j = 1 ∨ j = 2 ∨ j = 3 := by omega
      rcases this with rfl | rfl | rfl | rfl
      ·rw [← own_sig (xs := xs) hvsl.1 hvsi_ix367]; exact ⟨own_BB (own_Ux hvS hvx_ix367) c29_371, by rw [e_zsFw]; rfl⟩
      ·rw [← own_sig (xs := xs) hvsl.1 hvsi_ix373]; exact ⟨own_BB (own_Ux hvS hvx_ix373) c29_377, by rw [e_zsFw]; rfl⟩
      ·rw [← own_sig (xs := xs) hvsl.1 hvsi_ix379]; exact ⟨own_BB (own_Ux hvS hvx_ix379) c29_383, by rw [e_zsFw]; rfl⟩
      ·rw [← own_sig (xs := xs) hvsl.1 hvsi_ix385]; exact ⟨own_BB (own_Ux hvS hvx_ix385) c29_389, by rw [e_zsFw]; rfl⟩
     exact hQ _ _ (Or.inl ⟨zsFw, rfl, hvzb, A_o359, Kp, Od⟩)
    have t_c29_389 : (255 : Int) < ((xs.getD (ix385).toNatClampNeg 0)).toInt := Int32.lt_iff_toInt_lt.mp c29_389
    refine s_iload 34 C X d37_32 rfl ?_
    refine s_ireturn C X d37_34 rfl ?_ (FG hG (by decide) (by decide))
    obtain ⟨zsFw, e_zsFw⟩ : ∃ z : List Int32, z = [(bv (xs.getD (ix367).toNatClampNeg 0)), (bv (xs.getD (ix373).toNatClampNeg 0)), (bv (xs.getD (ix379).toNatClampNeg 0)), i0] := ⟨_, rfl⟩
    have A_o359 : Arv Z hh o359 k_o359 .byte lv328 (Y zsFw) (.int i0) := by rw [e_zsFw]; exact A_o359
    obtain ⟨iFw, e_iFw⟩ : ∃ z : Int32, z = i3 := ⟨_, rfl⟩
    show Q' (some (.int i3)) _
    rw [← e_iFw]
    have hvg : own_ab xs sv317 lv328 iFw := by rw [e_iFw]; exact own_abi (i := 3) hvsl hvsi_ix385 (by decide) c14_384 c29_389
    exact hQ _ _ (Or.inr ⟨iFw, zsFw, rfl, hvg, A_o359, Kp, Od⟩)
   have t_c29_383 : (255 : Int) < ((xs.getD (ix379).toNatClampNeg 0)).toInt := Int32.lt_iff_toInt_lt.mp c29_383
   refine s_iload 34 C X d37_32 rfl ?_
   refine s_ireturn C X d37_34 rfl ?_ (FG hG (by decide) (by decide))
   obtain ⟨zsFw, e_zsFw⟩ : ∃ z : List Int32, z = [(bv (xs.getD (ix367).toNatClampNeg 0)), (bv (xs.getD (ix373).toNatClampNeg 0)), i0, i0] := ⟨_, rfl⟩
   have A_o359 : Arv Z hh o359 k_o359 .byte lv328 (Y zsFw) (.int i0) := by rw [e_zsFw]; exact A_o359
   obtain ⟨iFw, e_iFw⟩ : ∃ z : Int32, z = i2 := ⟨_, rfl⟩
   show Q' (some (.int i2)) _
   rw [← e_iFw]
   have hvg : own_ab xs sv317 lv328 iFw := by rw [e_iFw]; exact own_abi (i := 2) hvsl hvsi_ix379 (by decide) c14_378 c29_383
   exact hQ _ _ (Or.inr ⟨iFw, zsFw, rfl, hvg, A_o359, Kp, Od⟩)
  have t_c29_377 : (255 : Int) < ((xs.getD (ix373).toNatClampNeg 0)).toInt := Int32.lt_iff_toInt_lt.mp c29_377
  refine s_iload 34 C X d37_32 rfl ?_
  refine s_ireturn C X d37_34 rfl ?_ (FG hG (by decide) (by decide))
  obtain ⟨zsFw, e_zsFw⟩ : ∃ z : List Int32, z = [(bv (xs.getD (ix367).toNatClampNeg 0)), i0, i0, i0] := ⟨_, rfl⟩
  have A_o359 : Arv Z hh o359 k_o359 .byte lv328 (Y zsFw) (.int i0) := by rw [e_zsFw]; exact A_o359
  obtain ⟨iFw, e_iFw⟩ : ∃ z : Int32, z = i1 := ⟨_, rfl⟩
  show Q' (some (.int i1)) _
  rw [← e_iFw]
  have hvg : own_ab xs sv317 lv328 iFw := by rw [e_iFw]; exact own_abi (i := 1) hvsl hvsi_ix373 (by decide) c14_372 c29_377
  exact hQ _ _ (Or.inr ⟨iFw, zsFw, rfl, hvg, A_o359, Kp, Od⟩)
 have t_c29_371 : (255 : Int) < ((xs.getD (ix367).toNatClampNeg 0)).toInt := Int32.lt_iff_toInt_lt.mp c29_371
 refine s_iload 34 C X d37_32 rfl ?_
 refine s_ireturn C X d37_34 rfl ?_ (FG hG (by decide) (by decide))
 obtain ⟨zsFw, e_zsFw⟩ : ∃ z : List Int32, z = [i0, i0, i0, i0] := ⟨_, rfl⟩
 have A_o359 : Arv Z hh o359 k_o359 .byte lv328 (Y zsFw) (.int i0) := by rw [e_zsFw]; exact A_o359
 obtain ⟨iFw, e_iFw⟩ : ∃ z : Int32, z = i0 := ⟨_, rfl⟩
 show Q' (some (.int i0)) _
 rw [← e_iFw]
 have hvg : own_ab xs sv317 lv328 iFw := by rw [e_iFw]; exact own_abi (i := 0) hvsl hvsi_ix367 (by decide) c14_366 c29_371
 exact hQ _ _ (Or.inr ⟨iFw, zsFw, rfl, hvg, A_o359, Kp, Od⟩)
theorem rm_a44 (hw : Hw a0 Z) (sv317 : Int32) (lv328 : Int32) (tl395 : Int32) (h0 : Heap) (n0 : Nat) (Z0 : n0 ≤ h0.size) (hvtl : tl395.toInt = sv317.toInt + lv328.toInt ∧ 0 ≤ tl395.toInt ∧ tl395.toInt ≤ 4) :
  Met l Z (⟨cU, "newBytesLength", "(I)I"⟩ : MethodName) jdk_52_method_3_code 1 (some .int) (rM 0 0 0 0) [] #[.int tl395] h0 n0 (fun v h => v = some (.int (tl395 <<< (i1 &&& 31))) ∧ Keep h0 h []) := by
 refine Met.mkQ (tabs := tables_1) (a0 := a0) (ls0 := #[iv tl395]) (plainFor_of_name pn_java_lang_StringUTF16) hw Z0 (fun m => by first | (simp [entryFrame, mkF, argsToLocals, Value.category]; done) | rfl) ?_
 intro p e s m below meth c T Q' G' hQ hG C X
 have Kp : Keep h0 h0 [] := Keep.refl _ _
 refine s_iloadN 1 C X d29_0 rfl ?_
 refine s_if_ge 12 4 C X d29_1 (fun c1_396 => ?_) (fun c => absurd c (own_t1 hvtl.2.1))
 refine s_iloadN 13 C X d29_12 rfl ?_
 refine s_ldcInt 15 C X d29_13 (mW 131 rfl) ?_
 refine s_icmp_lt 55 18 C X d29_15 (fun c15_397 => ?_) (fun c => absurd (own_t2 hvtl.2.2) c)
 refine s_iloadN 56 C X d29_55 rfl ?_
 refine s_iconst 57 C X d29_56 kc_iconst_1 ?_
 refine s_ishl 58 C X d29_57 ?_
 refine s_ireturn C X d29_58 rfl ?_ (FG hG (by decide) (by decide))
 exact hQ _ _ ⟨rfl, Kp⟩
theorem rm_a45 (hw : Hw a0 Z) (fm : Value) (bF : Addr) (kF : Int32) (k_bF : ClassId) (zF : Int32) (zsF : List Int32) (xs : List Int32) (sv317 : Int32) (lv328 : Int32) (h0 : Heap) (n0 : Nat) (Z0 : n0 ≤ h0.size) (S_fm : Sta Z Z.heap cP cM cF fm) (S_ad : Sta Z Z.heap cU "$assertionsDisabled" "Z" (.int i1)) (S_hi : Sta Z Z.heap cU "HI_BYTE_SHIFT" "I" (.int i0)) (S_lo : Sta Z Z.heap cU "LO_BYTE_SHIFT" "I" (.int i8)) (A_bF : Arv Z h0 bF k_bF .byte zF (Y zsF) (.int i0)) (Od : Old Z n0 h0) (hv_fm : fm.isRef = true) (hvS : own_T xs kF zF zsF) (hvsl : own_sl xs sv317 lv328) (hvk : ¬ kF = i0) :
  Met l Z (⟨cU, "compress", "([BII)[B"⟩ : MethodName) jdk_52_method_17_code 6 (some (.array .byte)) (rM 4 2 12 70) [] #[.ref bF, .int sv317, .int lv328] h0 n0 (fun v h => (∃ (bFv : Addr) (k_bFv : ClassId) (zsFv : List Int32), v = some (.ref bFv) ∧ own_T (sl xs sv317.toNatClampNeg lv328.toNatClampNeg) i0 lv328 zsFv ∧ Keep h0 h [] ∧ Old Z n0 h ∧ Arv Z h bFv k_bFv .byte lv328 (Y zsFv) (.int i0)) ∨ (∃ (bFv : Addr) (k_bFv : ClassId) (zFv : Int32) (zsFv : List Int32), v = some (.ref bFv) ∧ own_T (sl xs sv317.toNatClampNeg lv328.toNatClampNeg) i1 zFv zsFv ∧ zFv.toInt = 2 * lv328.toInt ∧ Keep h0 h [] ∧ Old Z n0 h ∧ Arv Z h bFv k_bFv .byte zFv (Y zsFv) (.int i0))) := by
 refine Met.mkQ (tabs := tables_1) (a0 := a0) (ls0 := #[rv bF, iv sv317, iv lv328, un, un, un]) (plainFor_of_name pn_java_lang_StringUTF16) hw Z0 (fun m => by first | (simp [entryFrame, mkF, argsToLocals, Value.category]; done) | rfl) ?_
 intro p e s m below meth c T Q' G' hQ hG C X
 have Kp : Keep h0 h0 [] := Keep.refl _ _
 refine s_iloadN 1 C X d36_0 rfl ?_
 refine s_newarray 3 4 C X d36_1 (mW 23 rfl) (own_lc hvS hvsl).1 (own_lc hvS hvsl).2 (fun T hh o359 k_o359 hb_o359 X E A_o359 g_o359 => ?_)
 have ne_bF_o359 : bF ≠ o359 := Nat.ne_of_lt (Nat.lt_of_lt_of_le A_bF.lt (Nat.le_of_eq hb_o359))
 have sz_o359 : h0.size ≤ o359 := Nat.le_trans Kp.1 (Nat.le_of_eq hb_o359)
 have A_bF := A_bF.ext E
 have Od := Od.ext E
 have Kp := Kp.ext E
 have A_o359 : Arv Z _ o359 k_o359 .byte lv328 [.int i0, .int i0, .int i0, .int i0] (.int i0) := A_o359.pad (pad_rep [] _ 4)
 refine s_astoreN 4 C X (l' := #[rv bF, iv sv317, iv lv328, rv o359, un, un]) d36_3 rfl rfl ?_
 refine s_aloadN 5 C X d36_4 rfl rfl ?_
 refine s_iloadN 6 C X d36_5 rfl ?_
 refine s_aloadN 7 C X d36_6 rfl rfl ?_
 refine s_iconst 8 C X d36_7 kc_iconst_0 ?_
 refine s_iloadN 9 C X d36_8 rfl ?_
 refine s_callS 12 [.ref bF, .int sv317, .ref o359, .int i0, .int lv328] [] 0 C X d36_9 (mW 158 rfl) (mW 159 rfl) (mW 62 rfl) (mW 160 rfl) (rm_a43 l Z a0 hw fm bF kF k_bF zF zsF xs sv317 lv328 o359 k_o359 _ n0 X.sz S_fm S_ad S_hi S_lo A_bF Od A_o359 hv_fm hvS hvsl hvk ne_bF_o359 g_o359) (lenOf pd___BI_BII_I rfl) rfl rfl rfl (fun T v hh X q => ?_)
 obtain ⟨zsFw, rfl, hvzb, A_o359, Kc, Od⟩ | ⟨iFw, zsFw, rfl, hvg, A_o359, Kc, Od⟩ := q
 ·have A_bF := A_bF.keep Kc (ninS ne_bF_o359 nin0)
  have Kp := Kp.trans Kc (allS (Or.inr sz_o359) all0)
  refine rc (st' := [.int lv328]) rfl ?_
  refine s_istore 14 C X (l' := #[rv bF, iv sv317, iv lv328, rv o359, iv lv328, un]) d36_12 rfl ?_
  refine s_iload 16 C X d36_14 rfl ?_
  refine s_iloadN 17 C X d36_16 rfl ?_
  refine s_icmp_eq 64 20 C X d36_17 (fun _ => ?_) (fun c => absurd rfl c)
  refine s_aloadN 65 C X d36_64 rfl rfl ?_
  refine s_areturn C X d36_65 rfl rfl rfl ?_ (FG hG (by decide) (by decide))
  obtain ⟨bFv, e_bFv⟩ : ∃ z : Addr, z = o359 := ⟨_, rfl⟩
  obtain ⟨k_bFv, e_k⟩ : ∃ z : ClassId, z = k_o359 := ⟨_, rfl⟩
  obtain ⟨zsFv, e_zsFv⟩ : ∃ z : List Int32, z = zsFw := ⟨_, rfl⟩
  show Q' (some (.ref o359)) _
  rw [← e_bFv]
  have A_bFv : Arv Z hh bFv k_bFv .byte lv328 (Y zsFv) (.int i0) := by rw [e_bFv, e_k, e_zsFv]; exact A_o359
  have hvR : own_T (sl xs sv317.toNatClampNeg lv328.toNatClampNeg) i0 lv328 zsFv := by rw [e_zsFv]; exact own_tR hvS hvsl hvzb
  exact hQ _ _ (Or.inl ⟨bFv, k_bFv, zsFv, rfl, hvR, Kp, Od, A_bFv⟩)
 ·have A_bF := A_bF.keep Kc (ninS ne_bF_o359 nin0)
  have Kp := Kp.trans Kc (allS (Or.inr sz_o359) all0)
  refine rc (st' := [.int iFw]) rfl ?_
  refine s_istore 14 C X (l' := #[rv bF, iv sv317, iv lv328, rv o359, iv iFw, un]) d36_12 rfl ?_
  refine s_iload 16 C X d36_14 rfl ?_
  refine s_iloadN 17 C X d36_16 rfl ?_
  refine s_icmp_eq 64 20 C X d36_17 (fun c => absurd c (own_abn hvg)) (fun c17_393 => ?_)
  refine s_aloadN 21 C X d36_20 rfl rfl ?_
  refine s_iloadN 22 C X d36_21 rfl ?_
  refine s_iconst 23 C X d36_22 kc_iconst_1 ?_
  refine s_ishl 24 C X d36_23 ?_
  obtain ⟨fv394, e_fv394⟩ : ∃ zz_ : Int32, zz_ = (sv317 <<< (i1 &&& 31)) := ⟨_, rfl⟩
  refine rc (st' := [.int fv394, .ref bF]) (by subst e_fv394; rfl) ?_
  have hvf : fv394.toInt = 2 * sv317.toInt := own_f2 hvS hvsl e_fv394
  refine s_iloadN 25 C X d36_24 rfl ?_
  refine s_iloadN 26 C X d36_25 rfl ?_
  refine s_iadd 27 C X d36_26 ?_
  obtain ⟨tl395, e_tl395⟩ : ∃ zz_ : Int32, zz_ = (sv317 + lv328) := ⟨_, rfl⟩
  refine rc (st' := [.int tl395, .int fv394, .ref bF]) (by subst e_tl395; rfl) ?_
  have hvtl : tl395.toInt = sv317.toInt + lv328.toInt ∧ 0 ≤ tl395.toInt ∧ tl395.toInt ≤ 4 := own_tl hvS hvsl e_tl395
  refine s_callS 30 [.int tl395] [.int fv394, .ref bF] 2 C X d36_27 (mW 128 rfl) (mW 129 rfl) (mW 62 rfl) (mW 130 rfl) (rm_a44 l Z a0 hw sv317 lv328 tl395 _ n0 X.sz hvtl) (lenOf pd__I_I rfl) rfl rfl rfl (fun T v hh X q => ?_)
  obtain ⟨rfl, Kc⟩ := q
  have A_bF := A_bF.keep Kc nin0
  have Kp := Kp.trans Kc all0
  have Od := Od.keep Kc all0
  refine rc (st' := [(.int (tl395 <<< (i1 &&& 31))), .int fv394, .ref bF]) rfl ?_
  obtain ⟨uv399, e_uv399⟩ : ∃ zz_ : Int32, zz_ = (tl395 <<< (i1 &&& 31)) := ⟨_, rfl⟩
  refine rc (st' := [.int uv399, .int fv394, .ref bF]) (by subst e_uv399; rfl) ?_
  have qc := own_crU hvS hvk hvsl hvf hvtl e_uv399
  have hvcr : own_cr zF fv394 uv399 := qc.1
  have hvu : uv399.toInt = 2 * sv317.toInt + 2 * lv328.toInt := qc.2
  refine s_callS 33 [.ref bF, .int fv394, .int uv399] [] 0 C X d36_30 (mW 170 rfl) (mW 101 rfl) (mW 102 rfl) (mW 103 rfl) (rm_a37 l Z a0 hw bF k_bF zF zsF fv394 uv399 _ n0 X.sz A_bF hvcr) (lenOf pd___BII__B rfl) rfl rfl rfl (fun T v hh X q => ?_)
  obtain ⟨dv346, k_o347, o347, wsF, rfl, hvdd, hvw, Kc, A_o347, sz_o347', g_o347⟩ := q
  have Kp := Kp.trans Kc all0
  have Od := Od.keep Kc all0
  refine rc (st' := [.ref o347]) rfl ?_
  refine s_astore 35 C X (l' := #[rv bF, iv sv317, iv lv328, rv o359, iv iFw, rv o347]) d36_33 rfl rfl ?_
  refine s_aload 37 C X d36_35 rfl rfl ?_
  refine s_iload 39 C X d36_37 rfl ?_
  have hvdl : dv346.toInt = 2 * lv328.toInt := by have z := hvdd.2; omega
  have hvQ := own_tQ hvS hvk hvsl hvf hvdl hvw
  obtain ⟨ys, e_ys⟩ : ∃ z : List Int32, z = sl xs sv317.toNatClampNeg lv328.toNatClampNeg := ⟨_, rfl⟩
  obtain ⟨k2, e_k2⟩ : ∃ z : Int32, z = i1 := ⟨_, rfl⟩
  have hvT2 : own_T ys k2 dv346 wsF := by rw [e_ys, e_k2]; exact hvQ
  have hvk2 : ¬ k2 = i0 := by rw [e_k2]; decide
  have hvx2 : own_ix ys iFw := by rw [e_ys]; exact own_abx hvg
  refine s_callS 42 [.ref o347, .int iFw] [] 0 C X d36_39 (mW 138 rfl) (mW 139 rfl) (mW 62 rfl) (mW 140 rfl) (rm_a29 l Z a0 hw o347 k2 k_o347 dv346 wsF ys iFw _ n0 X.sz S_ad S_hi S_lo A_o347 Od hvT2 hvx2 hvk2) (lenOf pd___BI_C rfl) rfl rfl rfl (fun T v hh X q => ?_)
  obtain ⟨rfl, Od, Kc⟩ := q
  have Kp := Kp.trans Kc all0
  have A_o347 := A_o347.keep Kc nin0
  refine rc (st' := [(.int (ys.getD (iFw).toNatClampNeg 0))]) rfl ?_
  refine s_sipush 45 C X d36_42 kc_sipush_255 ?_
  refine s_icmp_gt 61 48 C X d36_45 (fun c45_415 => ?_) (fun c => absurd (show i255 < (ys.getD (iFw).toNatClampNeg 0) from by rw [e_ys]; exact own_abg hvg) c)
  refine s_aload 63 C X d36_61 rfl rfl ?_
  refine s_areturn C X d36_63 rfl rfl rfl ?_ (FG hG (by decide) (by decide))
  obtain ⟨bFv, e_bFv⟩ : ∃ z : Addr, z = o347 := ⟨_, rfl⟩
  obtain ⟨k_bFv, e_k⟩ : ∃ z : ClassId, z = k_o347 := ⟨_, rfl⟩
  obtain ⟨zsFv, e_zsFv⟩ : ∃ z : List Int32, z = wsF := ⟨_, rfl⟩
  show Q' (some (.ref o347)) _
  rw [← e_bFv]
  obtain ⟨zFv, e_zFv⟩ : ∃ z : Int32, z = dv346 := ⟨_, rfl⟩
  have A_bFv : Arv Z hh bFv k_bFv .byte zFv (Y zsFv) (.int i0) := by rw [e_bFv, e_k, e_zsFv, e_zFv]; exact A_o347
  have hvR : own_T (sl xs sv317.toNatClampNeg lv328.toNatClampNeg) i1 zFv zsFv := by rw [e_zFv, e_zsFv]; exact hvQ
  have hvdl : zFv.toInt = 2 * lv328.toInt := by rw [e_zFv]; exact hvdl
  exact hQ _ _ (Or.inr ⟨bFv, k_bFv, zFv, zsFv, rfl, hvR, hvdl, Kp, Od, A_bFv⟩)
theorem rm_a46 (hw : Hw a0 Z) (lv328 : Int32) (bFv : Addr) (k_bFv : ClassId) (zsFv : List Int32) (h0 : Heap) (n0 : Nat) (Z0 : n0 ≤ h0.size) (A_bFv : Arv Z h0 bFv k_bFv .byte lv328 (Y zsFv) (.int i0)) :
  Met l Z (⟨cU, "coderFromArrayLen", "([BI)B"⟩ : MethodName) jdk_52_method_15_code 2 (some .byte) (rM 0 0 0 0) [] #[.ref bFv, .int lv328] h0 n0 (fun v h => v = some (.int i0) ∧ Keep h0 h []) := by
 refine Met.mkQ (tabs := tables_1) (a0 := a0) (ls0 := #[rv bFv, iv lv328]) (plainFor_of_name pn_java_lang_StringUTF16) hw Z0 (fun m => by first | (simp [entryFrame, mkF, argsToLocals, Value.category]; done) | rfl) ?_
 intro p e s m below meth c T Q' G' hQ hG C X
 have Kp : Keep h0 h0 [] := Keep.refl _ _
 refine s_iloadN 1 C X d13_0 rfl ?_
 refine s_aloadN 2 C X d13_1 rfl rfl ?_
 refine s_arraylength 3 C X d13_2 A_bFv ?_
 refine s_isub 4 C X d13_3 ?_
 refine rc (st' := [.int i0]) (by rw [own_sub0]) ?_
 refine s_bipush 6 C X d13_4 kc_bipush_31 ?_
 refine s_iushr 7 C X d13_6 ?_
 refine rc (st' := [.int i0]) (by rw [kf_6]) ?_
 refine s_i2b 8 C X d13_7 ?_
 refine rc (st' := [.int i0]) (by rw [kf_7]) ?_
 refine s_nreturn C X d13_8 rfl (by simp) rfl ?_ (FG hG (by decide) (by decide))
 exact hQ _ _ ⟨rfl, Kp⟩
theorem rm_a47 (hw : Hw a0 Z) (kF : Int32) (zF : Int32) (zsF : List Int32) (xs : List Int32) (sv317 : Int32) (lv328 : Int32) (bFv : Addr) (k_bFv : ClassId) (zFv : Int32) (zsFv : List Int32) (h0 : Heap) (n0 : Nat) (Z0 : n0 ≤ h0.size) (A_bFv : Arv Z h0 bFv k_bFv .byte zFv (Y zsFv) (.int i0)) (hvS : own_T xs kF zF zsF) (hvsl : own_sl xs sv317 lv328) (hvl0 : ¬ lv328.toInt = 0) (hvdl : zFv.toInt = 2 * lv328.toInt) :
  Met l Z (⟨cU, "coderFromArrayLen", "([BI)B"⟩ : MethodName) jdk_52_method_15_code 2 (some .byte) (rM 0 0 0 0) [] #[.ref bFv, .int lv328] h0 n0 (fun v h => v = some (.int i1) ∧ Keep h0 h []) := by
 refine Met.mkQ (tabs := tables_1) (a0 := a0) (ls0 := #[rv bFv, iv lv328]) (plainFor_of_name pn_java_lang_StringUTF16) hw Z0 (fun m => by first | (simp [entryFrame, mkF, argsToLocals, Value.category]; done) | rfl) ?_
 intro p e s m below meth c T Q' G' hQ hG C X
 have Kp : Keep h0 h0 [] := Keep.refl _ _
 refine s_iloadN 1 C X d13_0 rfl ?_
 refine s_aloadN 2 C X d13_1 rfl rfl ?_
 refine s_arraylength 3 C X d13_2 A_bFv ?_
 refine s_isub 4 C X d13_3 ?_
 refine s_bipush 6 C X d13_4 kc_bipush_31 ?_
 refine s_iushr 7 C X d13_6 ?_
 refine rc (st' := [.int i1]) (by rw [own_co' hvS hvsl hvl0 hvdl]) ?_
 refine s_i2b 8 C X d13_7 ?_
 refine rc (st' := [.int i1]) (by rw [kf_10]) ?_
 refine s_nreturn C X d13_8 rfl (by simp) rfl ?_ (FG hG (by decide) (by decide))
 exact hQ _ _ ⟨rfl, Kp⟩
theorem rm_a48 (hw : Hw a0 Z) (bFv : Addr) (o421 : Addr) (h0 : Heap) (n0 : Nat) (Z0 : n0 ≤ h0.size) (E_o421 : Exa Z h0 o421 cS) (F_o421_a : Fld Z h0 o421 cS "value" "[B" .null) (F_o421_k : Fld Z h0 o421 cS "coder" "B" (.int i0)) (g_o421 : n0 ≤ o421) :
  Met l Z (⟨cS, "<init>", "([BB)V"⟩ : MethodName) jdk_42_method_151_code 3 none (rM 1 0 0 12) [] #[.ref o421, .ref bFv, .int i1] h0 n0 (fun v h => v = none ∧ Exa Z h o421 cS ∧ Fld Z h o421 cS "value" "[B" (.ref bFv) ∧ Fld Z h o421 cS "coder" "B" (.int i1) ∧ Keep h0 h [o421]) := by
 refine Met.mkQ (tabs := tables_1) (a0 := a0) (ls0 := #[rv o421, rv bFv, iv i1]) (plainFor_of_name pn_java_lang_String) hw Z0 (fun m => by first | (simp [entryFrame, mkF, argsToLocals, Value.category]; done) | rfl) ?_
 intro p e s m below meth c T Q' G' hQ hG C X
 have Kp : Keep h0 h0 [o421] := Keep.refl _ _
 refine s_aloadN 1 C X d26_0 rfl rfl ?_
 refine s_objInit 4 C X d26_1 (mW 19 rfl) (mW 20 rfl) (mW 21 rfl) rfl (W := 0) rfl (by decide) (fun T X => ?_)
 refine s_aloadN 5 C X d26_4 rfl rfl ?_
 refine s_aloadN 6 C X d26_5 rfl rfl ?_
 refine s_putfield 9 C X (host := "") d26_6 (Or.inl (mW 28 rfl)) Via.refl F_o421_a E_o421 (Or.inr ⟨(mW 24 rfl), rfl, rfl⟩) (mW 10 rfl) (ty := (.array .byte)) (by decide) rfl rfl g_o421 (fun T hh X W => ?_)
 have E_o421 := E_o421.wr W
 have F_o421_a := F_o421_a.same W
 have F_o421_k := oth F_o421_k W (Or.inr (hw _ (mW 25 rfl))) (Or.inr (hw _ (mW 24 rfl))) (by decide)
 have Kp := Kp.wr W (Or.inl (by simp))
 refine s_aloadN 10 C X d26_9 rfl rfl ?_
 refine s_iloadN 11 C X d26_10 rfl ?_
 refine s_putfieldN 14 C X d26_11 (mW 29 rfl) Via.refl F_o421_k E_o421 (Or.inr ⟨(mW 25 rfl), rfl, rfl⟩) (mW 10 rfl) (ty := .byte) (by decide) rfl rfl g_o421 (fun T hh X W => ?_)
 have E_o421 := E_o421.wr W
 have F_o421_a := oth F_o421_a W (Or.inr (hw _ (mW 24 rfl))) (Or.inr (hw _ (mW 25 rfl))) (by decide)
 have F_o421_k := F_o421_k.same W
 have Kp := Kp.wr W (Or.inl (by simp))
 refine s_return C X d26_14 rfl ?_ (FG hG (by decide) (by decide))
 exact hQ _ _ ⟨rfl, E_o421, F_o421_a, F_o421_k, Kp⟩
theorem rm_a49 (hw : Hw a0 Z) (cs : Int32) (fm : Value) (bF : Addr) (kF : Int32) (k_bF : ClassId) (zF : Int32) (zsF : List Int32) (xs : List Int32) (sv317 : Int32) (lv328 : Int32) (h0 : Heap) (n0 : Nat) (Z0 : n0 ≤ h0.size) (S_cs : Sta Z Z.heap cS cC "Z" (.int cs)) (S_fm : Sta Z Z.heap cP cM cF fm) (S_ad : Sta Z Z.heap cU "$assertionsDisabled" "Z" (.int i1)) (S_hi : Sta Z Z.heap cU "HI_BYTE_SHIFT" "I" (.int i0)) (S_lo : Sta Z Z.heap cU "LO_BYTE_SHIFT" "I" (.int i8)) (A_bF : Arv Z h0 bF k_bF .byte zF (Y zsF) (.int i0)) (Od : Old Z n0 h0) (hv_cs : ¬ cs = i0) (hv_fm : fm.isRef = true) (hvS : own_T xs kF zF zsF) (hvsl : own_sl xs sv317 lv328) (hvk : ¬ kF = i0) :
  MetH l Z EL1 [] (⟨cU, "newString", "([BII)Ljava/lang/String;"⟩ : MethodName) jdk_52_method_69_code 5 (some (.object cS)) (rM 5 3 16 87) [] #[.ref bF, .int sv317, .int lv328] h0 n0 (fun v h => ∃ (bFu : Addr) (kFu : Int32) (k_bFu : ClassId) (rFu : Addr) (zFu : Int32) (zsFu : List Int32), v = some (.ref rFu) ∧ own_T (sl xs sv317.toNatClampNeg lv328.toNatClampNeg) kFu zFu zsFu ∧ Keep h0 h [] ∧ Old Z n0 h ∧ Exa Z h rFu cS ∧ Fld Z h rFu cS "coder" "B" (.int kFu) ∧ Fld Z h rFu cS "value" "[B" (.ref bFu) ∧ Arv Z h bFu k_bFu .byte zFu (Y zsFu) (.int i0)) := by
 refine MetH.mkQ (tabs := tables_1) (a0 := a0) (ls0 := #[rv bF, iv sv317, iv lv328, un, un]) (plainFor_of_name pn_java_lang_StringUTF16) hw Z0 (fun m => by first | (simp [entryFrame, mkF, argsToLocals, Value.category]; done) | rfl) ?_
 intro p e s m below meth c T Q' G' vm k1 hQ hG C X hS Rc hso
 have Kp : Keep h0 h0 [] := Keep.refl _ _
 refine s_iloadN 1 C X d35_0 rfl ?_
 refine s_if_ne 8 4 C X d35_1 (fun c1_357 => ?_) (fun c1_357 => ?_)
 ·have t_c1_357 : ¬ ((lv328).toInt = (0 : Int)) := fun q => c1_357 (Int32.toInt_inj.mp q)
  have hvl0 : ¬ lv328.toInt = 0 := t_c1_357
  refine s_getstatic 11 C X (host := "") d35_8 (Or.inl (mW 154 rfl)) Via.refl (S_cs.ext Od.2) (fun T X => ?_)
  refine s_if_eq 39 14 C X d35_11 (fun c => absurd c hv_cs) (fun c11_358 => ?_)
  refine s_aloadN 15 C X d35_14 rfl rfl ?_
  refine s_iloadN 16 C X d35_15 rfl ?_
  refine s_iloadN 17 C X d35_16 rfl ?_
  refine s_callS 20 [.ref bF, .int sv317, .int lv328] [] 0 C X d35_17 (mW 155 rfl) (mW 156 rfl) (mW 62 rfl) (mW 157 rfl) (rm_a45 l Z a0 hw fm bF kF k_bF zF zsF xs sv317 lv328 _ n0 X.sz S_fm S_ad S_hi S_lo A_bF Od hv_fm hvS hvsl hvk) (lenOf pd___BII__B rfl) rfl rfl rfl (fun T v hh X q => ?_)
  obtain ⟨bFv, k_bFv, zsFv, rfl, hvR, Kc, Od, A_bFv⟩ | ⟨bFv, k_bFv, zFv, zsFv, rfl, hvR, hvdl, Kc, Od, A_bFv⟩ := q
  ·have Rc := Rc.keep Kc so0
   have Kp := Kp.trans Kc all0
   refine rc (st' := [.ref bFv]) rfl ?_
   refine s_astoreN 21 C X (l' := #[rv bF, iv sv317, iv lv328, rv bFv, un]) d35_20 rfl rfl ?_
   refine s_aloadN 22 C X d35_21 rfl rfl ?_
   refine s_iloadN 23 C X d35_22 rfl ?_
   refine s_callS 26 [.ref bFv, .int lv328] [] 0 C X d35_23 (mW 171 rfl) (mW 68 rfl) (mW 62 rfl) (mW 69 rfl) (rm_a46 l Z a0 hw lv328 bFv k_bFv zsFv _ n0 X.sz A_bFv) (lenOf pd___BI_B rfl) rfl rfl rfl (fun T v hh X q => ?_)
   obtain ⟨rfl, Kc⟩ := q
   have Rc := Rc.keep Kc so0
   have Kp := Kp.trans Kc all0
   have Od := Od.keep Kc all0
   have A_bFv := A_bFv.keep Kc nin0
   refine rc (st' := [.int i0]) rfl ?_
   refine s_istore 28 C X (l' := #[rv bF, iv sv317, iv lv328, rv bFv, iv i0]) d35_26 rfl ?_
   refine s_new 31 C X d35_28 (mW 172 rfl) (mW 10 rfl) (mW 11 rfl) (fun T hh o418 hb_o418 X E E_o418 D g_o418 => ?_)
   have H_o418 : Safe Z EL1 vm _ o418 := Safe.ext E Rc.1.1 (Safe.new (Nat.le_of_eq hb_o418))
   have Rc := Rc.ext E
   have sz_o418 : h0.size ≤ o418 := Nat.le_trans Kp.1 (Nat.le_of_eq hb_o418)
   have ne_bFv_o418 : bFv ≠ o418 := Nat.ne_of_lt (Nat.lt_of_lt_of_le A_bFv.lt (Nat.le_of_eq hb_o418))
   have Kp := Kp.ext E
   have Od := Od.ext E
   have A_bFv := A_bFv.ext E
   have F_o418_a : Fld Z _ o418 cS "value" "[B" .null := D (Or.inr (hw _ (mW 24 rfl))) (ty := (.array .byte)) (by decide)
   have F_o418_k : Fld Z _ o418 cS "coder" "B" (.int i0) := D (Or.inr (hw _ (mW 25 rfl))) (ty := .byte) (by decide)
   refine s_dup 32 C X d35_31 rfl ?_
   refine s_aloadN 33 C X d35_32 rfl rfl ?_
   refine s_iload 35 C X d35_33 rfl ?_
   have Sw_o418 : Safe Z EL1 vm _ o418 := H_o418
   refine s_callC 38 [.ref bFv, .int i0] [.ref o418] 1 C X d35_35 rfl (mW 173 rfl) (mW 119 rfl) (mW 11 rfl) (mW 120 rfl) (rm_a38 l Z a0 hw o418 bFv _ n0 X.sz E_o418 F_o418_a F_o418_k g_o418) (lenOf pd___BB_V rfl) rfl rfl rfl (fun T v hh X q => ?_)
   obtain ⟨rfl, E_o418, F_o418_a, F_o418_k, Kc⟩ := q
   have Hs : ∀ x ∈ [o418], Safe Z EL1 vm _ x := (soS Sw_o418 so0)
   have Rc := Rc.keep Kc Hs
   have Kp := Kp.trans Kc (allS (Or.inr sz_o418) all0)
   have Od := Od.keep Kc (allS g_o418 all0)
   have A_bFv := A_bFv.keep Kc (ninS ne_bFv_o418 nin0)
   refine rc (st' := [.ref o418]) rfl ?_
   refine s_areturn C X d35_38 rfl rfl rfl ?_ (FGH hG hS Rc C (own_EL hw))
   obtain ⟨rFu, e_rFu⟩ : ∃ z : Addr, z = o418 := ⟨_, rfl⟩
   obtain ⟨bFu, e_bFu⟩ : ∃ z : Addr, z = bFv := ⟨_, rfl⟩
   obtain ⟨k_bFu, e_k⟩ : ∃ z : ClassId, z = k_bFv := ⟨_, rfl⟩
   obtain ⟨kFu, e_kFu⟩ : ∃ z : Int32, z = i0 := ⟨_, rfl⟩
   obtain ⟨zFu, e_zFu⟩ : ∃ z : Int32, z = lv328 := ⟨_, rfl⟩
   obtain ⟨zsFu, e_zsFu⟩ : ∃ z : List Int32, z = zsFv := ⟨_, rfl⟩
   show Q' (some (.ref o418)) _
   rw [← e_rFu]
   have E_rFu : Exa Z hh rFu cS := by rw [e_rFu]; exact E_o418
   have F_rFu_k : Fld Z hh rFu cS "coder" "B" (.int kFu) := by rw [e_rFu, e_kFu]; exact F_o418_k
   have F_rFu_a : Fld Z hh rFu cS "value" "[B" (.ref bFu) := by rw [e_rFu, e_bFu]; exact F_o418_a
   have A_bFu : Arv Z hh bFu k_bFu .byte zFu (Y zsFu) (.int i0) := by rw [e_bFu, e_k, e_zFu, e_zsFu]; exact A_bFv
   have hvR : own_T (sl xs sv317.toNatClampNeg lv328.toNatClampNeg) kFu zFu zsFu := by rw [e_kFu, e_zFu, e_zsFu]; exact hvR
   exact hQ _ _ ⟨bFu, kFu, k_bFu, rFu, zFu, zsFu, rfl, hvR, Kp, Od, E_rFu, F_rFu_k, F_rFu_a, A_bFu⟩
  ·have Rc := Rc.keep Kc so0
   have Kp := Kp.trans Kc all0
   refine rc (st' := [.ref bFv]) rfl ?_
   refine s_astoreN 21 C X (l' := #[rv bF, iv sv317, iv lv328, rv bFv, un]) d35_20 rfl rfl ?_
   refine s_aloadN 22 C X d35_21 rfl rfl ?_
   refine s_iloadN 23 C X d35_22 rfl ?_
   refine s_callS 26 [.ref bFv, .int lv328] [] 0 C X d35_23 (mW 171 rfl) (mW 68 rfl) (mW 62 rfl) (mW 69 rfl) (rm_a47 l Z a0 hw kF zF zsF xs sv317 lv328 bFv k_bFv zFv zsFv _ n0 X.sz A_bFv hvS hvsl hvl0 hvdl) (lenOf pd___BI_B rfl) rfl rfl rfl (fun T v hh X q => ?_)
   obtain ⟨rfl, Kc⟩ := q
   have Rc := Rc.keep Kc so0
   have Kp := Kp.trans Kc all0
   have Od := Od.keep Kc all0
   have A_bFv := A_bFv.keep Kc nin0
   refine rc (st' := [.int i1]) rfl ?_
   refine s_istore 28 C X (l' := #[rv bF, iv sv317, iv lv328, rv bFv, iv i1]) d35_26 rfl ?_
   refine s_new 31 C X d35_28 (mW 172 rfl) (mW 10 rfl) (mW 11 rfl) (fun T hh o421 hb_o421 X E E_o421 D g_o421 => ?_)
   have H_o421 : Safe Z EL1 vm _ o421 := Safe.ext E Rc.1.1 (Safe.new (Nat.le_of_eq hb_o421))
   have Rc := Rc.ext E
   have sz_o421 : h0.size ≤ o421 := Nat.le_trans Kp.1 (Nat.le_of_eq hb_o421)
   have ne_bFv_o421 : bFv ≠ o421 := Nat.ne_of_lt (Nat.lt_of_lt_of_le A_bFv.lt (Nat.le_of_eq hb_o421))
   have Kp := Kp.ext E
   have Od := Od.ext E
   have A_bFv := A_bFv.ext E
   have F_o421_a : Fld Z _ o421 cS "value" "[B" .null := D (Or.inr (hw _ (mW 24 rfl))) (ty := (.array .byte)) (by decide)
   have F_o421_k : Fld Z _ o421 cS "coder" "B" (.int i0) := D (Or.inr (hw _ (mW 25 rfl))) (ty := .byte) (by decide)
   refine s_dup 32 C X d35_31 rfl ?_
   refine s_aloadN 33 C X d35_32 rfl rfl ?_
   refine s_iload 35 C X d35_33 rfl ?_
   have Sw_o421 : Safe Z EL1 vm _ o421 := H_o421
   refine s_callC 38 [.ref bFv, .int i1] [.ref o421] 1 C X d35_35 rfl (mW 173 rfl) (mW 119 rfl) (mW 11 rfl) (mW 120 rfl) (rm_a48 l Z a0 hw bFv o421 _ n0 X.sz E_o421 F_o421_a F_o421_k g_o421) (lenOf pd___BB_V rfl) rfl rfl rfl (fun T v hh X q => ?_)
   obtain ⟨rfl, E_o421, F_o421_a, F_o421_k, Kc⟩ := q
   have Hs : ∀ x ∈ [o421], Safe Z EL1 vm _ x := (soS Sw_o421 so0)
   have Rc := Rc.keep Kc Hs
   have Kp := Kp.trans Kc (allS (Or.inr sz_o421) all0)
   have Od := Od.keep Kc (allS g_o421 all0)
   have A_bFv := A_bFv.keep Kc (ninS ne_bFv_o421 nin0)
   refine rc (st' := [.ref o421]) rfl ?_
   refine s_areturn C X d35_38 rfl rfl rfl ?_ (FGH hG hS Rc C (own_EL hw))
   obtain ⟨rFu, e_rFu⟩ : ∃ z : Addr, z = o421 := ⟨_, rfl⟩
   obtain ⟨bFu, e_bFu⟩ : ∃ z : Addr, z = bFv := ⟨_, rfl⟩
   obtain ⟨k_bFu, e_k⟩ : ∃ z : ClassId, z = k_bFv := ⟨_, rfl⟩
   obtain ⟨kFu, e_kFu⟩ : ∃ z : Int32, z = i1 := ⟨_, rfl⟩
   obtain ⟨zFu, e_zFu⟩ : ∃ z : Int32, z = zFv := ⟨_, rfl⟩
   obtain ⟨zsFu, e_zsFu⟩ : ∃ z : List Int32, z = zsFv := ⟨_, rfl⟩
   show Q' (some (.ref o421)) _
   rw [← e_rFu]
   have E_rFu : Exa Z hh rFu cS := by rw [e_rFu]; exact E_o421
   have F_rFu_k : Fld Z hh rFu cS "coder" "B" (.int kFu) := by rw [e_rFu, e_kFu]; exact F_o421_k
   have F_rFu_a : Fld Z hh rFu cS "value" "[B" (.ref bFu) := by rw [e_rFu, e_bFu]; exact F_o421_a
   have A_bFu : Arv Z hh bFu k_bFu .byte zFu (Y zsFu) (.int i0) := by rw [e_bFu, e_k, e_zFu, e_zsFu]; exact A_bFv
   have hvR : own_T (sl xs sv317.toNatClampNeg lv328.toNatClampNeg) kFu zFu zsFu := by rw [e_kFu, e_zFu, e_zsFu]; exact hvR
   exact hQ _ _ ⟨bFu, kFu, k_bFu, rFu, zFu, zsFu, rfl, hvR, Kp, Od, E_rFu, F_rFu_k, F_rFu_a, A_bFu⟩
 have t_c1_357 : (lv328).toInt = (0 : Int) := congrArg Int32.toInt c1_357
 refine s_ldcwH 7 C X hS Rc.2 (own_EL hw) Rc.1.1 d35_4 (mW 175 rfl) (own_wS hw) (by decide) (fun T hh t423 b424 k_b424 vm k1 C X E hS Nk Rn E_t423 F_t423_k F_t423_a A_b424 nS => ?_)
 have Rc := Rc.call Rn Nk
 have Od := Od.ext E
 have Kp := Kp.ext E
 refine s_areturn C X d35_7 rfl rfl rfl ?_ (FGH hG hS Rc C (own_EL hw))
 obtain ⟨rFu, e_rFu⟩ : ∃ z : Addr, z = t423 := ⟨_, rfl⟩
 obtain ⟨bFu, e_bFu⟩ : ∃ z : Addr, z = b424 := ⟨_, rfl⟩
 obtain ⟨k_bFu, e_k⟩ : ∃ z : ClassId, z = k_b424 := ⟨_, rfl⟩
 obtain ⟨kFu, e_kFu⟩ : ∃ z : Int32, z = i0 := ⟨_, rfl⟩
 obtain ⟨zFu, e_zFu⟩ : ∃ z : Int32, z = i0 := ⟨_, rfl⟩
 obtain ⟨zsFu, e_zsFu⟩ : ∃ z : List Int32, z = [] := ⟨_, rfl⟩
 show Q' (some (.ref t423)) _
 rw [← e_rFu]
 have E_rFu : Exa Z hh rFu cS := by rw [e_rFu]; exact E_t423
 have F_rFu_k : Fld Z hh rFu cS "coder" "B" (.int kFu) := by rw [e_rFu, e_kFu]; exact F_t423_k
 have F_rFu_a : Fld Z hh rFu cS "value" "[B" (.ref bFu) := by rw [e_rFu, e_bFu]; exact F_t423_a
 have A_bFu : Arv Z hh bFu k_bFu .byte zFu (Y zsFu) (.int i0) := by rw [e_bFu, e_k, e_zFu, e_zsFu]; exact A_b424
 have hvR : own_T (sl xs sv317.toNatClampNeg lv328.toNatClampNeg) kFu zFu zsFu := by rw [e_kFu, e_zFu, e_zsFu]; exact own_tE t_c1_357
 exact hQ _ _ ⟨bFu, kFu, k_bFu, rFu, zFu, zsFu, rfl, hvR, Kp, Od, E_rFu, F_rFu_k, F_rFu_a, A_bFu⟩
theorem rm_a50 (hw : Hw a0 Z) (cs : Int32) (fm : Value) (o24 : Addr) (bF : Addr) (kF : Int32) (k_bF : ClassId) (zF : Int32) (zsF : List Int32) (xs : List Int32) (ev316 : Int32) (sv317 : Int32) (h0 : Heap) (n0 : Nat) (Z0 : n0 ≤ h0.size) (S_cs : Sta Z Z.heap cS cC "Z" (.int cs)) (S_fm : Sta Z Z.heap cP cM cF fm) (S_ad : Sta Z Z.heap cU "$assertionsDisabled" "Z" (.int i1)) (S_hi : Sta Z Z.heap cU "HI_BYTE_SHIFT" "I" (.int i0)) (S_lo : Sta Z Z.heap cU "LO_BYTE_SHIFT" "I" (.int i8)) (E_o24 : Exa Z h0 o24 cS) (F_o24_a : Fld Z h0 o24 cS "value" "[B" (.ref bF)) (F_o24_k : Fld Z h0 o24 cS "coder" "B" (.int kF)) (A_bF : Arv Z h0 bF k_bF .byte zF (Y zsF) (.int i0)) (Od : Old Z n0 h0) (hv_cs : ¬ cs = i0) (hv_fm : fm.isRef = true) (hvS : own_T xs kF zF zsF) (hvse : own_se xs sv317 ev316) :
  MetH l Z EL1 [] (⟨cS, "substring", "(II)Ljava/lang/String;"⟩ : MethodName) jdk_42_method_92_code 5 (some (.object cS)) (rM 6 3 16 103) [] #[.ref o24, .int sv317, .int ev316] h0 n0 (fun v h => ∃ (bFq : Addr) (kFq : Int32) (k_bFq : ClassId) (lFq : Int32) (rFq : Addr) (zFq : Int32) (zsFq : List Int32), v = some (.ref rFq) ∧ lFq.toInt = ev316.toInt - sv317.toInt ∧ own_T (sl xs sv317.toNatClampNeg lFq.toNatClampNeg) kFq zFq zsFq ∧ Keep h0 h [] ∧ Old Z n0 h ∧ Exa Z h rFq cS ∧ Fld Z h rFq cS "coder" "B" (.int kFq) ∧ Fld Z h rFq cS "value" "[B" (.ref bFq) ∧ Arv Z h bFq k_bFq .byte zFq (Y zsFq) (.int i0)) := by
 refine MetH.mkQ (tabs := tables_1) (a0 := a0) (ls0 := #[rv o24, iv sv317, iv ev316, un, un]) (plainFor_of_name pn_java_lang_String) hw Z0 (fun m => by first | (simp [entryFrame, mkF, argsToLocals, Value.category]; done) | rfl) ?_
 intro p e s m below meth c T Q' G' vm k1 hQ hG C X hS Rc hso
 have Kp : Keep h0 h0 [] := Keep.refl _ _
 refine s_aloadN 1 C X d8_0 rfl rfl ?_
 refine s_callV 4 [] [] 0 C X d8_1 (mW 50 rfl) (mW 35 rfl) (nF C (mW 37 rfl)) (mW 37 rfl) (mW 36 rfl) (mW 11 rfl) (mW 38 rfl) E_o24 (rm_a20 l Z a0 hw cs o24 bF kF k_bF zF zsF xs _ n0 X.sz S_cs E_o24 F_o24_a F_o24_k Od A_bF hv_cs hvS) (lenOf pd___I rfl) rfl rfl rfl (fun T v hh X q => ?_)
 obtain ⟨rfl, Kc, Od⟩ := q
 have Rc := Rc.keep Kc so0
 have E_o24 := E_o24.keep Kc
 have F_o24_a := F_o24_a.keep Kc nin0
 have F_o24_k := F_o24_k.keep Kc nin0
 have A_bF := A_bF.keep Kc nin0
 have Kp := Kp.trans Kc all0
 refine rc (st' := [(.int (zF >>> (kF &&& 31)))]) rfl ?_
 obtain ⟨ln321, e_ln321⟩ : ∃ zz_ : Int32, zz_ = (zF >>> (kF &&& 31)) := ⟨_, rfl⟩
 refine rc (st' := [.int ln321]) (by subst e_ln321; rfl) ?_
 have hvln : ln321.toInt = xs.length := by rw [e_ln321]; exact own_lenT hvS
 refine s_istoreN 5 C X (l' := #[rv o24, iv sv317, iv ev316, iv ln321, un]) d8_4 rfl ?_
 refine s_iloadN 6 C X d8_5 rfl ?_
 refine s_iloadN 7 C X d8_6 rfl ?_
 refine s_iloadN 8 C X d8_7 rfl ?_
 refine s_callS 11 [.int sv317, .int ev316, .int ln321] [] 0 C X d8_8 (mW 51 rfl) (mW 52 rfl) (mW 11 rfl) (mW 53 rfl) (rm_a33 l Z a0 hw fm xs ev316 sv317 ln321 _ n0 X.sz S_fm Od hv_fm hvse hvln) (lenOf pd__III_V rfl) rfl rfl rfl (fun T v hh X q => ?_)
 obtain ⟨rfl, Od, Kc⟩ := q
 have Rc := Rc.keep Kc so0
 have E_o24 := E_o24.keep Kc
 have F_o24_a := F_o24_a.keep Kc nin0
 have F_o24_k := F_o24_k.keep Kc nin0
 have A_bF := A_bF.keep Kc nin0
 have Kp := Kp.trans Kc all0
 refine rc (st' := []) rfl ?_
 refine s_iloadN 12 C X d8_11 rfl ?_
 refine s_if_ne 22 15 C X d8_12 (fun c12_327 => ?_) (fun c12_327 => ?_)
 ·have t_c12_327 : ¬ ((sv317).toInt = (0 : Int)) := fun q => c12_327 (Int32.toInt_inj.mp q)
  refine s_iloadN 23 C X d8_22 rfl ?_
  refine s_iloadN 24 C X d8_23 rfl ?_
  refine s_isub 25 C X d8_24 ?_
  obtain ⟨lv328, e_lv328⟩ : ∃ zz_ : Int32, zz_ = (ev316 - sv317) := ⟨_, rfl⟩
  refine rc (st' := [.int lv328]) (by subst e_lv328; rfl) ?_
  have hvsl : own_sl xs sv317 lv328 := own_slN hvse hvS.1 e_lv328 (fun q => t_c12_327 q.1)
  have hvle : lv328.toInt = ev316.toInt - sv317.toInt := own_slE hvse hvS.1 e_lv328
  refine s_istore 27 C X (l' := #[rv o24, iv sv317, iv ev316, iv ln321, iv lv328]) d8_25 rfl ?_
  refine s_aloadN 28 C X d8_27 rfl rfl ?_
  refine s_callV 31 [] [] 0 C X d8_28 (mW 78 rfl) (mW 79 rfl) (nF C (mW 81 rfl)) (mW 81 rfl) (mW 80 rfl) (mW 11 rfl) (mW 82 rfl) E_o24 (rm_a21 l Z a0 hw cs o24 kF _ n0 X.sz S_cs F_o24_k Od hv_cs) (lenOf pd___Z rfl) rfl rfl rfl (fun T v hh X q => ?_)
  obtain ⟨rfl, q190, Od, Kc⟩ | ⟨rfl, q191, Od, Kc⟩ := q
  ·have Rc := Rc.keep Kc so0
   have F_o24_a := F_o24_a.keep Kc nin0
   have A_bF := A_bF.keep Kc nin0
   have Kp := Kp.trans Kc all0
   refine rc (st' := [.int i1]) rfl ?_
   refine s_if_eq 47 34 C X d8_31 (fun c => absurd c (by decide)) (fun _ => ?_)
   have hvk : kF = i0 := own_k0 q190
   refine s_aloadN 35 C X d8_34 rfl rfl ?_
   refine s_getfield 38 C X (host := "") d8_35 (Or.inl (mW 28 rfl)) Via.refl F_o24_a (fun T X => ?_)
   refine s_iloadN 39 C X d8_38 rfl ?_
   refine s_iload 41 C X d8_39 rfl ?_
   refine s_hcallS 44 [.ref bF, .int sv317, .int lv328] [] 0 C X hS Rc.2 (own_EL hw) Rc.1.1 d8_41 (mW 96 rfl) (mW 97 rfl) (mW 85 rfl) (mW 98 rfl) (rm_a39 l Z a0 hw bF kF k_bF zF zsF xs sv317 lv328 _ n0 X.sz A_bF hvS hvsl hvk) (lenOf pd___BII_Ljava_lang_String_ rfl) rfl rfl rfl so0 (fun T v hh vm k1 C X hS Nk Rn q => ?_)
   obtain ⟨bFp, kFp, k_bFp, rFp, zFp, zsFp, rfl, hvR, Kc, E_rFp, F_rFp_k, F_rFp_a, A_bFp⟩ := q
   have Rc := Rc.call Rn Nk
   have Kp := Kp.trans Kc all0
   have Od := Od.keep Kc all0
   refine rc (st' := [.ref rFp]) rfl ?_
   refine s_goto 57 C X d8_44 ?_
   refine s_areturn C X d8_57 rfl rfl rfl ?_ (FGH hG hS Rc C (own_EL hw))
   obtain ⟨rFq, e_rFq⟩ : ∃ z : Addr, z = rFp := ⟨_, rfl⟩
   obtain ⟨bFq, e_bFq⟩ : ∃ z : Addr, z = bFp := ⟨_, rfl⟩
   obtain ⟨k_bFq, e_k⟩ : ∃ z : ClassId, z = k_bFp := ⟨_, rfl⟩
   obtain ⟨kFq, e_kFq⟩ : ∃ z : Int32, z = kFp := ⟨_, rfl⟩
   obtain ⟨zFq, e_zFq⟩ : ∃ z : Int32, z = zFp := ⟨_, rfl⟩
   obtain ⟨zsFq, e_zsFq⟩ : ∃ z : List Int32, z = zsFp := ⟨_, rfl⟩
   show Q' (some (.ref rFp)) _
   rw [← e_rFq]
   obtain ⟨lFq, e_lFq⟩ : ∃ z : Int32, z = lv328 := ⟨_, rfl⟩
   have E_rFq : Exa Z hh rFq cS := by rw [e_rFq]; exact E_rFp
   have F_rFq_k : Fld Z hh rFq cS "coder" "B" (.int kFq) := by rw [e_rFq, e_kFq]; exact F_rFp_k
   have F_rFq_a : Fld Z hh rFq cS "value" "[B" (.ref bFq) := by rw [e_rFq, e_bFq]; exact F_rFp_a
   have A_bFq : Arv Z hh bFq k_bFq .byte zFq (Y zsFq) (.int i0) := by rw [e_bFq, e_k, e_zFq, e_zsFq]; exact A_bFp
   have hvR : own_T (sl xs sv317.toNatClampNeg lFq.toNatClampNeg) kFq zFq zsFq := by rw [e_kFq, e_zFq, e_zsFq, e_lFq]; exact hvR
   have hvle : lFq.toInt = ev316.toInt - sv317.toInt := (by rw [e_lFq]; exact hvle)
   exact hQ _ _ ⟨bFq, kFq, k_bFq, lFq, rFq, zFq, zsFq, rfl, hvle, hvR, Kp, Od, E_rFq, F_rFq_k, F_rFq_a, A_bFq⟩
  ·have Rc := Rc.keep Kc so0
   have F_o24_a := F_o24_a.keep Kc nin0
   have A_bF := A_bF.keep Kc nin0
   have Kp := Kp.trans Kc all0
   refine rc (st' := [.int i0]) rfl ?_
   refine s_if_eq 47 34 C X d8_31 (fun _ => ?_) (fun c => absurd (by decide : i0 = i0) c)
   have hvk : ¬ kF = i0 := own_kn q191
   refine s_aloadN 48 C X d8_47 rfl rfl ?_
   refine s_getfield 51 C X (host := "") d8_48 (Or.inl (mW 28 rfl)) Via.refl F_o24_a (fun T X => ?_)
   refine s_iloadN 52 C X d8_51 rfl ?_
   refine s_iload 54 C X d8_52 rfl ?_
   refine s_hcallS 57 [.ref bF, .int sv317, .int lv328] [] 0 C X hS Rc.2 (own_EL hw) Rc.1.1 d8_54 (mW 151 rfl) (mW 152 rfl) (mW 62 rfl) (mW 153 rfl) (rm_a49 l Z a0 hw cs fm bF kF k_bF zF zsF xs sv317 lv328 _ n0 X.sz S_cs S_fm S_ad S_hi S_lo A_bF Od hv_cs hv_fm hvS hvsl hvk) (lenOf pd___BII_Ljava_lang_String_ rfl) rfl rfl rfl so0 (fun T v hh vm k1 C X hS Nk Rn q => ?_)
   obtain ⟨bFu, kFu, k_bFu, rFu, zFu, zsFu, rfl, hvR, Kc, Od, E_rFu, F_rFu_k, F_rFu_a, A_bFu⟩ := q
   have Rc := Rc.call Rn Nk
   have Kp := Kp.trans Kc all0
   refine rc (st' := [.ref rFu]) rfl ?_
   refine s_areturn C X d8_57 rfl rfl rfl ?_ (FGH hG hS Rc C (own_EL hw))
   obtain ⟨rFq, e_rFq⟩ : ∃ z : Addr, z = rFu := ⟨_, rfl⟩
   obtain ⟨bFq, e_bFq⟩ : ∃ z : Addr, z = bFu := ⟨_, rfl⟩
   obtain ⟨k_bFq, e_k⟩ : ∃ z : ClassId, z = k_bFu := ⟨_, rfl⟩
   obtain ⟨kFq, e_kFq⟩ : ∃ z : Int32, z = kFu := ⟨_, rfl⟩
   obtain ⟨zFq, e_zFq⟩ : ∃ z : Int32, z = zFu := ⟨_, rfl⟩
   obtain ⟨zsFq, e_zsFq⟩ : ∃ z : List Int32, z = zsFu := ⟨_, rfl⟩
   show Q' (some (.ref rFu)) _
   rw [← e_rFq]
   obtain ⟨lFq, e_lFq⟩ : ∃ z : Int32, z = lv328 := ⟨_, rfl⟩
   have E_rFq : Exa Z hh rFq cS := by rw [e_rFq]; exact E_rFu
   have F_rFq_k : Fld Z hh rFq cS "coder" "B" (.int kFq) := by rw [e_rFq, e_kFq]; exact F_rFu_k
   have F_rFq_a : Fld Z hh rFq cS "value" "[B" (.ref bFq) := by rw [e_rFq, e_bFq]; exact F_rFu_a
   have A_bFq : Arv Z hh bFq k_bFq .byte zFq (Y zsFq) (.int i0) := by rw [e_bFq, e_k, e_zFq, e_zsFq]; exact A_bFu
   have hvR : own_T (sl xs sv317.toNatClampNeg lFq.toNatClampNeg) kFq zFq zsFq := by rw [e_kFq, e_zFq, e_zsFq, e_lFq]; exact hvR
   have hvle : lFq.toInt = ev316.toInt - sv317.toInt := (by rw [e_lFq]; exact hvle)
   exact hQ _ _ ⟨bFq, kFq, k_bFq, lFq, rFq, zFq, zsFq, rfl, hvle, hvR, Kp, Od, E_rFq, F_rFq_k, F_rFq_a, A_bFq⟩
 have t_c12_327 : (sv317).toInt = (0 : Int) := congrArg Int32.toInt c12_327
 refine s_iloadN 16 C X d8_15 rfl ?_
 refine s_iloadN 17 C X d8_16 rfl ?_
 refine s_icmp_ne 22 20 C X d8_17 (fun c17_426 => ?_) (fun c17_426 => ?_)
 ·have t_c17_426 : ¬ ((ev316).toInt = (ln321).toInt) := fun q => c17_426 (Int32.toInt_inj.mp q)
  refine s_iloadN 23 C X d8_22 rfl ?_
  refine s_iloadN 24 C X d8_23 rfl ?_
  refine s_isub 25 C X d8_24 ?_
  obtain ⟨lv427, e_lv427⟩ : ∃ zz_ : Int32, zz_ = (ev316 - sv317) := ⟨_, rfl⟩
  refine rc (st' := [.int lv427]) (by subst e_lv427; rfl) ?_
  have hvsl : own_sl xs sv317 lv427 := own_slN hvse hvS.1 e_lv427 (fun q => t_c17_426 (q.2.trans hvln.symm))
  have hvle : lv427.toInt = ev316.toInt - sv317.toInt := own_slE hvse hvS.1 e_lv427
  refine s_istore 27 C X (l' := #[rv o24, iv sv317, iv ev316, iv ln321, iv lv427]) d8_25 rfl ?_
  refine s_aloadN 28 C X d8_27 rfl rfl ?_
  refine s_callV 31 [] [] 0 C X d8_28 (mW 78 rfl) (mW 79 rfl) (nF C (mW 81 rfl)) (mW 81 rfl) (mW 80 rfl) (mW 11 rfl) (mW 82 rfl) E_o24 (rm_a21 l Z a0 hw cs o24 kF _ n0 X.sz S_cs F_o24_k Od hv_cs) (lenOf pd___Z rfl) rfl rfl rfl (fun T v hh X q => ?_)
  obtain ⟨rfl, q190, Od, Kc⟩ | ⟨rfl, q191, Od, Kc⟩ := q
  ·have Rc := Rc.keep Kc so0
   have F_o24_a := F_o24_a.keep Kc nin0
   have A_bF := A_bF.keep Kc nin0
   have Kp := Kp.trans Kc all0
   refine rc (st' := [.int i1]) rfl ?_
   refine s_if_eq 47 34 C X d8_31 (fun c => absurd c (by decide)) (fun _ => ?_)
   have hvk : kF = i0 := own_k0 q190
   refine s_aloadN 35 C X d8_34 rfl rfl ?_
   refine s_getfield 38 C X (host := "") d8_35 (Or.inl (mW 28 rfl)) Via.refl F_o24_a (fun T X => ?_)
   refine s_iloadN 39 C X d8_38 rfl ?_
   refine s_iload 41 C X d8_39 rfl ?_
   refine s_hcallS 44 [.ref bF, .int sv317, .int lv427] [] 0 C X hS Rc.2 (own_EL hw) Rc.1.1 d8_41 (mW 96 rfl) (mW 97 rfl) (mW 85 rfl) (mW 98 rfl) (rm_a39 l Z a0 hw bF kF k_bF zF zsF xs sv317 lv427 _ n0 X.sz A_bF hvS hvsl hvk) (lenOf pd___BII_Ljava_lang_String_ rfl) rfl rfl rfl so0 (fun T v hh vm k1 C X hS Nk Rn q => ?_)
   obtain ⟨bFp, kFp, k_bFp, rFp, zFp, zsFp, rfl, hvR, Kc, E_rFp, F_rFp_k, F_rFp_a, A_bFp⟩ := q
   have Rc := Rc.call Rn Nk
   have Kp := Kp.trans Kc all0
   have Od := Od.keep Kc all0
   refine rc (st' := [.ref rFp]) rfl ?_
   refine s_goto 57 C X d8_44 ?_
   refine s_areturn C X d8_57 rfl rfl rfl ?_ (FGH hG hS Rc C (own_EL hw))
   obtain ⟨rFq, e_rFq⟩ : ∃ z : Addr, z = rFp := ⟨_, rfl⟩
   obtain ⟨bFq, e_bFq⟩ : ∃ z : Addr, z = bFp := ⟨_, rfl⟩
   obtain ⟨k_bFq, e_k⟩ : ∃ z : ClassId, z = k_bFp := ⟨_, rfl⟩
   obtain ⟨kFq, e_kFq⟩ : ∃ z : Int32, z = kFp := ⟨_, rfl⟩
   obtain ⟨zFq, e_zFq⟩ : ∃ z : Int32, z = zFp := ⟨_, rfl⟩
   obtain ⟨zsFq, e_zsFq⟩ : ∃ z : List Int32, z = zsFp := ⟨_, rfl⟩
   show Q' (some (.ref rFp)) _
   rw [← e_rFq]
   obtain ⟨lFq, e_lFq⟩ : ∃ z : Int32, z = lv427 := ⟨_, rfl⟩
   have E_rFq : Exa Z hh rFq cS := by rw [e_rFq]; exact E_rFp
   have F_rFq_k : Fld Z hh rFq cS "coder" "B" (.int kFq) := by rw [e_rFq, e_kFq]; exact F_rFp_k
   have F_rFq_a : Fld Z hh rFq cS "value" "[B" (.ref bFq) := by rw [e_rFq, e_bFq]; exact F_rFp_a
   have A_bFq : Arv Z hh bFq k_bFq .byte zFq (Y zsFq) (.int i0) := by rw [e_bFq, e_k, e_zFq, e_zsFq]; exact A_bFp
   have hvR : own_T (sl xs sv317.toNatClampNeg lFq.toNatClampNeg) kFq zFq zsFq := by rw [e_kFq, e_zFq, e_zsFq, e_lFq]; exact hvR
   have hvle : lFq.toInt = ev316.toInt - sv317.toInt := (by rw [e_lFq]; exact hvle)
   exact hQ _ _ ⟨bFq, kFq, k_bFq, lFq, rFq, zFq, zsFq, rfl, hvle, hvR, Kp, Od, E_rFq, F_rFq_k, F_rFq_a, A_bFq⟩
  ·have Rc := Rc.keep Kc so0
   have F_o24_a := F_o24_a.keep Kc nin0
   have A_bF := A_bF.keep Kc nin0
   have Kp := Kp.trans Kc all0
   refine rc (st' := [.int i0]) rfl ?_
   refine s_if_eq 47 34 C X d8_31 (fun _ => ?_) (fun c => absurd (by decide : i0 = i0) c)
   have hvk : ¬ kF = i0 := own_kn q191
   refine s_aloadN 48 C X d8_47 rfl rfl ?_
   refine s_getfield 51 C X (host := "") d8_48 (Or.inl (mW 28 rfl)) Via.refl F_o24_a (fun T X => ?_)
   refine s_iloadN 52 C X d8_51 rfl ?_
   refine s_iload 54 C X d8_52 rfl ?_
   refine s_hcallS 57 [.ref bF, .int sv317, .int lv427] [] 0 C X hS Rc.2 (own_EL hw) Rc.1.1 d8_54 (mW 151 rfl) (mW 152 rfl) (mW 62 rfl) (mW 153 rfl) (rm_a49 l Z a0 hw cs fm bF kF k_bF zF zsF xs sv317 lv427 _ n0 X.sz S_cs S_fm S_ad S_hi S_lo A_bF Od hv_cs hv_fm hvS hvsl hvk) (lenOf pd___BII_Ljava_lang_String_ rfl) rfl rfl rfl so0 (fun T v hh vm k1 C X hS Nk Rn q => ?_)
   obtain ⟨bFu, kFu, k_bFu, rFu, zFu, zsFu, rfl, hvR, Kc, Od, E_rFu, F_rFu_k, F_rFu_a, A_bFu⟩ := q
   have Rc := Rc.call Rn Nk
   have Kp := Kp.trans Kc all0
   refine rc (st' := [.ref rFu]) rfl ?_
   refine s_areturn C X d8_57 rfl rfl rfl ?_ (FGH hG hS Rc C (own_EL hw))
   obtain ⟨rFq, e_rFq⟩ : ∃ z : Addr, z = rFu := ⟨_, rfl⟩
   obtain ⟨bFq, e_bFq⟩ : ∃ z : Addr, z = bFu := ⟨_, rfl⟩
   obtain ⟨k_bFq, e_k⟩ : ∃ z : ClassId, z = k_bFu := ⟨_, rfl⟩
   obtain ⟨kFq, e_kFq⟩ : ∃ z : Int32, z = kFu := ⟨_, rfl⟩
   obtain ⟨zFq, e_zFq⟩ : ∃ z : Int32, z = zFu := ⟨_, rfl⟩
   obtain ⟨zsFq, e_zsFq⟩ : ∃ z : List Int32, z = zsFu := ⟨_, rfl⟩
   show Q' (some (.ref rFu)) _
   rw [← e_rFq]
   obtain ⟨lFq, e_lFq⟩ : ∃ z : Int32, z = lv427 := ⟨_, rfl⟩
   have E_rFq : Exa Z hh rFq cS := by rw [e_rFq]; exact E_rFu
   have F_rFq_k : Fld Z hh rFq cS "coder" "B" (.int kFq) := by rw [e_rFq, e_kFq]; exact F_rFu_k
   have F_rFq_a : Fld Z hh rFq cS "value" "[B" (.ref bFq) := by rw [e_rFq, e_bFq]; exact F_rFu_a
   have A_bFq : Arv Z hh bFq k_bFq .byte zFq (Y zsFq) (.int i0) := by rw [e_bFq, e_k, e_zFq, e_zsFq]; exact A_bFu
   have hvR : own_T (sl xs sv317.toNatClampNeg lFq.toNatClampNeg) kFq zFq zsFq := by rw [e_kFq, e_zFq, e_zsFq, e_lFq]; exact hvR
   have hvle : lFq.toInt = ev316.toInt - sv317.toInt := (by rw [e_lFq]; exact hvle)
   exact hQ _ _ ⟨bFq, kFq, k_bFq, lFq, rFq, zFq, zsFq, rfl, hvle, hvR, Kp, Od, E_rFq, F_rFq_k, F_rFq_a, A_bFq⟩
 have t_c17_426 : (ev316).toInt = (ln321).toInt := congrArg Int32.toInt c17_426
 refine s_aloadN 21 C X d8_20 rfl rfl ?_
 refine s_areturn C X d8_21 rfl rfl rfl ?_ (FGH hG hS Rc C (own_EL hw))
 obtain ⟨lv, e_lv⟩ : ∃ z : Int32, z = ev316 := ⟨_, rfl⟩
 obtain ⟨rFq, e_rFq⟩ : ∃ z : Addr, z = o24 := ⟨_, rfl⟩
 obtain ⟨bFq, e_bFq⟩ : ∃ z : Addr, z = bF := ⟨_, rfl⟩
 obtain ⟨k_bFq, e_k⟩ : ∃ z : ClassId, z = k_bF := ⟨_, rfl⟩
 obtain ⟨kFq, e_kFq⟩ : ∃ z : Int32, z = kF := ⟨_, rfl⟩
 obtain ⟨zFq, e_zFq⟩ : ∃ z : Int32, z = zF := ⟨_, rfl⟩
 obtain ⟨zsFq, e_zsFq⟩ : ∃ z : List Int32, z = zsF := ⟨_, rfl⟩
 show Q' (some (.ref o24)) _
 rw [← e_rFq]
 obtain ⟨lFq, e_lFq⟩ : ∃ z : Int32, z = lv := ⟨_, rfl⟩
 have E_rFq : Exa Z hh rFq cS := by rw [e_rFq]; exact E_o24
 have F_rFq_k : Fld Z hh rFq cS "coder" "B" (.int kFq) := by rw [e_rFq, e_kFq]; exact F_o24_k
 have F_rFq_a : Fld Z hh rFq cS "value" "[B" (.ref bFq) := by rw [e_rFq, e_bFq]; exact F_o24_a
 have A_bFq : Arv Z hh bFq k_bFq .byte zFq (Y zsFq) (.int i0) := by rw [e_bFq, e_k, e_zFq, e_zsFq]; exact A_bF
 have hvR : own_T (sl xs sv317.toNatClampNeg lFq.toNatClampNeg) kFq zFq zsFq := by rw [e_kFq, e_zFq, e_zsFq, e_lFq]; exact own_tW hvS t_c12_327 (by rw [e_lv]; exact t_c17_426.trans hvln)
 have hvle : lFq.toInt = ev316.toInt - sv317.toInt := (by rw [e_lFq]; exact (show lv.toInt = ev316.toInt - sv317.toInt from by rw [e_lv]; have := t_c12_327; omega))
 exact hQ _ _ ⟨bFq, kFq, k_bFq, lFq, rFq, zFq, zsFq, rfl, hvle, hvR, Kp, Od, E_rFq, F_rFq_k, F_rFq_a, A_bFq⟩
theorem rm_a51 (hw : Hw a0 Z) (cs : Int32) (fm : Value) (o24 : Addr) (bF : Addr) (kF : Int32) (k_bF : ClassId) (zF : Int32) (zsF : List Int32) (xs : List Int32) (h0 : Heap) (n0 : Nat) (Z0 : n0 ≤ h0.size) (S_cs : Sta Z Z.heap cS cC "Z" (.int cs)) (S_fm : Sta Z Z.heap cP cM cF fm) (S_ad : Sta Z Z.heap cU "$assertionsDisabled" "Z" (.int i1)) (S_hi : Sta Z Z.heap cU "HI_BYTE_SHIFT" "I" (.int i0)) (S_lo : Sta Z Z.heap cU "LO_BYTE_SHIFT" "I" (.int i8)) (E_o24 : Exa Z h0 o24 cS) (F_o24_a : Fld Z h0 o24 cS "value" "[B" (.ref bF)) (F_o24_k : Fld Z h0 o24 cS "coder" "B" (.int kF)) (Od : Old Z n0 h0) (A_bF : Arv Z h0 bF k_bF .byte zF (Y zsF) (.int i0)) (hv_cs : ¬ cs = i0) (hv_fm : fm.isRef = true) (hvS : own_T xs kF zF zsF) (hvL : xs.length = 4) :
  MetH l Z EL1 [] (⟨"com/example/tinsel_tally/tinseltally/Blanks", "strip", "(Ljava/lang/String;)Ljava/lang/String;"⟩ : MethodName) prog_3_method_2_code 3 (some (.object cS)) (rM 7 3 16 119) [] #[.ref o24] h0 n0 (fun v h => ∃ (bFq : Addr) (eFt : Int32) (kFq : Int32) (k_bFq : ClassId) (lFq : Int32) (rFq : Addr) (sFt : Int32) (zFq : Int32) (zsFq : List Int32), v = some (.ref rFq) ∧ own_S xs sFt eFt ∧ lFq.toInt = eFt.toInt - sFt.toInt ∧ own_T (sl xs sFt.toNatClampNeg lFq.toNatClampNeg) kFq zFq zsFq ∧ Keep h0 h [] ∧ Old Z n0 h ∧ Exa Z h rFq cS ∧ Fld Z h rFq cS "coder" "B" (.int kFq) ∧ Fld Z h rFq cS "value" "[B" (.ref bFq) ∧ Arv Z h bFq k_bFq .byte zFq (Y zsFq) (.int i0)) := by
 refine MetH.mkQ (tabs := tables_1) (a0 := a0) (ls0 := #[rv o24, un, un]) (plainFor_of_name pn_com_example_tinsel_tally_tinseltally_Blanks) hw Z0 (fun m => by first | (simp [entryFrame, mkF, argsToLocals, Value.category]; done) | rfl) ?_
 intro p e s m below meth c T Q' G' vm k1 hQ hG C X hS Rc hso
 have Kp : Keep h0 h0 [] := Keep.refl _ _
 refine s_iconst 1 C X d5_0 kc_iconst_0 ?_
 refine s_istoreN 2 C X (l' := #[rv o24, iv i0, un]) d5_1 rfl ?_
 refine s_iloadN 3 C X d5_2 rfl ?_
 refine s_aloadN 4 C X d5_3 rfl rfl ?_
 refine s_callV 7 [] [.int i0] 1 C X d5_4 (mW 34 rfl) (mW 35 rfl) (nF C (mW 37 rfl)) (mW 37 rfl) (mW 36 rfl) (mW 11 rfl) (mW 38 rfl) E_o24 (rm_a20 l Z a0 hw cs o24 bF kF k_bF zF zsF xs _ n0 X.sz S_cs E_o24 F_o24_a F_o24_k Od A_bF hv_cs hvS) (lenOf pd___I rfl) rfl rfl rfl (fun T v hh X q => ?_)
 obtain ⟨rfl, Kc, Od⟩ := q
 have Rc := Rc.keep Kc so0
 have E_o24 := E_o24.keep Kc
 have F_o24_a := F_o24_a.keep Kc nin0
 have F_o24_k := F_o24_k.keep Kc nin0
 have A_bF := A_bF.keep Kc nin0
 have Kp := Kp.trans Kc all0
 refine rc (st' := [(.int (zF >>> (kF &&& 31))), .int i0]) rfl ?_
 refine rc (st' := [.int i4, .int i0]) (by rw [own_lenN hvS hvL (L := i4) (by decide)]) ?_
 refine s_icmp_ge 27 10 C X d5_7 (fun c => absurd (by decide : i0 < i4) c) (fun _ => ?_)
 refine s_aloadN 11 C X d5_10 rfl rfl ?_
 refine s_iloadN 12 C X d5_11 rfl ?_
 obtain ⟨ix184, e_ix184⟩ : ∃ zz_ : Int32, zz_ = i0 := ⟨_, rfl⟩
 refine rc (st' := [.int ix184, .ref o24]) (by subst e_ix184; rfl) ?_
 have hvx_ix184 : own_ix xs ix184 := by rw [e_ix184]; exact ⟨by decide, by rw [hvL]; decide⟩
 refine s_callV 15 [.int ix184] [] 0 C X d5_12 (mW 73 rfl) (mW 74 rfl) (nF C (mW 76 rfl)) (mW 76 rfl) (mW 75 rfl) (mW 11 rfl) (mW 77 rfl) E_o24 (rm_a31 l Z a0 hw cs fm o24 bF kF k_bF zF zsF xs ix184 _ n0 X.sz S_cs S_fm S_ad S_hi S_lo E_o24 F_o24_a F_o24_k A_bF Od hv_cs hv_fm hvS hvx_ix184) (lenOf pd__I_C rfl) rfl rfl rfl (fun T v hh X q => ?_)
 obtain ⟨rfl, Kc, Od⟩ := q
 have Rc := Rc.keep Kc so0
 have E_o24 := E_o24.keep Kc
 have F_o24_a := F_o24_a.keep Kc nin0
 have F_o24_k := F_o24_k.keep Kc nin0
 have A_bF := A_bF.keep Kc nin0
 have Kp := Kp.trans Kc all0
 refine rc (st' := [(.int (xs.getD (ix184).toNatClampNeg 0))]) rfl ?_
 refine rc (st' := [(.int (xs.getD 0 0))]) (by rw [show (xs.getD (ix184).toNatClampNeg 0) = (xs.getD 0 0) from by rw [e_ix184]; rfl]) ?_
 refine s_callS 18 [(.int (xs.getD 0 0))] [] 0 C X d5_15 (mW 93 rfl) (mW 94 rfl) (mW 32 rfl) (mW 95 rfl) (rm_isBlank l Z a0 hw ((xs.getD 0 0)) _ n0 X.sz) (lenOf pd__C_Z rfl) rfl rfl rfl (fun T v h2 X q => ?_)
 obtain ⟨⟨rfl, b210⟩ | ⟨rfl, b210⟩, hE⟩ := q
 ·rw [hE] at X
  refine rc (st' := [.int i1]) rfl ?_
  refine s_if_eq 27 21 C X d5_18 (fun c => absurd c (by decide)) (fun _ => ?_)
  refine s_iinc 24 C X (l' := #[rv o24, iv i1, un]) d5_21 kc_iconst_1 rfl rfl ?_
  refine s_goto 2 C X d5_24 ?_
  refine s_iloadN 3 C X d5_2 rfl ?_
  refine s_aloadN 4 C X d5_3 rfl rfl ?_
  refine s_callV 7 [] [.int i1] 1 C X d5_4 (mW 34 rfl) (mW 35 rfl) (nF C (mW 37 rfl)) (mW 37 rfl) (mW 36 rfl) (mW 11 rfl) (mW 38 rfl) E_o24 (rm_a20 l Z a0 hw cs o24 bF kF k_bF zF zsF xs _ n0 X.sz S_cs E_o24 F_o24_a F_o24_k Od A_bF hv_cs hvS) (lenOf pd___I rfl) rfl rfl rfl (fun T v hh X q => ?_)
  obtain ⟨rfl, Kc, Od⟩ := q
  have Rc := Rc.keep Kc so0
  have E_o24 := E_o24.keep Kc
  have F_o24_a := F_o24_a.keep Kc nin0
  have F_o24_k := F_o24_k.keep Kc nin0
  have A_bF := A_bF.keep Kc nin0
  have Kp := Kp.trans Kc all0
  refine rc (st' := [(.int (zF >>> (kF &&& 31))), .int i1]) rfl ?_
  refine rc (st' := [.int i4, .int i1]) (by rw [own_lenN hvS hvL (L := i4) (by decide)]) ?_
  refine s_icmp_ge 27 10 C X d5_7 (fun c => absurd (by decide : i1 < i4) c) (fun _ => ?_)
  refine s_aloadN 11 C X d5_10 rfl rfl ?_
  refine s_iloadN 12 C X d5_11 rfl ?_
  obtain ⟨ix216, e_ix216⟩ : ∃ zz_ : Int32, zz_ = i1 := ⟨_, rfl⟩
  refine rc (st' := [.int ix216, .ref o24]) (by subst e_ix216; rfl) ?_
  have hvx_ix216 : own_ix xs ix216 := by rw [e_ix216]; exact ⟨by decide, by rw [hvL]; decide⟩
  refine s_callV 15 [.int ix216] [] 0 C X d5_12 (mW 73 rfl) (mW 74 rfl) (nF C (mW 76 rfl)) (mW 76 rfl) (mW 75 rfl) (mW 11 rfl) (mW 77 rfl) E_o24 (rm_a31 l Z a0 hw cs fm o24 bF kF k_bF zF zsF xs ix216 _ n0 X.sz S_cs S_fm S_ad S_hi S_lo E_o24 F_o24_a F_o24_k A_bF Od hv_cs hv_fm hvS hvx_ix216) (lenOf pd__I_C rfl) rfl rfl rfl (fun T v hh X q => ?_)
  obtain ⟨rfl, Kc, Od⟩ := q
  have Rc := Rc.keep Kc so0
  have E_o24 := E_o24.keep Kc
  have F_o24_a := F_o24_a.keep Kc nin0
  have F_o24_k := F_o24_k.keep Kc nin0
  have A_bF := A_bF.keep Kc nin0
  have Kp := Kp.trans Kc all0
  refine rc (st' := [(.int (xs.getD (ix216).toNatClampNeg 0))]) rfl ?_
  refine rc (st' := [(.int (xs.getD 1 0))]) (by rw [show (xs.getD (ix216).toNatClampNeg 0) = (xs.getD 1 0) from by rw [e_ix216]; rfl]) ?_
  refine s_callS 18 [(.int (xs.getD 1 0))] [] 0 C X d5_15 (mW 93 rfl) (mW 94 rfl) (mW 32 rfl) (mW 95 rfl) (rm_isBlank l Z a0 hw ((xs.getD 1 0)) _ n0 X.sz) (lenOf pd__C_Z rfl) rfl rfl rfl (fun T v h5 X q => ?_)
  obtain ⟨⟨rfl, b242⟩ | ⟨rfl, b242⟩, hE⟩ := q
  ·rw [hE] at X
   refine rc (st' := [.int i1]) rfl ?_
   refine s_if_eq 27 21 C X d5_18 (fun c => absurd c (by decide)) (fun _ => ?_)
   refine s_iinc 24 C X (l' := #[rv o24, iv i2, un]) d5_21 kc_iconst_1 rfl rfl ?_
   refine s_goto 2 C X d5_24 ?_
   refine s_iloadN 3 C X d5_2 rfl ?_
   refine s_aloadN 4 C X d5_3 rfl rfl ?_
   refine s_callV 7 [] [.int i2] 1 C X d5_4 (mW 34 rfl) (mW 35 rfl) (nF C (mW 37 rfl)) (mW 37 rfl) (mW 36 rfl) (mW 11 rfl) (mW 38 rfl) E_o24 (rm_a20 l Z a0 hw cs o24 bF kF k_bF zF zsF xs _ n0 X.sz S_cs E_o24 F_o24_a F_o24_k Od A_bF hv_cs hvS) (lenOf pd___I rfl) rfl rfl rfl (fun T v hh X q => ?_)
   obtain ⟨rfl, Kc, Od⟩ := q
   have Rc := Rc.keep Kc so0
   have E_o24 := E_o24.keep Kc
   have F_o24_a := F_o24_a.keep Kc nin0
   have F_o24_k := F_o24_k.keep Kc nin0
   have A_bF := A_bF.keep Kc nin0
   have Kp := Kp.trans Kc all0
   refine rc (st' := [(.int (zF >>> (kF &&& 31))), .int i2]) rfl ?_
   refine rc (st' := [.int i4, .int i2]) (by rw [own_lenN hvS hvL (L := i4) (by decide)]) ?_
   refine s_icmp_ge 27 10 C X d5_7 (fun c => absurd (by decide : i2 < i4) c) (fun _ => ?_)
   refine s_aloadN 11 C X d5_10 rfl rfl ?_
   refine s_iloadN 12 C X d5_11 rfl ?_
   obtain ⟨ix248, e_ix248⟩ : ∃ zz_ : Int32, zz_ = i2 := ⟨_, rfl⟩
   refine rc (st' := [.int ix248, .ref o24]) (by subst e_ix248; rfl) ?_
   have hvx_ix248 : own_ix xs ix248 := by rw [e_ix248]; exact ⟨by decide, by rw [hvL]; decide⟩
   refine s_callV 15 [.int ix248] [] 0 C X d5_12 (mW 73 rfl) (mW 74 rfl) (nF C (mW 76 rfl)) (mW 76 rfl) (mW 75 rfl) (mW 11 rfl) (mW 77 rfl) E_o24 (rm_a31 l Z a0 hw cs fm o24 bF kF k_bF zF zsF xs ix248 _ n0 X.sz S_cs S_fm S_ad S_hi S_lo E_o24 F_o24_a F_o24_k A_bF Od hv_cs hv_fm hvS hvx_ix248) (lenOf pd__I_C rfl) rfl rfl rfl (fun T v hh X q => ?_)
   obtain ⟨rfl, Kc, Od⟩ := q
   have Rc := Rc.keep Kc so0
   have E_o24 := E_o24.keep Kc
   have F_o24_a := F_o24_a.keep Kc nin0
   have F_o24_k := F_o24_k.keep Kc nin0
   have A_bF := A_bF.keep Kc nin0
   have Kp := Kp.trans Kc all0
   refine rc (st' := [(.int (xs.getD (ix248).toNatClampNeg 0))]) rfl ?_
   refine rc (st' := [(.int (xs.getD 2 0))]) (by rw [show (xs.getD (ix248).toNatClampNeg 0) = (xs.getD 2 0) from by rw [e_ix248]; rfl]) ?_
   refine s_callS 18 [(.int (xs.getD 2 0))] [] 0 C X d5_15 (mW 93 rfl) (mW 94 rfl) (mW 32 rfl) (mW 95 rfl) (rm_isBlank l Z a0 hw ((xs.getD 2 0)) _ n0 X.sz) (lenOf pd__C_Z rfl) rfl rfl rfl (fun T v h8 X q => ?_)
   obtain ⟨⟨rfl, b274⟩ | ⟨rfl, b274⟩, hE⟩ := q
   ·rw [hE] at X
    refine rc (st' := [.int i1]) rfl ?_
    refine s_if_eq 27 21 C X d5_18 (fun c => absurd c (by decide)) (fun _ => ?_)
    refine s_iinc 24 C X (l' := #[rv o24, iv i3, un]) d5_21 kc_iconst_1 rfl rfl ?_
    refine s_goto 2 C X d5_24 ?_
    refine s_iloadN 3 C X d5_2 rfl ?_
    refine s_aloadN 4 C X d5_3 rfl rfl ?_
    refine s_callV 7 [] [.int i3] 1 C X d5_4 (mW 34 rfl) (mW 35 rfl) (nF C (mW 37 rfl)) (mW 37 rfl) (mW 36 rfl) (mW 11 rfl) (mW 38 rfl) E_o24 (rm_a20 l Z a0 hw cs o24 bF kF k_bF zF zsF xs _ n0 X.sz S_cs E_o24 F_o24_a F_o24_k Od A_bF hv_cs hvS) (lenOf pd___I rfl) rfl rfl rfl (fun T v hh X q => ?_)
    obtain ⟨rfl, Kc, Od⟩ := q
    have Rc := Rc.keep Kc so0
    have E_o24 := E_o24.keep Kc
    have F_o24_a := F_o24_a.keep Kc nin0
    have F_o24_k := F_o24_k.keep Kc nin0
    have A_bF := A_bF.keep Kc nin0
    have Kp := Kp.trans Kc all0
    refine rc (st' := [(.int (zF >>> (kF &&& 31))), .int i3]) rfl ?_
    refine rc (st' := [.int i4, .int i3]) (by rw [own_lenN hvS hvL (L := i4) (by decide)]) ?_
    refine s_icmp_ge 27 10 C X d5_7 (fun c => absurd (by decide : i3 < i4) c) (fun _ => ?_)
    refine s_aloadN 11 C X d5_10 rfl rfl ?_
    refine s_iloadN 12 C X d5_11 rfl ?_
    obtain ⟨ix280, e_ix280⟩ : ∃ zz_ : Int32, zz_ = i3 := ⟨_, rfl⟩
    refine rc (st' := [.int ix280, .ref o24]) (by subst e_ix280; rfl) ?_
    have hvx_ix280 : own_ix xs ix280 := by rw [e_ix280]; exact ⟨by decide, by rw [hvL]; decide⟩
    refine s_callV 15 [.int ix280] [] 0 C X d5_12 (mW 73 rfl) (mW 74 rfl) (nF C (mW 76 rfl)) (mW 76 rfl) (mW 75 rfl) (mW 11 rfl) (mW 77 rfl) E_o24 (rm_a31 l Z a0 hw cs fm o24 bF kF k_bF zF zsF xs ix280 _ n0 X.sz S_cs S_fm S_ad S_hi S_lo E_o24 F_o24_a F_o24_k A_bF Od hv_cs hv_fm hvS hvx_ix280) (lenOf pd__I_C rfl) rfl rfl rfl (fun T v hh X q => ?_)
    obtain ⟨rfl, Kc, Od⟩ := q
    have Rc := Rc.keep Kc so0
    have E_o24 := E_o24.keep Kc
    have F_o24_a := F_o24_a.keep Kc nin0
    have F_o24_k := F_o24_k.keep Kc nin0
    have A_bF := A_bF.keep Kc nin0
    have Kp := Kp.trans Kc all0
    refine rc (st' := [(.int (xs.getD (ix280).toNatClampNeg 0))]) rfl ?_
    refine rc (st' := [(.int (xs.getD 3 0))]) (by rw [show (xs.getD (ix280).toNatClampNeg 0) = (xs.getD 3 0) from by rw [e_ix280]; rfl]) ?_
    refine s_callS 18 [(.int (xs.getD 3 0))] [] 0 C X d5_15 (mW 93 rfl) (mW 94 rfl) (mW 32 rfl) (mW 95 rfl) (rm_isBlank l Z a0 hw ((xs.getD 3 0)) _ n0 X.sz) (lenOf pd__C_Z rfl) rfl rfl rfl (fun T v h11 X q => ?_)
    obtain ⟨⟨rfl, b306⟩ | ⟨rfl, b306⟩, hE⟩ := q
    ·rw [hE] at X
     refine rc (st' := [.int i1]) rfl ?_
     refine s_if_eq 27 21 C X d5_18 (fun c => absurd c (by decide)) (fun _ => ?_)
     refine s_iinc 24 C X (l' := #[rv o24, iv i4, un]) d5_21 kc_iconst_1 rfl rfl ?_
     refine s_goto 2 C X d5_24 ?_
     refine s_iloadN 3 C X d5_2 rfl ?_
     refine s_aloadN 4 C X d5_3 rfl rfl ?_
     refine s_callV 7 [] [.int i4] 1 C X d5_4 (mW 34 rfl) (mW 35 rfl) (nF C (mW 37 rfl)) (mW 37 rfl) (mW 36 rfl) (mW 11 rfl) (mW 38 rfl) E_o24 (rm_a20 l Z a0 hw cs o24 bF kF k_bF zF zsF xs _ n0 X.sz S_cs E_o24 F_o24_a F_o24_k Od A_bF hv_cs hvS) (lenOf pd___I rfl) rfl rfl rfl (fun T v hh X q => ?_)
     obtain ⟨rfl, Kc, Od⟩ := q
     have Rc := Rc.keep Kc so0
     have E_o24 := E_o24.keep Kc
     have F_o24_a := F_o24_a.keep Kc nin0
     have F_o24_k := F_o24_k.keep Kc nin0
     have A_bF := A_bF.keep Kc nin0
     have Kp := Kp.trans Kc all0
     refine rc (st' := [(.int (zF >>> (kF &&& 31))), .int i4]) rfl ?_
     refine rc (st' := [.int i4, .int i4]) (by rw [own_lenN hvS hvL (L := i4) (by decide)]) ?_
     refine s_icmp_ge 27 10 C X d5_7 (fun _ => ?_) (fun c => absurd c (by decide))
     refine s_aloadN 28 C X d5_27 rfl rfl ?_
     refine s_callV 31 [] [] 0 C X d5_28 (mW 34 rfl) (mW 35 rfl) (nF C (mW 37 rfl)) (mW 37 rfl) (mW 36 rfl) (mW 11 rfl) (mW 38 rfl) E_o24 (rm_a20 l Z a0 hw cs o24 bF kF k_bF zF zsF xs _ n0 X.sz S_cs E_o24 F_o24_a F_o24_k Od A_bF hv_cs hvS) (lenOf pd___I rfl) rfl rfl rfl (fun T v hh X q => ?_)
     obtain ⟨rfl, Kc, Od⟩ := q
     have Rc := Rc.keep Kc so0
     have E_o24 := E_o24.keep Kc
     have F_o24_a := F_o24_a.keep Kc nin0
     have F_o24_k := F_o24_k.keep Kc nin0
     have A_bF := A_bF.keep Kc nin0
     have Kp := Kp.trans Kc all0
     refine rc (st' := [(.int (zF >>> (kF &&& 31)))]) rfl ?_
     refine rc (st' := [.int i4]) (by rw [own_lenN hvS hvL (L := i4) (by decide)]) ?_
     refine s_istoreN 32 C X (l' := #[rv o24, iv i4, iv i4]) d5_31 rfl ?_
     refine s_iloadN 33 C X d5_32 rfl ?_
     refine s_iloadN 34 C X d5_33 rfl ?_
     refine s_icmp_le 56 37 C X d5_34 (fun _ => ?_) (fun c => absurd c (by decide))
     refine s_aloadN 57 C X d5_56 rfl rfl ?_
     refine s_iloadN 58 C X d5_57 rfl ?_
     refine s_iloadN 59 C X d5_58 rfl ?_
     obtain ⟨ev316, e_ev316⟩ : ∃ zz_ : Int32, zz_ = i4 := ⟨_, rfl⟩
     refine rc (st' := [.int ev316, .int i4, .ref o24]) (by subst e_ev316; rfl) ?_
     obtain ⟨sv317, e_sv317⟩ : ∃ zz_ : Int32, zz_ = i4 := ⟨_, rfl⟩
     refine rc (st' := [.int ev316, .int sv317, .ref o24]) (by subst e_sv317; rfl) ?_
     have hvse : own_se xs sv317 ev316 := by rw [e_sv317, e_ev316]; exact ⟨by decide, by decide, by rw [hvL]; decide⟩
     refine s_hcallV 62 [.int sv317, .int ev316] [] 0 C X hS Rc.2 (own_EL hw) Rc.1.1 d5_59 (mW 45 rfl) (mW 46 rfl) (nF C (mW 48 rfl)) (mW 48 rfl) (mW 47 rfl) (mW 11 rfl) (mW 49 rfl) E_o24 (rm_a50 l Z a0 hw cs fm o24 bF kF k_bF zF zsF xs ev316 sv317 _ n0 X.sz S_cs S_fm S_ad S_hi S_lo E_o24 F_o24_a F_o24_k A_bF Od hv_cs hv_fm hvS hvse) (lenOf pd__II_Ljava_lang_String_ rfl) rfl rfl rfl so0 (fun T v hh vm k1 C X hS Nk Rn q => ?_)
     obtain ⟨bFq, kFq, k_bFq, lFq, rFq, zFq, zsFq, rfl, hvle, hvR, Kc, Od, E_rFq, F_rFq_k, F_rFq_a, A_bFq⟩ := q
     have Rc := Rc.call Rn Nk
     have Kp := Kp.trans Kc all0
     refine rc (st' := [.ref rFq]) rfl ?_
     refine s_areturn C X d5_62 rfl rfl rfl ?_ (FGH hG hS Rc C (own_EL hw))
     obtain ⟨sFt, e_sFt⟩ : ∃ z : Int32, z = sv317 := ⟨_, rfl⟩
     obtain ⟨eFt, e_eFt⟩ : ∃ z : Int32, z = ev316 := ⟨_, rfl⟩
     have js : sFt.toInt = 4 := by rw [e_sFt, e_sv317]; decide
     have je : eFt.toInt = 4 := by rw [e_eFt, e_ev316]; decide
     have jn := hvL
     have hvS : own_S xs sFt eFt := by
      refine ⟨⟨by omega, by omega, by omega⟩, fun i hi => ?_, fun i hi hj => ?_, ?_⟩
      ·have : i = 0 ∨ i = 1 ∨ i = 2 ∨ i = 3 := by omega
       rcases this with rfl | rfl | rfl | rfl
       ·exact b210
       ·exact b242
       ·exact b274
       ·exact b306
      ·omega
      ·exact Or.inr ⟨by omega, by omega⟩
     have hvl : lFq.toInt = eFt.toInt - sFt.toInt := by rw [e_sFt, e_eFt]; exact hvle
     have hvR : own_T (sl xs sFt.toNatClampNeg lFq.toNatClampNeg) kFq zFq zsFq := by rw [e_sFt]; exact hvR
     exact hQ _ _ ⟨bFq, eFt, kFq, k_bFq, lFq, rFq, sFt, zFq, zsFq, rfl, hvS, hvl, hvR, Kp, Od, E_rFq, F_rFq_k, F_rFq_a, A_bFq⟩
    ·rw [hE] at X
     refine rc (st' := [.int i0]) rfl ?_
     refine s_if_eq 27 21 C X d5_18 (fun _ => ?_) (fun c => absurd (by decide : i0 = i0) c)
     refine s_aloadN 28 C X d5_27 rfl rfl ?_
     refine s_callV 31 [] [] 0 C X d5_28 (mW 34 rfl) (mW 35 rfl) (nF C (mW 37 rfl)) (mW 37 rfl) (mW 36 rfl) (mW 11 rfl) (mW 38 rfl) E_o24 (rm_a20 l Z a0 hw cs o24 bF kF k_bF zF zsF xs _ n0 X.sz S_cs E_o24 F_o24_a F_o24_k Od A_bF hv_cs hvS) (lenOf pd___I rfl) rfl rfl rfl (fun T v hh X q => ?_)
     obtain ⟨rfl, Kc, Od⟩ := q
     have Rc := Rc.keep Kc so0
     have E_o24 := E_o24.keep Kc
     have F_o24_a := F_o24_a.keep Kc nin0
     have F_o24_k := F_o24_k.keep Kc nin0
     have A_bF := A_bF.keep Kc nin0
     have Kp := Kp.trans Kc all0
     refine rc (st' := [(.int (zF >>> (kF &&& 31)))]) rfl ?_
     refine rc (st' := [.int i4]) (by rw [own_lenN hvS hvL (L := i4) (by decide)]) ?_
     refine s_istoreN 32 C X (l' := #[rv o24, iv i3, iv i4]) d5_31 rfl ?_
     refine s_iloadN 33 C X d5_32 rfl ?_
     refine s_iloadN 34 C X d5_33 rfl ?_
     refine s_icmp_le 56 37 C X d5_34 (fun c => absurd (by decide : i3 < i4) c) (fun _ => ?_)
     refine s_aloadN 38 C X d5_37 rfl rfl ?_
     refine s_iloadN 39 C X d5_38 rfl ?_
     refine s_iconst 40 C X d5_39 kc_iconst_1 ?_
     refine s_isub 41 C X d5_40 ?_
     refine rc (st' := [.int i3, .ref o24]) (by rw [kf_11]) ?_
     obtain ⟨ix531, e_ix531⟩ : ∃ zz_ : Int32, zz_ = i3 := ⟨_, rfl⟩
     refine rc (st' := [.int ix531, .ref o24]) (by subst e_ix531; rfl) ?_
     have hvx_ix531 : own_ix xs ix531 := by rw [e_ix531]; exact ⟨by decide, by rw [hvL]; decide⟩
     refine s_callV 44 [.int ix531] [] 0 C X d5_41 (mW 73 rfl) (mW 74 rfl) (nF C (mW 76 rfl)) (mW 76 rfl) (mW 75 rfl) (mW 11 rfl) (mW 77 rfl) E_o24 (rm_a31 l Z a0 hw cs fm o24 bF kF k_bF zF zsF xs ix531 _ n0 X.sz S_cs S_fm S_ad S_hi S_lo E_o24 F_o24_a F_o24_k A_bF Od hv_cs hv_fm hvS hvx_ix531) (lenOf pd__I_C rfl) rfl rfl rfl (fun T v hh X q => ?_)
     obtain ⟨rfl, Kc, Od⟩ := q
     have Rc := Rc.keep Kc so0
     have E_o24 := E_o24.keep Kc
     have F_o24_a := F_o24_a.keep Kc nin0
     have F_o24_k := F_o24_k.keep Kc nin0
     have A_bF := A_bF.keep Kc nin0
     have Kp := Kp.trans Kc all0
     refine rc (st' := [(.int (xs.getD (ix531).toNatClampNeg 0))]) rfl ?_
     refine rc (st' := [(.int (xs.getD 3 0))]) (by rw [show (xs.getD (ix531).toNatClampNeg 0) = (xs.getD 3 0) from by rw [e_ix531]; rfl]) ?_
     refine s_callS 47 [(.int (xs.getD 3 0))] [] 0 C X d5_44 (mW 93 rfl) (mW 94 rfl) (mW 32 rfl) (mW 95 rfl) (rm_isBlank l Z a0 hw ((xs.getD 3 0)) _ n0 X.sz) (lenOf pd__C_Z rfl) rfl rfl rfl (fun T v h17 X q => ?_)
     obtain ⟨⟨rfl, b557⟩ | ⟨rfl, b557⟩, hE⟩ := q
     ·rw [hE] at X
      exact absurd b557 b306
     ·rw [hE] at X
      refine rc (st' := [.int i0]) rfl ?_
      refine s_if_eq 56 50 C X d5_47 (fun _ => ?_) (fun c => absurd (by decide : i0 = i0) c)
      refine s_aloadN 57 C X d5_56 rfl rfl ?_
      refine s_iloadN 58 C X d5_57 rfl ?_
      refine s_iloadN 59 C X d5_58 rfl ?_
      obtain ⟨ev559, e_ev559⟩ : ∃ zz_ : Int32, zz_ = i4 := ⟨_, rfl⟩
      refine rc (st' := [.int ev559, .int i3, .ref o24]) (by subst e_ev559; rfl) ?_
      obtain ⟨sv560, e_sv560⟩ : ∃ zz_ : Int32, zz_ = i3 := ⟨_, rfl⟩
      refine rc (st' := [.int ev559, .int sv560, .ref o24]) (by subst e_sv560; rfl) ?_
      have hvse : own_se xs sv560 ev559 := by rw [e_sv560, e_ev559]; exact ⟨by decide, by decide, by rw [hvL]; decide⟩
      refine s_hcallV 62 [.int sv560, .int ev559] [] 0 C X hS Rc.2 (own_EL hw) Rc.1.1 d5_59 (mW 45 rfl) (mW 46 rfl) (nF C (mW 48 rfl)) (mW 48 rfl) (mW 47 rfl) (mW 11 rfl) (mW 49 rfl) E_o24 (rm_a50 l Z a0 hw cs fm o24 bF kF k_bF zF zsF xs ev559 sv560 _ n0 X.sz S_cs S_fm S_ad S_hi S_lo E_o24 F_o24_a F_o24_k A_bF Od hv_cs hv_fm hvS hvse) (lenOf pd__II_Ljava_lang_String_ rfl) rfl rfl rfl so0 (fun T v hh vm k1 C X hS Nk Rn q => ?_)
      obtain ⟨bFq, kFq, k_bFq, lFq, rFq, zFq, zsFq, rfl, hvle, hvR, Kc, Od, E_rFq, F_rFq_k, F_rFq_a, A_bFq⟩ := q
      have Rc := Rc.call Rn Nk
      have Kp := Kp.trans Kc all0
      refine rc (st' := [.ref rFq]) rfl ?_
      refine s_areturn C X d5_62 rfl rfl rfl ?_ (FGH hG hS Rc C (own_EL hw))
      obtain ⟨sFt, e_sFt⟩ : ∃ z : Int32, z = sv560 := ⟨_, rfl⟩
      obtain ⟨eFt, e_eFt⟩ : ∃ z : Int32, z = ev559 := ⟨_, rfl⟩
      have js : sFt.toInt = 3 := by rw [e_sFt, e_sv560]; decide
      have je : eFt.toInt = 4 := by rw [e_eFt, e_ev559]; decide
      have jn := hvL
      have hvS : own_S xs sFt eFt := by
       refine ⟨⟨by omega, by omega, by omega⟩, fun i hi => ?_, fun i hi hj => ?_, ?_⟩
       ·have : i = 0 ∨ i = 1 ∨ i = 2 := by omega
        rcases this with rfl | rfl | rfl
        ·exact b210
        ·exact b242
        ·exact b274
       ·omega
       ·have k1 : sFt.toNatClampNeg = 3 := own_tn (k := 3) js
        rw [k1, je]
        exact Or.inl ⟨by omega, by omega, b306, b306⟩
      have hvl : lFq.toInt = eFt.toInt - sFt.toInt := by rw [e_sFt, e_eFt]; exact hvle
      have hvR : own_T (sl xs sFt.toNatClampNeg lFq.toNatClampNeg) kFq zFq zsFq := by rw [e_sFt]; exact hvR
      exact hQ _ _ ⟨bFq, eFt, kFq, k_bFq, lFq, rFq, sFt, zFq, zsFq, rfl, hvS, hvl, hvR, Kp, Od, E_rFq, F_rFq_k, F_rFq_a, A_bFq⟩
   ·rw [hE] at X
    refine rc (st' := [.int i0]) rfl ?_
    refine s_if_eq 27 21 C X d5_18 (fun _ => ?_) (fun c => absurd (by decide : i0 = i0) c)
    refine s_aloadN 28 C X d5_27 rfl rfl ?_
    refine s_callV 31 [] [] 0 C X d5_28 (mW 34 rfl) (mW 35 rfl) (nF C (mW 37 rfl)) (mW 37 rfl) (mW 36 rfl) (mW 11 rfl) (mW 38 rfl) E_o24 (rm_a20 l Z a0 hw cs o24 bF kF k_bF zF zsF xs _ n0 X.sz S_cs E_o24 F_o24_a F_o24_k Od A_bF hv_cs hvS) (lenOf pd___I rfl) rfl rfl rfl (fun T v hh X q => ?_)
    obtain ⟨rfl, Kc, Od⟩ := q
    have Rc := Rc.keep Kc so0
    have E_o24 := E_o24.keep Kc
    have F_o24_a := F_o24_a.keep Kc nin0
    have F_o24_k := F_o24_k.keep Kc nin0
    have A_bF := A_bF.keep Kc nin0
    have Kp := Kp.trans Kc all0
    refine rc (st' := [(.int (zF >>> (kF &&& 31)))]) rfl ?_
    refine rc (st' := [.int i4]) (by rw [own_lenN hvS hvL (L := i4) (by decide)]) ?_
    refine s_istoreN 32 C X (l' := #[rv o24, iv i2, iv i4]) d5_31 rfl ?_
    refine s_iloadN 33 C X d5_32 rfl ?_
    refine s_iloadN 34 C X d5_33 rfl ?_
    refine s_icmp_le 56 37 C X d5_34 (fun c => absurd (by decide : i2 < i4) c) (fun _ => ?_)
    refine s_aloadN 38 C X d5_37 rfl rfl ?_
    refine s_iloadN 39 C X d5_38 rfl ?_
    refine s_iconst 40 C X d5_39 kc_iconst_1 ?_
    refine s_isub 41 C X d5_40 ?_
    refine rc (st' := [.int i3, .ref o24]) (by rw [kf_11]) ?_
    obtain ⟨ix774, e_ix774⟩ : ∃ zz_ : Int32, zz_ = i3 := ⟨_, rfl⟩
    refine rc (st' := [.int ix774, .ref o24]) (by subst e_ix774; rfl) ?_
    have hvx_ix774 : own_ix xs ix774 := by rw [e_ix774]; exact ⟨by decide, by rw [hvL]; decide⟩
    refine s_callV 44 [.int ix774] [] 0 C X d5_41 (mW 73 rfl) (mW 74 rfl) (nF C (mW 76 rfl)) (mW 76 rfl) (mW 75 rfl) (mW 11 rfl) (mW 77 rfl) E_o24 (rm_a31 l Z a0 hw cs fm o24 bF kF k_bF zF zsF xs ix774 _ n0 X.sz S_cs S_fm S_ad S_hi S_lo E_o24 F_o24_a F_o24_k A_bF Od hv_cs hv_fm hvS hvx_ix774) (lenOf pd__I_C rfl) rfl rfl rfl (fun T v hh X q => ?_)
    obtain ⟨rfl, Kc, Od⟩ := q
    have Rc := Rc.keep Kc so0
    have E_o24 := E_o24.keep Kc
    have F_o24_a := F_o24_a.keep Kc nin0
    have F_o24_k := F_o24_k.keep Kc nin0
    have A_bF := A_bF.keep Kc nin0
    have Kp := Kp.trans Kc all0
    refine rc (st' := [(.int (xs.getD (ix774).toNatClampNeg 0))]) rfl ?_
    refine rc (st' := [(.int (xs.getD 3 0))]) (by rw [show (xs.getD (ix774).toNatClampNeg 0) = (xs.getD 3 0) from by rw [e_ix774]; rfl]) ?_
    refine s_callS 47 [(.int (xs.getD 3 0))] [] 0 C X d5_44 (mW 93 rfl) (mW 94 rfl) (mW 32 rfl) (mW 95 rfl) (rm_isBlank l Z a0 hw ((xs.getD 3 0)) _ n0 X.sz) (lenOf pd__C_Z rfl) rfl rfl rfl (fun T v h21 X q => ?_)
    obtain ⟨⟨rfl, b800⟩ | ⟨rfl, b800⟩, hE⟩ := q
    ·rw [hE] at X
     refine rc (st' := [.int i1]) rfl ?_
     refine s_if_eq 56 50 C X d5_47 (fun c => absurd c (by decide)) (fun _ => ?_)
     refine s_iinc 53 C X (l' := #[rv o24, iv i2, iv i3]) d5_50 kc_iconst_m1 rfl rfl ?_
     refine s_goto 32 C X d5_53 ?_
     refine s_iloadN 33 C X d5_32 rfl ?_
     refine s_iloadN 34 C X d5_33 rfl ?_
     refine s_icmp_le 56 37 C X d5_34 (fun c => absurd (by decide : i2 < i3) c) (fun _ => ?_)
     refine s_aloadN 38 C X d5_37 rfl rfl ?_
     refine s_iloadN 39 C X d5_38 rfl ?_
     refine s_iconst 40 C X d5_39 kc_iconst_1 ?_
     refine s_isub 41 C X d5_40 ?_
     refine rc (st' := [.int i2, .ref o24]) (by rw [kf_12]) ?_
     obtain ⟨ix803, e_ix803⟩ : ∃ zz_ : Int32, zz_ = i2 := ⟨_, rfl⟩
     refine rc (st' := [.int ix803, .ref o24]) (by subst e_ix803; rfl) ?_
     have hvx_ix803 : own_ix xs ix803 := by rw [e_ix803]; exact ⟨by decide, by rw [hvL]; decide⟩
     refine s_callV 44 [.int ix803] [] 0 C X d5_41 (mW 73 rfl) (mW 74 rfl) (nF C (mW 76 rfl)) (mW 76 rfl) (mW 75 rfl) (mW 11 rfl) (mW 77 rfl) E_o24 (rm_a31 l Z a0 hw cs fm o24 bF kF k_bF zF zsF xs ix803 _ n0 X.sz S_cs S_fm S_ad S_hi S_lo E_o24 F_o24_a F_o24_k A_bF Od hv_cs hv_fm hvS hvx_ix803) (lenOf pd__I_C rfl) rfl rfl rfl (fun T v hh X q => ?_)
     obtain ⟨rfl, Kc, Od⟩ := q
     have Rc := Rc.keep Kc so0
     have E_o24 := E_o24.keep Kc
     have F_o24_a := F_o24_a.keep Kc nin0
     have F_o24_k := F_o24_k.keep Kc nin0
     have A_bF := A_bF.keep Kc nin0
     have Kp := Kp.trans Kc all0
     refine rc (st' := [(.int (xs.getD (ix803).toNatClampNeg 0))]) rfl ?_
     refine rc (st' := [(.int (xs.getD 2 0))]) (by rw [show (xs.getD (ix803).toNatClampNeg 0) = (xs.getD 2 0) from by rw [e_ix803]; rfl]) ?_
     refine s_callS 47 [(.int (xs.getD 2 0))] [] 0 C X d5_44 (mW 93 rfl) (mW 94 rfl) (mW 32 rfl) (mW 95 rfl) (rm_isBlank l Z a0 hw ((xs.getD 2 0)) _ n0 X.sz) (lenOf pd__C_Z rfl) rfl rfl rfl (fun T v h23 X q => ?_)
     obtain ⟨⟨rfl, b829⟩ | ⟨rfl, b829⟩, hE⟩ := q
     ·rw [hE] at X
      exact absurd b829 b274
     ·rw [hE] at X
      refine rc (st' := [.int i0]) rfl ?_
      refine s_if_eq 56 50 C X d5_47 (fun _ => ?_) (fun c => absurd (by decide : i0 = i0) c)
      refine s_aloadN 57 C X d5_56 rfl rfl ?_
      refine s_iloadN 58 C X d5_57 rfl ?_
      refine s_iloadN 59 C X d5_58 rfl ?_
      obtain ⟨ev831, e_ev831⟩ : ∃ zz_ : Int32, zz_ = i3 := ⟨_, rfl⟩
      refine rc (st' := [.int ev831, .int i2, .ref o24]) (by subst e_ev831; rfl) ?_
      obtain ⟨sv832, e_sv832⟩ : ∃ zz_ : Int32, zz_ = i2 := ⟨_, rfl⟩
      refine rc (st' := [.int ev831, .int sv832, .ref o24]) (by subst e_sv832; rfl) ?_
      have hvse : own_se xs sv832 ev831 := by rw [e_sv832, e_ev831]; exact ⟨by decide, by decide, by rw [hvL]; decide⟩
      refine s_hcallV 62 [.int sv832, .int ev831] [] 0 C X hS Rc.2 (own_EL hw) Rc.1.1 d5_59 (mW 45 rfl) (mW 46 rfl) (nF C (mW 48 rfl)) (mW 48 rfl) (mW 47 rfl) (mW 11 rfl) (mW 49 rfl) E_o24 (rm_a50 l Z a0 hw cs fm o24 bF kF k_bF zF zsF xs ev831 sv832 _ n0 X.sz S_cs S_fm S_ad S_hi S_lo E_o24 F_o24_a F_o24_k A_bF Od hv_cs hv_fm hvS hvse) (lenOf pd__II_Ljava_lang_String_ rfl) rfl rfl rfl so0 (fun T v hh vm k1 C X hS Nk Rn q => ?_)
      obtain ⟨bFq, kFq, k_bFq, lFq, rFq, zFq, zsFq, rfl, hvle, hvR, Kc, Od, E_rFq, F_rFq_k, F_rFq_a, A_bFq⟩ := q
      have Rc := Rc.call Rn Nk
      have Kp := Kp.trans Kc all0
      refine rc (st' := [.ref rFq]) rfl ?_
      refine s_areturn C X d5_62 rfl rfl rfl ?_ (FGH hG hS Rc C (own_EL hw))
      obtain ⟨sFt, e_sFt⟩ : ∃ z : Int32, z = sv832 := ⟨_, rfl⟩
      obtain ⟨eFt, e_eFt⟩ : ∃ z : Int32, z = ev831 := ⟨_, rfl⟩
      have js : sFt.toInt = 2 := by rw [e_sFt, e_sv832]; decide
      have je : eFt.toInt = 3 := by rw [e_eFt, e_ev831]; decide
      have jn := hvL
      have hvS : own_S xs sFt eFt := by
       refine ⟨⟨by omega, by omega, by omega⟩, fun i hi => ?_, fun i hi hj => ?_, ?_⟩
       ·have : i = 0 ∨ i = 1 := by omega
        rcases this with rfl | rfl
        ·exact b210
        ·exact b242
       ·have : i = 3 := by omega
        rcases this with rfl
        ·exact b800
       ·have k1 : sFt.toNatClampNeg = 2 := own_tn (k := 2) js
        rw [k1, je]
        exact Or.inl ⟨by omega, by omega, b274, b274⟩
      have hvl : lFq.toInt = eFt.toInt - sFt.toInt := by rw [e_sFt, e_eFt]; exact hvle
      have hvR : own_T (sl xs sFt.toNatClampNeg lFq.toNatClampNeg) kFq zFq zsFq := by rw [e_sFt]; exact hvR
      exact hQ _ _ ⟨bFq, eFt, kFq, k_bFq, lFq, rFq, sFt, zFq, zsFq, rfl, hvS, hvl, hvR, Kp, Od, E_rFq, F_rFq_k, F_rFq_a, A_bFq⟩
    ·rw [hE] at X
     refine rc (st' := [.int i0]) rfl ?_
     refine s_if_eq 56 50 C X d5_47 (fun _ => ?_) (fun c => absurd (by decide : i0 = i0) c)
     refine s_aloadN 57 C X d5_56 rfl rfl ?_
     refine s_iloadN 58 C X d5_57 rfl ?_
     refine s_iloadN 59 C X d5_58 rfl ?_
     obtain ⟨ev1042, e_ev1042⟩ : ∃ zz_ : Int32, zz_ = i4 := ⟨_, rfl⟩
     refine rc (st' := [.int ev1042, .int i2, .ref o24]) (by subst e_ev1042; rfl) ?_
     obtain ⟨sv1043, e_sv1043⟩ : ∃ zz_ : Int32, zz_ = i2 := ⟨_, rfl⟩
     refine rc (st' := [.int ev1042, .int sv1043, .ref o24]) (by subst e_sv1043; rfl) ?_
     have hvse : own_se xs sv1043 ev1042 := by rw [e_sv1043, e_ev1042]; exact ⟨by decide, by decide, by rw [hvL]; decide⟩
     refine s_hcallV 62 [.int sv1043, .int ev1042] [] 0 C X hS Rc.2 (own_EL hw) Rc.1.1 d5_59 (mW 45 rfl) (mW 46 rfl) (nF C (mW 48 rfl)) (mW 48 rfl) (mW 47 rfl) (mW 11 rfl) (mW 49 rfl) E_o24 (rm_a50 l Z a0 hw cs fm o24 bF kF k_bF zF zsF xs ev1042 sv1043 _ n0 X.sz S_cs S_fm S_ad S_hi S_lo E_o24 F_o24_a F_o24_k A_bF Od hv_cs hv_fm hvS hvse) (lenOf pd__II_Ljava_lang_String_ rfl) rfl rfl rfl so0 (fun T v hh vm k1 C X hS Nk Rn q => ?_)
     obtain ⟨bFq, kFq, k_bFq, lFq, rFq, zFq, zsFq, rfl, hvle, hvR, Kc, Od, E_rFq, F_rFq_k, F_rFq_a, A_bFq⟩ := q
     have Rc := Rc.call Rn Nk
     have Kp := Kp.trans Kc all0
     refine rc (st' := [.ref rFq]) rfl ?_
     refine s_areturn C X d5_62 rfl rfl rfl ?_ (FGH hG hS Rc C (own_EL hw))
     obtain ⟨sFt, e_sFt⟩ : ∃ z : Int32, z = sv1043 := ⟨_, rfl⟩
     obtain ⟨eFt, e_eFt⟩ : ∃ z : Int32, z = ev1042 := ⟨_, rfl⟩
     have js : sFt.toInt = 2 := by rw [e_sFt, e_sv1043]; decide
     have je : eFt.toInt = 4 := by rw [e_eFt, e_ev1042]; decide
     have jn := hvL
     have hvS : own_S xs sFt eFt := by
      refine ⟨⟨by omega, by omega, by omega⟩, fun i hi => ?_, fun i hi hj => ?_, ?_⟩
      ·have : i = 0 ∨ i = 1 := by omega
       rcases this with rfl | rfl
       ·exact b210
       ·exact b242
      ·omega
      ·have k1 : sFt.toNatClampNeg = 2 := own_tn (k := 2) js
       rw [k1, je]
       exact Or.inl ⟨by omega, by omega, b274, b800⟩
     have hvl : lFq.toInt = eFt.toInt - sFt.toInt := by rw [e_sFt, e_eFt]; exact hvle
     have hvR : own_T (sl xs sFt.toNatClampNeg lFq.toNatClampNeg) kFq zFq zsFq := by rw [e_sFt]; exact hvR
     exact hQ _ _ ⟨bFq, eFt, kFq, k_bFq, lFq, rFq, sFt, zFq, zsFq, rfl, hvS, hvl, hvR, Kp, Od, E_rFq, F_rFq_k, F_rFq_a, A_bFq⟩
  ·rw [hE] at X
   refine rc (st' := [.int i0]) rfl ?_
   refine s_if_eq 27 21 C X d5_18 (fun _ => ?_) (fun c => absurd (by decide : i0 = i0) c)
   refine s_aloadN 28 C X d5_27 rfl rfl ?_
   refine s_callV 31 [] [] 0 C X d5_28 (mW 34 rfl) (mW 35 rfl) (nF C (mW 37 rfl)) (mW 37 rfl) (mW 36 rfl) (mW 11 rfl) (mW 38 rfl) E_o24 (rm_a20 l Z a0 hw cs o24 bF kF k_bF zF zsF xs _ n0 X.sz S_cs E_o24 F_o24_a F_o24_k Od A_bF hv_cs hvS) (lenOf pd___I rfl) rfl rfl rfl (fun T v hh X q => ?_)
   obtain ⟨rfl, Kc, Od⟩ := q
   have Rc := Rc.keep Kc so0
   have E_o24 := E_o24.keep Kc
   have F_o24_a := F_o24_a.keep Kc nin0
   have F_o24_k := F_o24_k.keep Kc nin0
   have A_bF := A_bF.keep Kc nin0
   have Kp := Kp.trans Kc all0
   refine rc (st' := [(.int (zF >>> (kF &&& 31)))]) rfl ?_
   refine rc (st' := [.int i4]) (by rw [own_lenN hvS hvL (L := i4) (by decide)]) ?_
   refine s_istoreN 32 C X (l' := #[rv o24, iv i1, iv i4]) d5_31 rfl ?_
   refine s_iloadN 33 C X d5_32 rfl ?_
   refine s_iloadN 34 C X d5_33 rfl ?_
   refine s_icmp_le 56 37 C X d5_34 (fun c => absurd (by decide : i1 < i4) c) (fun _ => ?_)
   refine s_aloadN 38 C X d5_37 rfl rfl ?_
   refine s_iloadN 39 C X d5_38 rfl ?_
   refine s_iconst 40 C X d5_39 kc_iconst_1 ?_
   refine s_isub 41 C X d5_40 ?_
   refine rc (st' := [.int i3, .ref o24]) (by rw [kf_11]) ?_
   obtain ⟨ix1257, e_ix1257⟩ : ∃ zz_ : Int32, zz_ = i3 := ⟨_, rfl⟩
   refine rc (st' := [.int ix1257, .ref o24]) (by subst e_ix1257; rfl) ?_
   have hvx_ix1257 : own_ix xs ix1257 := by rw [e_ix1257]; exact ⟨by decide, by rw [hvL]; decide⟩
   refine s_callV 44 [.int ix1257] [] 0 C X d5_41 (mW 73 rfl) (mW 74 rfl) (nF C (mW 76 rfl)) (mW 76 rfl) (mW 75 rfl) (mW 11 rfl) (mW 77 rfl) E_o24 (rm_a31 l Z a0 hw cs fm o24 bF kF k_bF zF zsF xs ix1257 _ n0 X.sz S_cs S_fm S_ad S_hi S_lo E_o24 F_o24_a F_o24_k A_bF Od hv_cs hv_fm hvS hvx_ix1257) (lenOf pd__I_C rfl) rfl rfl rfl (fun T v hh X q => ?_)
   obtain ⟨rfl, Kc, Od⟩ := q
   have Rc := Rc.keep Kc so0
   have E_o24 := E_o24.keep Kc
   have F_o24_a := F_o24_a.keep Kc nin0
   have F_o24_k := F_o24_k.keep Kc nin0
   have A_bF := A_bF.keep Kc nin0
   have Kp := Kp.trans Kc all0
   refine rc (st' := [(.int (xs.getD (ix1257).toNatClampNeg 0))]) rfl ?_
   refine rc (st' := [(.int (xs.getD 3 0))]) (by rw [show (xs.getD (ix1257).toNatClampNeg 0) = (xs.getD 3 0) from by rw [e_ix1257]; rfl]) ?_
   refine s_callS 47 [(.int (xs.getD 3 0))] [] 0 C X d5_44 (mW 93 rfl) (mW 94 rfl) (mW 32 rfl) (mW 95 rfl) (rm_isBlank l Z a0 hw ((xs.getD 3 0)) _ n0 X.sz) (lenOf pd__C_Z rfl) rfl rfl rfl (fun T v h28 X q => ?_)
   obtain ⟨⟨rfl, b1283⟩ | ⟨rfl, b1283⟩, hE⟩ := q
   ·rw [hE] at X
    refine rc (st' := [.int i1]) rfl ?_
    refine s_if_eq 56 50 C X d5_47 (fun c => absurd c (by decide)) (fun _ => ?_)
    refine s_iinc 53 C X (l' := #[rv o24, iv i1, iv i3]) d5_50 kc_iconst_m1 rfl rfl ?_
    refine s_goto 32 C X d5_53 ?_
    refine s_iloadN 33 C X d5_32 rfl ?_
    refine s_iloadN 34 C X d5_33 rfl ?_
    refine s_icmp_le 56 37 C X d5_34 (fun c => absurd (by decide : i1 < i3) c) (fun _ => ?_)
    refine s_aloadN 38 C X d5_37 rfl rfl ?_
    refine s_iloadN 39 C X d5_38 rfl ?_
    refine s_iconst 40 C X d5_39 kc_iconst_1 ?_
    refine s_isub 41 C X d5_40 ?_
    refine rc (st' := [.int i2, .ref o24]) (by rw [kf_12]) ?_
    obtain ⟨ix1286, e_ix1286⟩ : ∃ zz_ : Int32, zz_ = i2 := ⟨_, rfl⟩
    refine rc (st' := [.int ix1286, .ref o24]) (by subst e_ix1286; rfl) ?_
    have hvx_ix1286 : own_ix xs ix1286 := by rw [e_ix1286]; exact ⟨by decide, by rw [hvL]; decide⟩
    refine s_callV 44 [.int ix1286] [] 0 C X d5_41 (mW 73 rfl) (mW 74 rfl) (nF C (mW 76 rfl)) (mW 76 rfl) (mW 75 rfl) (mW 11 rfl) (mW 77 rfl) E_o24 (rm_a31 l Z a0 hw cs fm o24 bF kF k_bF zF zsF xs ix1286 _ n0 X.sz S_cs S_fm S_ad S_hi S_lo E_o24 F_o24_a F_o24_k A_bF Od hv_cs hv_fm hvS hvx_ix1286) (lenOf pd__I_C rfl) rfl rfl rfl (fun T v hh X q => ?_)
    obtain ⟨rfl, Kc, Od⟩ := q
    have Rc := Rc.keep Kc so0
    have E_o24 := E_o24.keep Kc
    have F_o24_a := F_o24_a.keep Kc nin0
    have F_o24_k := F_o24_k.keep Kc nin0
    have A_bF := A_bF.keep Kc nin0
    have Kp := Kp.trans Kc all0
    refine rc (st' := [(.int (xs.getD (ix1286).toNatClampNeg 0))]) rfl ?_
    refine rc (st' := [(.int (xs.getD 2 0))]) (by rw [show (xs.getD (ix1286).toNatClampNeg 0) = (xs.getD 2 0) from by rw [e_ix1286]; rfl]) ?_
    refine s_callS 47 [(.int (xs.getD 2 0))] [] 0 C X d5_44 (mW 93 rfl) (mW 94 rfl) (mW 32 rfl) (mW 95 rfl) (rm_isBlank l Z a0 hw ((xs.getD 2 0)) _ n0 X.sz) (lenOf pd__C_Z rfl) rfl rfl rfl (fun T v h30 X q => ?_)
    obtain ⟨⟨rfl, b1312⟩ | ⟨rfl, b1312⟩, hE⟩ := q
    ·rw [hE] at X
     refine rc (st' := [.int i1]) rfl ?_
     refine s_if_eq 56 50 C X d5_47 (fun c => absurd c (by decide)) (fun _ => ?_)
     refine s_iinc 53 C X (l' := #[rv o24, iv i1, iv i2]) d5_50 kc_iconst_m1 rfl rfl ?_
     refine s_goto 32 C X d5_53 ?_
     refine s_iloadN 33 C X d5_32 rfl ?_
     refine s_iloadN 34 C X d5_33 rfl ?_
     refine s_icmp_le 56 37 C X d5_34 (fun c => absurd (by decide : i1 < i2) c) (fun _ => ?_)
     refine s_aloadN 38 C X d5_37 rfl rfl ?_
     refine s_iloadN 39 C X d5_38 rfl ?_
     refine s_iconst 40 C X d5_39 kc_iconst_1 ?_
     refine s_isub 41 C X d5_40 ?_
     refine rc (st' := [.int i1, .ref o24]) (by rw [kf_13]) ?_
     obtain ⟨ix1315, e_ix1315⟩ : ∃ zz_ : Int32, zz_ = i1 := ⟨_, rfl⟩
     refine rc (st' := [.int ix1315, .ref o24]) (by subst e_ix1315; rfl) ?_
     have hvx_ix1315 : own_ix xs ix1315 := by rw [e_ix1315]; exact ⟨by decide, by rw [hvL]; decide⟩
     refine s_callV 44 [.int ix1315] [] 0 C X d5_41 (mW 73 rfl) (mW 74 rfl) (nF C (mW 76 rfl)) (mW 76 rfl) (mW 75 rfl) (mW 11 rfl) (mW 77 rfl) E_o24 (rm_a31 l Z a0 hw cs fm o24 bF kF k_bF zF zsF xs ix1315 _ n0 X.sz S_cs S_fm S_ad S_hi S_lo E_o24 F_o24_a F_o24_k A_bF Od hv_cs hv_fm hvS hvx_ix1315) (lenOf pd__I_C rfl) rfl rfl rfl (fun T v hh X q => ?_)
     obtain ⟨rfl, Kc, Od⟩ := q
     have Rc := Rc.keep Kc so0
     have E_o24 := E_o24.keep Kc
     have F_o24_a := F_o24_a.keep Kc nin0
     have F_o24_k := F_o24_k.keep Kc nin0
     have A_bF := A_bF.keep Kc nin0
     have Kp := Kp.trans Kc all0
     refine rc (st' := [(.int (xs.getD (ix1315).toNatClampNeg 0))]) rfl ?_
     refine rc (st' := [(.int (xs.getD 1 0))]) (by rw [show (xs.getD (ix1315).toNatClampNeg 0) = (xs.getD 1 0) from by rw [e_ix1315]; rfl]) ?_
     refine s_callS 47 [(.int (xs.getD 1 0))] [] 0 C X d5_44 (mW 93 rfl) (mW 94 rfl) (mW 32 rfl) (mW 95 rfl) (rm_isBlank l Z a0 hw ((xs.getD 1 0)) _ n0 X.sz) (lenOf pd__C_Z rfl) rfl rfl rfl (fun T v h32 X q => ?_)
     obtain ⟨⟨rfl, b1341⟩ | ⟨rfl, b1341⟩, hE⟩ := q
     ·rw [hE] at X
      exact absurd b1341 b242
     ·rw [hE] at X
      refine rc (st' := [.int i0]) rfl ?_
      refine s_if_eq 56 50 C X d5_47 (fun _ => ?_) (fun c => absurd (by decide : i0 = i0) c)
      refine s_aloadN 57 C X d5_56 rfl rfl ?_
      refine s_iloadN 58 C X d5_57 rfl ?_
      refine s_iloadN 59 C X d5_58 rfl ?_
      obtain ⟨ev1343, e_ev1343⟩ : ∃ zz_ : Int32, zz_ = i2 := ⟨_, rfl⟩
      refine rc (st' := [.int ev1343, .int i1, .ref o24]) (by subst e_ev1343; rfl) ?_
      obtain ⟨sv1344, e_sv1344⟩ : ∃ zz_ : Int32, zz_ = i1 := ⟨_, rfl⟩
      refine rc (st' := [.int ev1343, .int sv1344, .ref o24]) (by subst e_sv1344; rfl) ?_
      have hvse : own_se xs sv1344 ev1343 := by rw [e_sv1344, e_ev1343]; exact ⟨by decide, by decide, by rw [hvL]; decide⟩
      refine s_hcallV 62 [.int sv1344, .int ev1343] [] 0 C X hS Rc.2 (own_EL hw) Rc.1.1 d5_59 (mW 45 rfl) (mW 46 rfl) (nF C (mW 48 rfl)) (mW 48 rfl) (mW 47 rfl) (mW 11 rfl) (mW 49 rfl) E_o24 (rm_a50 l Z a0 hw cs fm o24 bF kF k_bF zF zsF xs ev1343 sv1344 _ n0 X.sz S_cs S_fm S_ad S_hi S_lo E_o24 F_o24_a F_o24_k A_bF Od hv_cs hv_fm hvS hvse) (lenOf pd__II_Ljava_lang_String_ rfl) rfl rfl rfl so0 (fun T v hh vm k1 C X hS Nk Rn q => ?_)
      obtain ⟨bFq, kFq, k_bFq, lFq, rFq, zFq, zsFq, rfl, hvle, hvR, Kc, Od, E_rFq, F_rFq_k, F_rFq_a, A_bFq⟩ := q
      have Rc := Rc.call Rn Nk
      have Kp := Kp.trans Kc all0
      refine rc (st' := [.ref rFq]) rfl ?_
      refine s_areturn C X d5_62 rfl rfl rfl ?_ (FGH hG hS Rc C (own_EL hw))
      obtain ⟨sFt, e_sFt⟩ : ∃ z : Int32, z = sv1344 := ⟨_, rfl⟩
      obtain ⟨eFt, e_eFt⟩ : ∃ z : Int32, z = ev1343 := ⟨_, rfl⟩
      have js : sFt.toInt = 1 := by rw [e_sFt, e_sv1344]; decide
      have je : eFt.toInt = 2 := by rw [e_eFt, e_ev1343]; decide
      have jn := hvL
      have hvS : own_S xs sFt eFt := by
       refine ⟨⟨by omega, by omega, by omega⟩, fun i hi => ?_, fun i hi hj => ?_, ?_⟩
       ·have : i = 0 := by omega
        rcases this with rfl
        ·exact b210
       ·have : i = 2 ∨ i = 3 := by omega
        rcases this with rfl | rfl
        ·exact b1312
        ·exact b1283
       ·have k1 : sFt.toNatClampNeg = 1 := own_tn (k := 1) js
        rw [k1, je]
        exact Or.inl ⟨by omega, by omega, b242, b242⟩
      have hvl : lFq.toInt = eFt.toInt - sFt.toInt := by rw [e_sFt, e_eFt]; exact hvle
      have hvR : own_T (sl xs sFt.toNatClampNeg lFq.toNatClampNeg) kFq zFq zsFq := by rw [e_sFt]; exact hvR
      exact hQ _ _ ⟨bFq, eFt, kFq, k_bFq, lFq, rFq, sFt, zFq, zsFq, rfl, hvS, hvl, hvR, Kp, Od, E_rFq, F_rFq_k, F_rFq_a, A_bFq⟩
    ·rw [hE] at X
     refine rc (st' := [.int i0]) rfl ?_
     refine s_if_eq 56 50 C X d5_47 (fun _ => ?_) (fun c => absurd (by decide : i0 = i0) c)
     refine s_aloadN 57 C X d5_56 rfl rfl ?_
     refine s_iloadN 58 C X d5_57 rfl ?_
     refine s_iloadN 59 C X d5_58 rfl ?_
     obtain ⟨ev1554, e_ev1554⟩ : ∃ zz_ : Int32, zz_ = i3 := ⟨_, rfl⟩
     refine rc (st' := [.int ev1554, .int i1, .ref o24]) (by subst e_ev1554; rfl) ?_
     obtain ⟨sv1555, e_sv1555⟩ : ∃ zz_ : Int32, zz_ = i1 := ⟨_, rfl⟩
     refine rc (st' := [.int ev1554, .int sv1555, .ref o24]) (by subst e_sv1555; rfl) ?_
     have hvse : own_se xs sv1555 ev1554 := by rw [e_sv1555, e_ev1554]; exact ⟨by decide, by decide, by rw [hvL]; decide⟩
     refine s_hcallV 62 [.int sv1555, .int ev1554] [] 0 C X hS Rc.2 (own_EL hw) Rc.1.1 d5_59 (mW 45 rfl) (mW 46 rfl) (nF C (mW 48 rfl)) (mW 48 rfl) (mW 47 rfl) (mW 11 rfl) (mW 49 rfl) E_o24 (rm_a50 l Z a0 hw cs fm o24 bF kF k_bF zF zsF xs ev1554 sv1555 _ n0 X.sz S_cs S_fm S_ad S_hi S_lo E_o24 F_o24_a F_o24_k A_bF Od hv_cs hv_fm hvS hvse) (lenOf pd__II_Ljava_lang_String_ rfl) rfl rfl rfl so0 (fun T v hh vm k1 C X hS Nk Rn q => ?_)
     obtain ⟨bFq, kFq, k_bFq, lFq, rFq, zFq, zsFq, rfl, hvle, hvR, Kc, Od, E_rFq, F_rFq_k, F_rFq_a, A_bFq⟩ := q
     have Rc := Rc.call Rn Nk
     have Kp := Kp.trans Kc all0
     refine rc (st' := [.ref rFq]) rfl ?_
     refine s_areturn C X d5_62 rfl rfl rfl ?_ (FGH hG hS Rc C (own_EL hw))
     obtain ⟨sFt, e_sFt⟩ : ∃ z : Int32, z = sv1555 := ⟨_, rfl⟩
     obtain ⟨eFt, e_eFt⟩ : ∃ z : Int32, z = ev1554 := ⟨_, rfl⟩
     have js : sFt.toInt = 1 := by rw [e_sFt, e_sv1555]; decide
     have je : eFt.toInt = 3 := by rw [e_eFt, e_ev1554]; decide
     have jn := hvL
     have hvS : own_S xs sFt eFt := by
      refine ⟨⟨by omega, by omega, by omega⟩, fun i hi => ?_, fun i hi hj => ?_, ?_⟩
      ·have : i = 0 := by omega
       rcases this with rfl
       ·exact b210
      ·have : i = 3 := by omega
       rcases this with rfl
       ·exact b1283
      ·have k1 : sFt.toNatClampNeg = 1 := own_tn (k := 1) js
       rw [k1, je]
       exact Or.inl ⟨by omega, by omega, b242, b1312⟩
     have hvl : lFq.toInt = eFt.toInt - sFt.toInt := by rw [e_sFt, e_eFt]; exact hvle
     have hvR : own_T (sl xs sFt.toNatClampNeg lFq.toNatClampNeg) kFq zFq zsFq := by rw [e_sFt]; exact hvR
     exact hQ _ _ ⟨bFq, eFt, kFq, k_bFq, lFq, rFq, sFt, zFq, zsFq, rfl, hvS, hvl, hvR, Kp, Od, E_rFq, F_rFq_k, F_rFq_a, A_bFq⟩
   ·rw [hE] at X
    refine rc (st' := [.int i0]) rfl ?_
    refine s_if_eq 56 50 C X d5_47 (fun _ => ?_) (fun c => absurd (by decide : i0 = i0) c)
    refine s_aloadN 57 C X d5_56 rfl rfl ?_
    refine s_iloadN 58 C X d5_57 rfl ?_
    refine s_iloadN 59 C X d5_58 rfl ?_
    obtain ⟨ev1765, e_ev1765⟩ : ∃ zz_ : Int32, zz_ = i4 := ⟨_, rfl⟩
    refine rc (st' := [.int ev1765, .int i1, .ref o24]) (by subst e_ev1765; rfl) ?_
    obtain ⟨sv1766, e_sv1766⟩ : ∃ zz_ : Int32, zz_ = i1 := ⟨_, rfl⟩
    refine rc (st' := [.int ev1765, .int sv1766, .ref o24]) (by subst e_sv1766; rfl) ?_
    have hvse : own_se xs sv1766 ev1765 := by rw [e_sv1766, e_ev1765]; exact ⟨by decide, by decide, by rw [hvL]; decide⟩
    refine s_hcallV 62 [.int sv1766, .int ev1765] [] 0 C X hS Rc.2 (own_EL hw) Rc.1.1 d5_59 (mW 45 rfl) (mW 46 rfl) (nF C (mW 48 rfl)) (mW 48 rfl) (mW 47 rfl) (mW 11 rfl) (mW 49 rfl) E_o24 (rm_a50 l Z a0 hw cs fm o24 bF kF k_bF zF zsF xs ev1765 sv1766 _ n0 X.sz S_cs S_fm S_ad S_hi S_lo E_o24 F_o24_a F_o24_k A_bF Od hv_cs hv_fm hvS hvse) (lenOf pd__II_Ljava_lang_String_ rfl) rfl rfl rfl so0 (fun T v hh vm k1 C X hS Nk Rn q => ?_)
    obtain ⟨bFq, kFq, k_bFq, lFq, rFq, zFq, zsFq, rfl, hvle, hvR, Kc, Od, E_rFq, F_rFq_k, F_rFq_a, A_bFq⟩ := q
    have Rc := Rc.call Rn Nk
    have Kp := Kp.trans Kc all0
    refine rc (st' := [.ref rFq]) rfl ?_
    refine s_areturn C X d5_62 rfl rfl rfl ?_ (FGH hG hS Rc C (own_EL hw))
    obtain ⟨sFt, e_sFt⟩ : ∃ z : Int32, z = sv1766 := ⟨_, rfl⟩
    obtain ⟨eFt, e_eFt⟩ : ∃ z : Int32, z = ev1765 := ⟨_, rfl⟩
    have js : sFt.toInt = 1 := by rw [e_sFt, e_sv1766]; decide
    have je : eFt.toInt = 4 := by rw [e_eFt, e_ev1765]; decide
    have jn := hvL
    have hvS : own_S xs sFt eFt := by
     refine ⟨⟨by omega, by omega, by omega⟩, fun i hi => ?_, fun i hi hj => ?_, ?_⟩
     ·have : i = 0 := by omega
      rcases this with rfl
      ·exact b210
     ·omega
     ·have k1 : sFt.toNatClampNeg = 1 := own_tn (k := 1) js
      rw [k1, je]
      exact Or.inl ⟨by omega, by omega, b242, b1283⟩
    have hvl : lFq.toInt = eFt.toInt - sFt.toInt := by rw [e_sFt, e_eFt]; exact hvle
    have hvR : own_T (sl xs sFt.toNatClampNeg lFq.toNatClampNeg) kFq zFq zsFq := by rw [e_sFt]; exact hvR
    exact hQ _ _ ⟨bFq, eFt, kFq, k_bFq, lFq, rFq, sFt, zFq, zsFq, rfl, hvS, hvl, hvR, Kp, Od, E_rFq, F_rFq_k, F_rFq_a, A_bFq⟩
 ·rw [hE] at X
  refine rc (st' := [.int i0]) rfl ?_
  refine s_if_eq 27 21 C X d5_18 (fun _ => ?_) (fun c => absurd (by decide : i0 = i0) c)
  refine s_aloadN 28 C X d5_27 rfl rfl ?_
  refine s_callV 31 [] [] 0 C X d5_28 (mW 34 rfl) (mW 35 rfl) (nF C (mW 37 rfl)) (mW 37 rfl) (mW 36 rfl) (mW 11 rfl) (mW 38 rfl) E_o24 (rm_a20 l Z a0 hw cs o24 bF kF k_bF zF zsF xs _ n0 X.sz S_cs E_o24 F_o24_a F_o24_k Od A_bF hv_cs hvS) (lenOf pd___I rfl) rfl rfl rfl (fun T v hh X q => ?_)
  obtain ⟨rfl, Kc, Od⟩ := q
  have Rc := Rc.keep Kc so0
  have E_o24 := E_o24.keep Kc
  have F_o24_a := F_o24_a.keep Kc nin0
  have F_o24_k := F_o24_k.keep Kc nin0
  have A_bF := A_bF.keep Kc nin0
  have Kp := Kp.trans Kc all0
  refine rc (st' := [(.int (zF >>> (kF &&& 31)))]) rfl ?_
  refine rc (st' := [.int i4]) (by rw [own_lenN hvS hvL (L := i4) (by decide)]) ?_
  refine s_istoreN 32 C X (l' := #[rv o24, iv i0, iv i4]) d5_31 rfl ?_
  refine s_iloadN 33 C X d5_32 rfl ?_
  refine s_iloadN 34 C X d5_33 rfl ?_
  refine s_icmp_le 56 37 C X d5_34 (fun c => absurd (by decide : i0 < i4) c) (fun _ => ?_)
  refine s_aloadN 38 C X d5_37 rfl rfl ?_
  refine s_iloadN 39 C X d5_38 rfl ?_
  refine s_iconst 40 C X d5_39 kc_iconst_1 ?_
  refine s_isub 41 C X d5_40 ?_
  refine rc (st' := [.int i3, .ref o24]) (by rw [kf_11]) ?_
  obtain ⟨ix1980, e_ix1980⟩ : ∃ zz_ : Int32, zz_ = i3 := ⟨_, rfl⟩
  refine rc (st' := [.int ix1980, .ref o24]) (by subst e_ix1980; rfl) ?_
  have hvx_ix1980 : own_ix xs ix1980 := by rw [e_ix1980]; exact ⟨by decide, by rw [hvL]; decide⟩
  refine s_callV 44 [.int ix1980] [] 0 C X d5_41 (mW 73 rfl) (mW 74 rfl) (nF C (mW 76 rfl)) (mW 76 rfl) (mW 75 rfl) (mW 11 rfl) (mW 77 rfl) E_o24 (rm_a31 l Z a0 hw cs fm o24 bF kF k_bF zF zsF xs ix1980 _ n0 X.sz S_cs S_fm S_ad S_hi S_lo E_o24 F_o24_a F_o24_k A_bF Od hv_cs hv_fm hvS hvx_ix1980) (lenOf pd__I_C rfl) rfl rfl rfl (fun T v hh X q => ?_)
  obtain ⟨rfl, Kc, Od⟩ := q
  have Rc := Rc.keep Kc so0
  have E_o24 := E_o24.keep Kc
  have F_o24_a := F_o24_a.keep Kc nin0
  have F_o24_k := F_o24_k.keep Kc nin0
  have A_bF := A_bF.keep Kc nin0
  have Kp := Kp.trans Kc all0
  refine rc (st' := [(.int (xs.getD (ix1980).toNatClampNeg 0))]) rfl ?_
  refine rc (st' := [(.int (xs.getD 3 0))]) (by rw [show (xs.getD (ix1980).toNatClampNeg 0) = (xs.getD 3 0) from by rw [e_ix1980]; rfl]) ?_
  refine s_callS 47 [(.int (xs.getD 3 0))] [] 0 C X d5_44 (mW 93 rfl) (mW 94 rfl) (mW 32 rfl) (mW 95 rfl) (rm_isBlank l Z a0 hw ((xs.getD 3 0)) _ n0 X.sz) (lenOf pd__C_Z rfl) rfl rfl rfl (fun T v h38 X q => ?_)
  obtain ⟨⟨rfl, b2006⟩ | ⟨rfl, b2006⟩, hE⟩ := q
  ·rw [hE] at X
   refine rc (st' := [.int i1]) rfl ?_
   refine s_if_eq 56 50 C X d5_47 (fun c => absurd c (by decide)) (fun _ => ?_)
   refine s_iinc 53 C X (l' := #[rv o24, iv i0, iv i3]) d5_50 kc_iconst_m1 rfl rfl ?_
   refine s_goto 32 C X d5_53 ?_
   refine s_iloadN 33 C X d5_32 rfl ?_
   refine s_iloadN 34 C X d5_33 rfl ?_
   refine s_icmp_le 56 37 C X d5_34 (fun c => absurd (by decide : i0 < i3) c) (fun _ => ?_)
   refine s_aloadN 38 C X d5_37 rfl rfl ?_
   refine s_iloadN 39 C X d5_38 rfl ?_
   refine s_iconst 40 C X d5_39 kc_iconst_1 ?_
   refine s_isub 41 C X d5_40 ?_
   refine rc (st' := [.int i2, .ref o24]) (by rw [kf_12]) ?_
   obtain ⟨ix2009, e_ix2009⟩ : ∃ zz_ : Int32, zz_ = i2 := ⟨_, rfl⟩
   refine rc (st' := [.int ix2009, .ref o24]) (by subst e_ix2009; rfl) ?_
   have hvx_ix2009 : own_ix xs ix2009 := by rw [e_ix2009]; exact ⟨by decide, by rw [hvL]; decide⟩
   refine s_callV 44 [.int ix2009] [] 0 C X d5_41 (mW 73 rfl) (mW 74 rfl) (nF C (mW 76 rfl)) (mW 76 rfl) (mW 75 rfl) (mW 11 rfl) (mW 77 rfl) E_o24 (rm_a31 l Z a0 hw cs fm o24 bF kF k_bF zF zsF xs ix2009 _ n0 X.sz S_cs S_fm S_ad S_hi S_lo E_o24 F_o24_a F_o24_k A_bF Od hv_cs hv_fm hvS hvx_ix2009) (lenOf pd__I_C rfl) rfl rfl rfl (fun T v hh X q => ?_)
   obtain ⟨rfl, Kc, Od⟩ := q
   have Rc := Rc.keep Kc so0
   have E_o24 := E_o24.keep Kc
   have F_o24_a := F_o24_a.keep Kc nin0
   have F_o24_k := F_o24_k.keep Kc nin0
   have A_bF := A_bF.keep Kc nin0
   have Kp := Kp.trans Kc all0
   refine rc (st' := [(.int (xs.getD (ix2009).toNatClampNeg 0))]) rfl ?_
   refine rc (st' := [(.int (xs.getD 2 0))]) (by rw [show (xs.getD (ix2009).toNatClampNeg 0) = (xs.getD 2 0) from by rw [e_ix2009]; rfl]) ?_
   refine s_callS 47 [(.int (xs.getD 2 0))] [] 0 C X d5_44 (mW 93 rfl) (mW 94 rfl) (mW 32 rfl) (mW 95 rfl) (rm_isBlank l Z a0 hw ((xs.getD 2 0)) _ n0 X.sz) (lenOf pd__C_Z rfl) rfl rfl rfl (fun T v h40 X q => ?_)
   obtain ⟨⟨rfl, b2035⟩ | ⟨rfl, b2035⟩, hE⟩ := q
   ·rw [hE] at X
    refine rc (st' := [.int i1]) rfl ?_
    refine s_if_eq 56 50 C X d5_47 (fun c => absurd c (by decide)) (fun _ => ?_)
    refine s_iinc 53 C X (l' := #[rv o24, iv i0, iv i2]) d5_50 kc_iconst_m1 rfl rfl ?_
    refine s_goto 32 C X d5_53 ?_
    refine s_iloadN 33 C X d5_32 rfl ?_
    refine s_iloadN 34 C X d5_33 rfl ?_
    refine s_icmp_le 56 37 C X d5_34 (fun c => absurd (by decide : i0 < i2) c) (fun _ => ?_)
    refine s_aloadN 38 C X d5_37 rfl rfl ?_
    refine s_iloadN 39 C X d5_38 rfl ?_
    refine s_iconst 40 C X d5_39 kc_iconst_1 ?_
    refine s_isub 41 C X d5_40 ?_
    refine rc (st' := [.int i1, .ref o24]) (by rw [kf_13]) ?_
    obtain ⟨ix2038, e_ix2038⟩ : ∃ zz_ : Int32, zz_ = i1 := ⟨_, rfl⟩
    refine rc (st' := [.int ix2038, .ref o24]) (by subst e_ix2038; rfl) ?_
    have hvx_ix2038 : own_ix xs ix2038 := by rw [e_ix2038]; exact ⟨by decide, by rw [hvL]; decide⟩
    refine s_callV 44 [.int ix2038] [] 0 C X d5_41 (mW 73 rfl) (mW 74 rfl) (nF C (mW 76 rfl)) (mW 76 rfl) (mW 75 rfl) (mW 11 rfl) (mW 77 rfl) E_o24 (rm_a31 l Z a0 hw cs fm o24 bF kF k_bF zF zsF xs ix2038 _ n0 X.sz S_cs S_fm S_ad S_hi S_lo E_o24 F_o24_a F_o24_k A_bF Od hv_cs hv_fm hvS hvx_ix2038) (lenOf pd__I_C rfl) rfl rfl rfl (fun T v hh X q => ?_)
    obtain ⟨rfl, Kc, Od⟩ := q
    have Rc := Rc.keep Kc so0
    have E_o24 := E_o24.keep Kc
    have F_o24_a := F_o24_a.keep Kc nin0
    have F_o24_k := F_o24_k.keep Kc nin0
    have A_bF := A_bF.keep Kc nin0
    have Kp := Kp.trans Kc all0
    refine rc (st' := [(.int (xs.getD (ix2038).toNatClampNeg 0))]) rfl ?_
    refine rc (st' := [(.int (xs.getD 1 0))]) (by rw [show (xs.getD (ix2038).toNatClampNeg 0) = (xs.getD 1 0) from by rw [e_ix2038]; rfl]) ?_
    refine s_callS 47 [(.int (xs.getD 1 0))] [] 0 C X d5_44 (mW 93 rfl) (mW 94 rfl) (mW 32 rfl) (mW 95 rfl) (rm_isBlank l Z a0 hw ((xs.getD 1 0)) _ n0 X.sz) (lenOf pd__C_Z rfl) rfl rfl rfl (fun T v h42 X q => ?_)
    obtain ⟨⟨rfl, b2064⟩ | ⟨rfl, b2064⟩, hE⟩ := q
    ·rw [hE] at X
     refine rc (st' := [.int i1]) rfl ?_
     refine s_if_eq 56 50 C X d5_47 (fun c => absurd c (by decide)) (fun _ => ?_)
     refine s_iinc 53 C X (l' := #[rv o24, iv i0, iv i1]) d5_50 kc_iconst_m1 rfl rfl ?_
     refine s_goto 32 C X d5_53 ?_
     refine s_iloadN 33 C X d5_32 rfl ?_
     refine s_iloadN 34 C X d5_33 rfl ?_
     refine s_icmp_le 56 37 C X d5_34 (fun c => absurd (by decide : i0 < i1) c) (fun _ => ?_)
     refine s_aloadN 38 C X d5_37 rfl rfl ?_
     refine s_iloadN 39 C X d5_38 rfl ?_
     refine s_iconst 40 C X d5_39 kc_iconst_1 ?_
     refine s_isub 41 C X d5_40 ?_
     refine rc (st' := [.int i0, .ref o24]) (by rw [kf_14]) ?_
     obtain ⟨ix2067, e_ix2067⟩ : ∃ zz_ : Int32, zz_ = i0 := ⟨_, rfl⟩
     refine rc (st' := [.int ix2067, .ref o24]) (by subst e_ix2067; rfl) ?_
     have hvx_ix2067 : own_ix xs ix2067 := by rw [e_ix2067]; exact ⟨by decide, by rw [hvL]; decide⟩
     refine s_callV 44 [.int ix2067] [] 0 C X d5_41 (mW 73 rfl) (mW 74 rfl) (nF C (mW 76 rfl)) (mW 76 rfl) (mW 75 rfl) (mW 11 rfl) (mW 77 rfl) E_o24 (rm_a31 l Z a0 hw cs fm o24 bF kF k_bF zF zsF xs ix2067 _ n0 X.sz S_cs S_fm S_ad S_hi S_lo E_o24 F_o24_a F_o24_k A_bF Od hv_cs hv_fm hvS hvx_ix2067) (lenOf pd__I_C rfl) rfl rfl rfl (fun T v hh X q => ?_)
     obtain ⟨rfl, Kc, Od⟩ := q
     have Rc := Rc.keep Kc so0
     have E_o24 := E_o24.keep Kc
     have F_o24_a := F_o24_a.keep Kc nin0
     have F_o24_k := F_o24_k.keep Kc nin0
     have A_bF := A_bF.keep Kc nin0
     have Kp := Kp.trans Kc all0
     refine rc (st' := [(.int (xs.getD (ix2067).toNatClampNeg 0))]) rfl ?_
     refine rc (st' := [(.int (xs.getD 0 0))]) (by rw [show (xs.getD (ix2067).toNatClampNeg 0) = (xs.getD 0 0) from by rw [e_ix2067]; rfl]) ?_
     refine s_callS 47 [(.int (xs.getD 0 0))] [] 0 C X d5_44 (mW 93 rfl) (mW 94 rfl) (mW 32 rfl) (mW 95 rfl) (rm_isBlank l Z a0 hw ((xs.getD 0 0)) _ n0 X.sz) (lenOf pd__C_Z rfl) rfl rfl rfl (fun T v h44 X q => ?_)
     obtain ⟨⟨rfl, b2093⟩ | ⟨rfl, b2093⟩, hE⟩ := q
     ·rw [hE] at X
      exact absurd b2093 b210
     ·rw [hE] at X
      refine rc (st' := [.int i0]) rfl ?_
      refine s_if_eq 56 50 C X d5_47 (fun _ => ?_) (fun c => absurd (by decide : i0 = i0) c)
      refine s_aloadN 57 C X d5_56 rfl rfl ?_
      refine s_iloadN 58 C X d5_57 rfl ?_
      refine s_iloadN 59 C X d5_58 rfl ?_
      obtain ⟨ev2095, e_ev2095⟩ : ∃ zz_ : Int32, zz_ = i1 := ⟨_, rfl⟩
      refine rc (st' := [.int ev2095, .int i0, .ref o24]) (by subst e_ev2095; rfl) ?_
      obtain ⟨sv2096, e_sv2096⟩ : ∃ zz_ : Int32, zz_ = i0 := ⟨_, rfl⟩
      refine rc (st' := [.int ev2095, .int sv2096, .ref o24]) (by subst e_sv2096; rfl) ?_
      have hvse : own_se xs sv2096 ev2095 := by rw [e_sv2096, e_ev2095]; exact ⟨by decide, by decide, by rw [hvL]; decide⟩
      refine s_hcallV 62 [.int sv2096, .int ev2095] [] 0 C X hS Rc.2 (own_EL hw) Rc.1.1 d5_59 (mW 45 rfl) (mW 46 rfl) (nF C (mW 48 rfl)) (mW 48 rfl) (mW 47 rfl) (mW 11 rfl) (mW 49 rfl) E_o24 (rm_a50 l Z a0 hw cs fm o24 bF kF k_bF zF zsF xs ev2095 sv2096 _ n0 X.sz S_cs S_fm S_ad S_hi S_lo E_o24 F_o24_a F_o24_k A_bF Od hv_cs hv_fm hvS hvse) (lenOf pd__II_Ljava_lang_String_ rfl) rfl rfl rfl so0 (fun T v hh vm k1 C X hS Nk Rn q => ?_)
      obtain ⟨bFq, kFq, k_bFq, lFq, rFq, zFq, zsFq, rfl, hvle, hvR, Kc, Od, E_rFq, F_rFq_k, F_rFq_a, A_bFq⟩ := q
      have Rc := Rc.call Rn Nk
      have Kp := Kp.trans Kc all0
      refine rc (st' := [.ref rFq]) rfl ?_
      refine s_areturn C X d5_62 rfl rfl rfl ?_ (FGH hG hS Rc C (own_EL hw))
      obtain ⟨sFt, e_sFt⟩ : ∃ z : Int32, z = sv2096 := ⟨_, rfl⟩
      obtain ⟨eFt, e_eFt⟩ : ∃ z : Int32, z = ev2095 := ⟨_, rfl⟩
      have js : sFt.toInt = 0 := by rw [e_sFt, e_sv2096]; decide
      have je : eFt.toInt = 1 := by rw [e_eFt, e_ev2095]; decide
      have jn := hvL
      have hvS : own_S xs sFt eFt := by
       refine ⟨⟨by omega, by omega, by omega⟩, fun i hi => ?_, fun i hi hj => ?_, ?_⟩
       ·omega
       ·have : i = 1 ∨ i = 2 ∨ i = 3 := by omega
        rcases this with rfl | rfl | rfl
        ·exact b2064
        ·exact b2035
        ·exact b2006
       ·have k1 : sFt.toNatClampNeg = 0 := own_tn (k := 0) js
        rw [k1, je]
        exact Or.inl ⟨by omega, by omega, b210, b210⟩
      have hvl : lFq.toInt = eFt.toInt - sFt.toInt := by rw [e_sFt, e_eFt]; exact hvle
      have hvR : own_T (sl xs sFt.toNatClampNeg lFq.toNatClampNeg) kFq zFq zsFq := by rw [e_sFt]; exact hvR
      exact hQ _ _ ⟨bFq, eFt, kFq, k_bFq, lFq, rFq, sFt, zFq, zsFq, rfl, hvS, hvl, hvR, Kp, Od, E_rFq, F_rFq_k, F_rFq_a, A_bFq⟩
    ·rw [hE] at X
     refine rc (st' := [.int i0]) rfl ?_
     refine s_if_eq 56 50 C X d5_47 (fun _ => ?_) (fun c => absurd (by decide : i0 = i0) c)
     refine s_aloadN 57 C X d5_56 rfl rfl ?_
     refine s_iloadN 58 C X d5_57 rfl ?_
     refine s_iloadN 59 C X d5_58 rfl ?_
     obtain ⟨ev2306, e_ev2306⟩ : ∃ zz_ : Int32, zz_ = i2 := ⟨_, rfl⟩
     refine rc (st' := [.int ev2306, .int i0, .ref o24]) (by subst e_ev2306; rfl) ?_
     obtain ⟨sv2307, e_sv2307⟩ : ∃ zz_ : Int32, zz_ = i0 := ⟨_, rfl⟩
     refine rc (st' := [.int ev2306, .int sv2307, .ref o24]) (by subst e_sv2307; rfl) ?_
     have hvse : own_se xs sv2307 ev2306 := by rw [e_sv2307, e_ev2306]; exact ⟨by decide, by decide, by rw [hvL]; decide⟩
     refine s_hcallV 62 [.int sv2307, .int ev2306] [] 0 C X hS Rc.2 (own_EL hw) Rc.1.1 d5_59 (mW 45 rfl) (mW 46 rfl) (nF C (mW 48 rfl)) (mW 48 rfl) (mW 47 rfl) (mW 11 rfl) (mW 49 rfl) E_o24 (rm_a50 l Z a0 hw cs fm o24 bF kF k_bF zF zsF xs ev2306 sv2307 _ n0 X.sz S_cs S_fm S_ad S_hi S_lo E_o24 F_o24_a F_o24_k A_bF Od hv_cs hv_fm hvS hvse) (lenOf pd__II_Ljava_lang_String_ rfl) rfl rfl rfl so0 (fun T v hh vm k1 C X hS Nk Rn q => ?_)
     obtain ⟨bFq, kFq, k_bFq, lFq, rFq, zFq, zsFq, rfl, hvle, hvR, Kc, Od, E_rFq, F_rFq_k, F_rFq_a, A_bFq⟩ := q
     have Rc := Rc.call Rn Nk
     have Kp := Kp.trans Kc all0
     refine rc (st' := [.ref rFq]) rfl ?_
     refine s_areturn C X d5_62 rfl rfl rfl ?_ (FGH hG hS Rc C (own_EL hw))
     obtain ⟨sFt, e_sFt⟩ : ∃ z : Int32, z = sv2307 := ⟨_, rfl⟩
     obtain ⟨eFt, e_eFt⟩ : ∃ z : Int32, z = ev2306 := ⟨_, rfl⟩
     have js : sFt.toInt = 0 := by rw [e_sFt, e_sv2307]; decide
     have je : eFt.toInt = 2 := by rw [e_eFt, e_ev2306]; decide
     have jn := hvL
     have hvS : own_S xs sFt eFt := by
      refine ⟨⟨by omega, by omega, by omega⟩, fun i hi => ?_, fun i hi hj => ?_, ?_⟩
      ·omega
      ·have : i = 2 ∨ i = 3 := by omega
       rcases this with rfl | rfl
       ·exact b2035
       ·exact b2006
      ·have k1 : sFt.toNatClampNeg = 0 := own_tn (k := 0) js
       rw [k1, je]
       exact Or.inl ⟨by omega, by omega, b210, b2064⟩
     have hvl : lFq.toInt = eFt.toInt - sFt.toInt := by rw [e_sFt, e_eFt]; exact hvle
     have hvR : own_T (sl xs sFt.toNatClampNeg lFq.toNatClampNeg) kFq zFq zsFq := by rw [e_sFt]; exact hvR
     exact hQ _ _ ⟨bFq, eFt, kFq, k_bFq, lFq, rFq, sFt, zFq, zsFq, rfl, hvS, hvl, hvR, Kp, Od, E_rFq, F_rFq_k, F_rFq_a, A_bFq⟩
   ·rw [hE] at X
    refine rc (st' := [.int i0]) rfl ?_
    refine s_if_eq 56 50 C X d5_47 (fun _ => ?_) (fun c => absurd (by decide : i0 = i0) c)
    refine s_aloadN 57 C X d5_56 rfl rfl ?_
    refine s_iloadN 58 C X d5_57 rfl ?_
    refine s_iloadN 59 C X d5_58 rfl ?_
    obtain ⟨ev2517, e_ev2517⟩ : ∃ zz_ : Int32, zz_ = i3 := ⟨_, rfl⟩
    refine rc (st' := [.int ev2517, .int i0, .ref o24]) (by subst e_ev2517; rfl) ?_
    obtain ⟨sv2518, e_sv2518⟩ : ∃ zz_ : Int32, zz_ = i0 := ⟨_, rfl⟩
    refine rc (st' := [.int ev2517, .int sv2518, .ref o24]) (by subst e_sv2518; rfl) ?_
    have hvse : own_se xs sv2518 ev2517 := by rw [e_sv2518, e_ev2517]; exact ⟨by decide, by decide, by rw [hvL]; decide⟩
    refine s_hcallV 62 [.int sv2518, .int ev2517] [] 0 C X hS Rc.2 (own_EL hw) Rc.1.1 d5_59 (mW 45 rfl) (mW 46 rfl) (nF C (mW 48 rfl)) (mW 48 rfl) (mW 47 rfl) (mW 11 rfl) (mW 49 rfl) E_o24 (rm_a50 l Z a0 hw cs fm o24 bF kF k_bF zF zsF xs ev2517 sv2518 _ n0 X.sz S_cs S_fm S_ad S_hi S_lo E_o24 F_o24_a F_o24_k A_bF Od hv_cs hv_fm hvS hvse) (lenOf pd__II_Ljava_lang_String_ rfl) rfl rfl rfl so0 (fun T v hh vm k1 C X hS Nk Rn q => ?_)
    obtain ⟨bFq, kFq, k_bFq, lFq, rFq, zFq, zsFq, rfl, hvle, hvR, Kc, Od, E_rFq, F_rFq_k, F_rFq_a, A_bFq⟩ := q
    have Rc := Rc.call Rn Nk
    have Kp := Kp.trans Kc all0
    refine rc (st' := [.ref rFq]) rfl ?_
    refine s_areturn C X d5_62 rfl rfl rfl ?_ (FGH hG hS Rc C (own_EL hw))
    obtain ⟨sFt, e_sFt⟩ : ∃ z : Int32, z = sv2518 := ⟨_, rfl⟩
    obtain ⟨eFt, e_eFt⟩ : ∃ z : Int32, z = ev2517 := ⟨_, rfl⟩
    have js : sFt.toInt = 0 := by rw [e_sFt, e_sv2518]; decide
    have je : eFt.toInt = 3 := by rw [e_eFt, e_ev2517]; decide
    have jn := hvL
    have hvS : own_S xs sFt eFt := by
     refine ⟨⟨by omega, by omega, by omega⟩, fun i hi => ?_, fun i hi hj => ?_, ?_⟩
     ·omega
     ·have : i = 3 := by omega
      rcases this with rfl
      ·exact b2006
     ·have k1 : sFt.toNatClampNeg = 0 := own_tn (k := 0) js
      rw [k1, je]
      exact Or.inl ⟨by omega, by omega, b210, b2035⟩
    have hvl : lFq.toInt = eFt.toInt - sFt.toInt := by rw [e_sFt, e_eFt]; exact hvle
    have hvR : own_T (sl xs sFt.toNatClampNeg lFq.toNatClampNeg) kFq zFq zsFq := by rw [e_sFt]; exact hvR
    exact hQ _ _ ⟨bFq, eFt, kFq, k_bFq, lFq, rFq, sFt, zFq, zsFq, rfl, hvS, hvl, hvR, Kp, Od, E_rFq, F_rFq_k, F_rFq_a, A_bFq⟩
  ·rw [hE] at X
   refine rc (st' := [.int i0]) rfl ?_
   refine s_if_eq 56 50 C X d5_47 (fun _ => ?_) (fun c => absurd (by decide : i0 = i0) c)
   refine s_aloadN 57 C X d5_56 rfl rfl ?_
   refine s_iloadN 58 C X d5_57 rfl ?_
   refine s_iloadN 59 C X d5_58 rfl ?_
   obtain ⟨ev2728, e_ev2728⟩ : ∃ zz_ : Int32, zz_ = i4 := ⟨_, rfl⟩
   refine rc (st' := [.int ev2728, .int i0, .ref o24]) (by subst e_ev2728; rfl) ?_
   obtain ⟨sv2729, e_sv2729⟩ : ∃ zz_ : Int32, zz_ = i0 := ⟨_, rfl⟩
   refine rc (st' := [.int ev2728, .int sv2729, .ref o24]) (by subst e_sv2729; rfl) ?_
   have hvse : own_se xs sv2729 ev2728 := by rw [e_sv2729, e_ev2728]; exact ⟨by decide, by decide, by rw [hvL]; decide⟩
   refine s_hcallV 62 [.int sv2729, .int ev2728] [] 0 C X hS Rc.2 (own_EL hw) Rc.1.1 d5_59 (mW 45 rfl) (mW 46 rfl) (nF C (mW 48 rfl)) (mW 48 rfl) (mW 47 rfl) (mW 11 rfl) (mW 49 rfl) E_o24 (rm_a50 l Z a0 hw cs fm o24 bF kF k_bF zF zsF xs ev2728 sv2729 _ n0 X.sz S_cs S_fm S_ad S_hi S_lo E_o24 F_o24_a F_o24_k A_bF Od hv_cs hv_fm hvS hvse) (lenOf pd__II_Ljava_lang_String_ rfl) rfl rfl rfl so0 (fun T v hh vm k1 C X hS Nk Rn q => ?_)
   obtain ⟨bFq, kFq, k_bFq, lFq, rFq, zFq, zsFq, rfl, hvle, hvR, Kc, Od, E_rFq, F_rFq_k, F_rFq_a, A_bFq⟩ := q
   have Rc := Rc.call Rn Nk
   have Kp := Kp.trans Kc all0
   refine rc (st' := [.ref rFq]) rfl ?_
   refine s_areturn C X d5_62 rfl rfl rfl ?_ (FGH hG hS Rc C (own_EL hw))
   obtain ⟨sFt, e_sFt⟩ : ∃ z : Int32, z = sv2729 := ⟨_, rfl⟩
   obtain ⟨eFt, e_eFt⟩ : ∃ z : Int32, z = ev2728 := ⟨_, rfl⟩
   have js : sFt.toInt = 0 := by rw [e_sFt, e_sv2729]; decide
   have je : eFt.toInt = 4 := by rw [e_eFt, e_ev2728]; decide
   have jn := hvL
   have hvS : own_S xs sFt eFt := by
    refine ⟨⟨by omega, by omega, by omega⟩, fun i hi => ?_, fun i hi hj => ?_, ?_⟩
    ·omega
    ·omega
    ·have k1 : sFt.toNatClampNeg = 0 := own_tn (k := 0) js
     rw [k1, je]
     exact Or.inl ⟨by omega, by omega, b210, b2006⟩
   have hvl : lFq.toInt = eFt.toInt - sFt.toInt := by rw [e_sFt, e_eFt]; exact hvle
   have hvR : own_T (sl xs sFt.toNatClampNeg lFq.toNatClampNeg) kFq zFq zsFq := by rw [e_sFt]; exact hvR
   exact hQ _ _ ⟨bFq, eFt, kFq, k_bFq, lFq, rFq, sFt, zFq, zsFq, rfl, hvS, hvl, hvR, Kp, Od, E_rFq, F_rFq_k, F_rFq_a, A_bFq⟩
theorem rm_a52 (hw : Hw a0 Z) (yF : Int32) (yF_8 : Int32) (yF_13 : Int32) (o2940 : Addr) (k_o2940 : ClassId) (o2943 : Addr) (k_o2943 : ClassId) (h0 : Heap) (n0 : Nat) (Z0 : n0 ≤ h0.size) (A_o2940 : Arv Z h0 o2940 k_o2940 .char i3 [.int yF, .int yF_8, .int yF_13] (.int i0)) (A_o2943 : Arv Z h0 o2943 k_o2943 .byte i3 [.int i0, .int i0, .int i0] (.int i0)) (ne_o2940_o2943 : o2940 ≠ o2943) (g_o2943 : n0 ≤ o2943) :
  Met l Z (⟨cU, "compress", "([CI[BII)I"⟩ : MethodName) jdk_52_method_21_code 7 (some .int) (rM 0 0 0 0) [] #[.ref o2940, .int i0, .ref o2943, .int i0, .int i3] h0 n0 (fun v h => (v = some (.int i3) ∧ ¬ i255 < yF ∧ ¬ i255 < yF_8 ∧ ¬ i255 < yF_13 ∧ Arv Z h o2943 k_o2943 .byte i3 [(.int (bv yF)), (.int (bv yF_8)), (.int (bv yF_13))] (.int i0) ∧ Keep h0 h [o2943]) ∨ (v = some (.int i2) ∧ ¬ i255 < yF ∧ ¬ i255 < yF_8 ∧ i255 < yF_13 ∧ Arv Z h o2943 k_o2943 .byte i3 [(.int (bv yF)), (.int (bv yF_8)), .int i0] (.int i0) ∧ Keep h0 h [o2943]) ∨ (v = some (.int i1) ∧ ¬ i255 < yF ∧ i255 < yF_8 ∧ Arv Z h o2943 k_o2943 .byte i3 [(.int (bv yF)), .int i0, .int i0] (.int i0) ∧ Keep h0 h [o2943]) ∨ (v = some (.int i0) ∧ i255 < yF ∧ Arv Z h o2943 k_o2943 .byte i3 [.int i0, .int i0, .int i0] (.int i0) ∧ Keep h0 h [o2943])) := by
 refine Met.mkQ (tabs := tables_1) (a0 := a0) (ls0 := #[rv o2940, iv i0, rv o2943, iv i0, iv i3, un, un]) (plainFor_of_name pn_java_lang_StringUTF16) hw Z0 (fun m => by first | (simp [entryFrame, mkF, argsToLocals, Value.category]; done) | rfl) ?_
 intro p e s m below meth c T Q' G' hQ hG C X
 have Kp : Keep h0 h0 [o2943] := Keep.refl _ _
 refine s_iconst 1 C X d12_0 kc_iconst_0 ?_
 refine s_istore 3 C X (l' := #[rv o2940, iv i0, rv o2943, iv i0, iv i3, iv i0, un]) d12_1 rfl ?_
 refine s_iload 5 C X d12_3 rfl ?_
 refine s_iload 7 C X d12_5 rfl ?_
 refine s_icmp_ge 44 10 C X d12_7 (fun c => absurd (by decide : i0 < i3) c) (fun _ => ?_)
 refine s_aloadN 11 C X d12_10 rfl rfl ?_
 refine s_iloadN 12 C X d12_11 rfl ?_
 refine s_caload 13 C X d12_12 A_o2940 ⟨by decide, by decide⟩ (v := (.int yF)) rfl ?_
 refine s_istore 15 C X (l' := #[rv o2940, iv i0, rv o2943, iv i0, iv i3, iv i0, iv yF]) d12_13 rfl ?_
 refine s_iload 17 C X d12_15 rfl ?_
 refine s_sipush 20 C X d12_17 kc_sipush_255 ?_
 refine s_icmp_le 26 23 C X d12_20 (fun c20_2945 => ?_) (fun c20_2945 => ?_)
 ·have t_c20_2945 : ¬ ((255 : Int) < (yF).toInt) := fun q => c20_2945 (Int32.lt_iff_toInt_lt.mpr q)
  refine s_aloadN 27 C X d12_26 rfl rfl ?_
  refine s_iloadN 28 C X d12_27 rfl ?_
  refine s_iload 30 C X d12_28 rfl ?_
  refine s_i2b 31 C X d12_30 ?_
  refine s_bastore 32 0 C X d12_31 A_o2943 g_o2943 ⟨by decide, by decide⟩ rfl (Nat.le_of_ble_eq_true rfl) (fun T hh X W A_o2943 => ?_)
  have A_o2943 : Arv Z _ o2943 k_o2943 .byte i3 [(.int (nar .byte (yF).toInt8.toInt32)), .int i0, .int i0] (.int i0) := A_o2943
  have A_o2940 := A_o2940.other W ne_o2940_o2943
  have Kp := Kp.wr W (Or.inl (by simp))
  have A_o2943 : Arv Z _ o2943 k_o2943 .byte i3 [(.int (bv yF)), .int i0, .int i0] (.int i0) := A_o2943
  refine s_iinc 35 C X (l' := #[rv o2940, iv i1, rv o2943, iv i0, iv i3, iv i0, iv yF]) d12_32 kc_iconst_1 rfl rfl ?_
  refine s_iinc 38 C X (l' := #[rv o2940, iv i1, rv o2943, iv i1, iv i3, iv i0, iv yF]) d12_35 kc_iconst_1 rfl rfl ?_
  refine s_iinc 41 C X (l' := #[rv o2940, iv i1, rv o2943, iv i1, iv i3, iv i1, iv yF]) d12_38 kc_iconst_1 rfl rfl ?_
  refine s_goto 3 C X d12_41 ?_
  refine s_iload 5 C X d12_3 rfl ?_
  refine s_iload 7 C X d12_5 rfl ?_
  refine s_icmp_ge 44 10 C X d12_7 (fun c => absurd (by decide : i1 < i3) c) (fun _ => ?_)
  refine s_aloadN 11 C X d12_10 rfl rfl ?_
  refine s_iloadN 12 C X d12_11 rfl ?_
  refine s_caload 13 C X d12_12 A_o2940 ⟨by decide, by decide⟩ (v := (.int yF_8)) rfl ?_
  refine s_istore 15 C X (l' := #[rv o2940, iv i1, rv o2943, iv i1, iv i3, iv i1, iv yF_8]) d12_13 rfl ?_
  refine s_iload 17 C X d12_15 rfl ?_
  refine s_sipush 20 C X d12_17 kc_sipush_255 ?_
  refine s_icmp_le 26 23 C X d12_20 (fun c20_2947 => ?_) (fun c20_2947 => ?_)
  ·have t_c20_2947 : ¬ ((255 : Int) < (yF_8).toInt) := fun q => c20_2947 (Int32.lt_iff_toInt_lt.mpr q)
   refine s_aloadN 27 C X d12_26 rfl rfl ?_
   refine s_iloadN 28 C X d12_27 rfl ?_
   refine s_iload 30 C X d12_28 rfl ?_
   refine s_i2b 31 C X d12_30 ?_
   refine s_bastore 32 1 C X d12_31 A_o2943 g_o2943 ⟨by decide, by decide⟩ rfl (Nat.le_of_ble_eq_true rfl) (fun T hh X W A_o2943 => ?_)
   have A_o2943 : Arv Z _ o2943 k_o2943 .byte i3 [(.int (bv yF)), (.int (nar .byte (yF_8).toInt8.toInt32)), .int i0] (.int i0) := A_o2943
   have A_o2940 := A_o2940.other W ne_o2940_o2943
   have Kp := Kp.wr W (Or.inl (by simp))
   have A_o2943 : Arv Z _ o2943 k_o2943 .byte i3 [(.int (bv yF)), (.int (bv yF_8)), .int i0] (.int i0) := A_o2943
   refine s_iinc 35 C X (l' := #[rv o2940, iv i2, rv o2943, iv i1, iv i3, iv i1, iv yF_8]) d12_32 kc_iconst_1 rfl rfl ?_
   refine s_iinc 38 C X (l' := #[rv o2940, iv i2, rv o2943, iv i2, iv i3, iv i1, iv yF_8]) d12_35 kc_iconst_1 rfl rfl ?_
   refine s_iinc 41 C X (l' := #[rv o2940, iv i2, rv o2943, iv i2, iv i3, iv i2, iv yF_8]) d12_38 kc_iconst_1 rfl rfl ?_
   refine s_goto 3 C X d12_41 ?_
   refine s_iload 5 C X d12_3 rfl ?_
   refine s_iload 7 C X d12_5 rfl ?_
   refine s_icmp_ge 44 10 C X d12_7 (fun c => absurd (by decide : i2 < i3) c) (fun _ => ?_)
   refine s_aloadN 11 C X d12_10 rfl rfl ?_
   refine s_iloadN 12 C X d12_11 rfl ?_
   refine s_caload 13 C X d12_12 A_o2940 ⟨by decide, by decide⟩ (v := (.int yF_13)) rfl ?_
   refine s_istore 15 C X (l' := #[rv o2940, iv i2, rv o2943, iv i2, iv i3, iv i2, iv yF_13]) d12_13 rfl ?_
   refine s_iload 17 C X d12_15 rfl ?_
   refine s_sipush 20 C X d12_17 kc_sipush_255 ?_
   refine s_icmp_le 26 23 C X d12_20 (fun c20_2949 => ?_) (fun c20_2949 => ?_)
   ·have t_c20_2949 : ¬ ((255 : Int) < (yF_13).toInt) := fun q => c20_2949 (Int32.lt_iff_toInt_lt.mpr q)
    refine s_aloadN 27 C X d12_26 rfl rfl ?_
    refine s_iloadN 28 C X d12_27 rfl ?_
    refine s_iload 30 C X d12_28 rfl ?_
    refine s_i2b 31 C X d12_30 ?_
    refine s_bastore 32 2 C X d12_31 A_o2943 g_o2943 ⟨by decide, by decide⟩ rfl (Nat.le_of_ble_eq_true rfl) (fun T hh X W A_o2943 => ?_)
    have A_o2943 : Arv Z _ o2943 k_o2943 .byte i3 [(.int (bv yF)), (.int (bv yF_8)), (.int (nar .byte (yF_13).toInt8.toInt32))] (.int i0) := A_o2943
    have Kp := Kp.wr W (Or.inl (by simp))
    have A_o2943 : Arv Z _ o2943 k_o2943 .byte i3 [(.int (bv yF)), (.int (bv yF_8)), (.int (bv yF_13))] (.int i0) := A_o2943
    refine s_iinc 35 C X (l' := #[rv o2940, iv i3, rv o2943, iv i2, iv i3, iv i2, iv yF_13]) d12_32 kc_iconst_1 rfl rfl ?_
    refine s_iinc 38 C X (l' := #[rv o2940, iv i3, rv o2943, iv i3, iv i3, iv i2, iv yF_13]) d12_35 kc_iconst_1 rfl rfl ?_
    refine s_iinc 41 C X (l' := #[rv o2940, iv i3, rv o2943, iv i3, iv i3, iv i3, iv yF_13]) d12_38 kc_iconst_1 rfl rfl ?_
    refine s_goto 3 C X d12_41 ?_
    refine s_iload 5 C X d12_3 rfl ?_
    refine s_iload 7 C X d12_5 rfl ?_
    refine s_icmp_ge 44 10 C X d12_7 (fun _ => ?_) (fun c => absurd c (by decide))
    refine s_iload 46 C X d12_44 rfl ?_
    refine s_ireturn C X d12_46 rfl ?_ (FG hG (by decide) (by decide))
    exact hQ _ _ (Or.inl ⟨rfl, c20_2945, c20_2947, c20_2949, A_o2943, Kp⟩)
   refine s_iload 25 C X d12_23 rfl ?_
   refine s_ireturn C X d12_25 rfl ?_ (FG hG (by decide) (by decide))
   exact hQ _ _ (Or.inr (Or.inl ⟨rfl, c20_2945, c20_2947, c20_2949, A_o2943, Kp⟩))
  refine s_iload 25 C X d12_23 rfl ?_
  refine s_ireturn C X d12_25 rfl ?_ (FG hG (by decide) (by decide))
  exact hQ _ _ (Or.inr (Or.inr (Or.inl ⟨rfl, c20_2945, c20_2947, A_o2943, Kp⟩)))
 refine s_iload 25 C X d12_23 rfl ?_
 refine s_ireturn C X d12_25 rfl ?_ (FG hG (by decide) (by decide))
 exact hQ _ _ (Or.inr (Or.inr (Or.inr ⟨rfl, c20_2945, A_o2943, Kp⟩)))
theorem rm_a53 (hw : Hw a0 Z)  (h0 : Heap) (n0 : Nat) (Z0 : n0 ≤ h0.size)  :
  Met l Z (⟨cU, "newBytesLength", "(I)I"⟩ : MethodName) jdk_52_method_3_code 1 (some .int) (rM 0 0 0 0) [] #[.int i3] h0 n0 (fun v h => v = some (.int i6) ∧ Keep h0 h []) := by
 refine Met.mkQ (tabs := tables_1) (a0 := a0) (ls0 := #[iv i3]) (plainFor_of_name pn_java_lang_StringUTF16) hw Z0 (fun m => by first | (simp [entryFrame, mkF, argsToLocals, Value.category]; done) | rfl) ?_
 intro p e s m below meth c T Q' G' hQ hG C X
 have Kp : Keep h0 h0 [] := Keep.refl _ _
 refine s_iloadN 1 C X d29_0 rfl ?_
 refine s_if_ge 12 4 C X d29_1 (fun _ => ?_) (fun c => absurd c (by decide))
 refine s_iloadN 13 C X d29_12 rfl ?_
 refine s_ldcInt 15 C X d29_13 (mW 131 rfl) ?_
 refine s_icmp_lt 55 18 C X d29_15 (fun _ => ?_) (fun c => absurd (by decide : i3 < (1073741823 : Int32)) c)
 refine s_iloadN 56 C X d29_55 rfl ?_
 refine s_iconst 57 C X d29_56 kc_iconst_1 ?_
 refine s_ishl 58 C X d29_57 ?_
 refine rc (st' := [.int i6]) (by rw [kf_4]) ?_
 refine s_ireturn C X d29_58 rfl ?_ (FG hG (by decide) (by decide))
 exact hQ _ _ ⟨rfl, Kp⟩
theorem rm_a54 (hw : Hw a0 Z)  (h0 : Heap) (n0 : Nat) (Z0 : n0 ≤ h0.size)  :
  Met l Z (⟨cU, "newBytesFor", "(I)[B"⟩ : MethodName) jdk_52_method_2_code 1 (some (.array .byte)) (rM 1 1 6 12) [] #[.int i3] h0 n0 (fun v h => ∃ (k_o2957 : ClassId) (o2957 : Addr), v = some (.ref o2957) ∧ Keep h0 h [] ∧ Arv Z h o2957 k_o2957 .byte i6 [.int i0, .int i0, .int i0, .int i0, .int i0, .int i0] (.int i0) ∧ h0.size ≤ o2957 ∧ n0 ≤ o2957) := by
 refine Met.mkQ (tabs := tables_1) (a0 := a0) (ls0 := #[iv i3]) (plainFor_of_name pn_java_lang_StringUTF16) hw Z0 (fun m => by first | (simp [entryFrame, mkF, argsToLocals, Value.category]; done) | rfl) ?_
 intro p e s m below meth c T Q' G' hQ hG C X
 have Kp : Keep h0 h0 [] := Keep.refl _ _
 refine s_iloadN 1 C X d28_0 rfl ?_
 refine s_callS 4 [.int i3] [] 0 C X d28_1 (mW 128 rfl) (mW 129 rfl) (mW 62 rfl) (mW 130 rfl) (rm_a53 l Z a0 hw  _ n0 X.sz ) (lenOf pd__I_I rfl) rfl rfl rfl (fun T v hh X q => ?_)
 obtain ⟨rfl, Kc⟩ := q
 have Kp := Kp.trans Kc all0
 refine rc (st' := [.int i6]) rfl ?_
 refine s_newarray 6 6 C X d28_4 (mW 23 rfl) (by decide) (by decide) (fun T hh o2957 k_o2957 hb_o2957 X E A_o2957 g_o2957 => ?_)
 have sz_o2957 : h0.size ≤ o2957 := Nat.le_trans Kp.1 (Nat.le_of_eq hb_o2957)
 have Kp := Kp.ext E
 have A_o2957 : Arv Z _ o2957 k_o2957 .byte i6 [.int i0, .int i0, .int i0, .int i0, .int i0, .int i0] (.int i0) := A_o2957.pad (pad_rep [] _ 6)
 refine s_areturn C X d28_6 rfl rfl rfl ?_ (FG hG (by decide) (by decide))
 exact hQ _ _ ⟨k_o2957, o2957, rfl, Kp, A_o2957, sz_o2957, g_o2957⟩
theorem rm_a55 (hw : Hw a0 Z) (yF : Int32) (k_o2957 : ClassId) (o2957 : Addr) (h0 : Heap) (n0 : Nat) (Z0 : n0 ≤ h0.size) (Od : Old Z n0 h0) (S_ad : Sta Z Z.heap cU "$assertionsDisabled" "Z" (.int i1)) (S_hi : Sta Z Z.heap cU "HI_BYTE_SHIFT" "I" (.int i0)) (S_lo : Sta Z Z.heap cU "LO_BYTE_SHIFT" "I" (.int i8)) (A_o2957 : Arv Z h0 o2957 k_o2957 .byte i6 [.int i0, .int i0, .int i0, .int i0, .int i0, .int i0] (.int i0)) (g_o2957 : n0 ≤ o2957) :
  Met l Z (⟨cU, "putChar", "([BII)V"⟩ : MethodName) jdk_52_method_4_code 3 none (rM 0 0 0 0) [] #[.ref o2957, .int i0, .int yF] h0 n0 (fun v h => v = none ∧ Old Z n0 h ∧ Arv Z h o2957 k_o2957 .byte i6 [(.int (lo yF)), (.int (hi yF)), .int i0, .int i0, .int i0, .int i0] (.int i0) ∧ Keep h0 h [o2957]) := by
 refine Met.mkQ (tabs := tables_1) (a0 := a0) (ls0 := #[rv o2957, iv i0, iv yF]) (plainFor_of_name pn_java_lang_StringUTF16) hw Z0 (fun m => by first | (simp [entryFrame, mkF, argsToLocals, Value.category]; done) | rfl) ?_
 intro p e s m below meth c T Q' G' hQ hG C X
 have Kp : Keep h0 h0 [o2957] := Keep.refl _ _
 refine s_getstatic 3 C X (host := "") d30_0 (Or.inl (mW 135 rfl)) Via.refl (S_ad.ext Od.2) (fun T X => ?_)
 refine s_if_ne 28 6 C X d30_3 (fun _ => ?_) (fun c => absurd c (by decide))
 refine s_iloadN 29 C X d30_28 rfl ?_
 refine s_iconst 30 C X d30_29 kc_iconst_1 ?_
 refine s_ishl 31 C X d30_30 ?_
 refine rc (st' := [.int i0]) (by rw [kf_1]) ?_
 refine s_istoreN 32 C X (l' := #[rv o2957, iv i0, iv yF]) d30_31 rfl ?_
 refine s_aloadN 33 C X d30_32 rfl rfl ?_
 refine s_iloadN 34 C X d30_33 rfl ?_
 refine s_iinc 37 C X (l' := #[rv o2957, iv i1, iv yF]) d30_34 kc_iconst_1 rfl rfl ?_
 refine s_iloadN 38 C X d30_37 rfl ?_
 refine s_getstatic 41 C X (host := "") d30_38 (Or.inl (mW 136 rfl)) Via.refl (S_hi.ext Od.2) (fun T X => ?_)
 refine s_ishr 42 C X d30_41 ?_
 refine s_i2b 43 C X d30_42 ?_
 refine s_bastore 44 0 C X d30_43 A_o2957 g_o2957 ⟨by decide, by decide⟩ rfl (Nat.le_of_ble_eq_true rfl) (fun T hh X W A_o2957 => ?_)
 have A_o2957 : Arv Z _ o2957 k_o2957 .byte i6 [(.int (nar .byte ((yF >>> (i0 &&& 31))).toInt8.toInt32)), .int i0, .int i0, .int i0, .int i0, .int i0] (.int i0) := A_o2957
 have Od := Od.wr W g_o2957
 have Kp := Kp.wr W (Or.inl (by simp))
 have A_o2957 : Arv Z _ o2957 k_o2957 .byte i6 [(.int (lo yF)), .int i0, .int i0, .int i0, .int i0, .int i0] (.int i0) := A_o2957
 refine s_aloadN 45 C X d30_44 rfl rfl ?_
 refine s_iloadN 46 C X d30_45 rfl ?_
 refine s_iloadN 47 C X d30_46 rfl ?_
 refine s_getstatic 50 C X (host := "") d30_47 (Or.inl (mW 137 rfl)) Via.refl (S_lo.ext Od.2) (fun T X => ?_)
 refine s_ishr 51 C X d30_50 ?_
 refine s_i2b 52 C X d30_51 ?_
 refine s_bastore 53 1 C X d30_52 A_o2957 g_o2957 ⟨by decide, by decide⟩ rfl (Nat.le_of_ble_eq_true rfl) (fun T hh X W A_o2957 => ?_)
 have A_o2957 : Arv Z _ o2957 k_o2957 .byte i6 [(.int (lo yF)), (.int (nar .byte ((yF >>> (i8 &&& 31))).toInt8.toInt32)), .int i0, .int i0, .int i0, .int i0] (.int i0) := A_o2957
 have Od := Od.wr W g_o2957
 have Kp := Kp.wr W (Or.inl (by simp))
 have A_o2957 : Arv Z _ o2957 k_o2957 .byte i6 [(.int (lo yF)), (.int (hi yF)), .int i0, .int i0, .int i0, .int i0] (.int i0) := A_o2957
 refine s_return C X d30_53 rfl ?_ (FG hG (by decide) (by decide))
 exact hQ _ _ ⟨rfl, Od, A_o2957, Kp⟩
theorem rm_a56 (hw : Hw a0 Z) (yF : Int32) (yF_8 : Int32) (k_o2957 : ClassId) (o2957 : Addr) (h0 : Heap) (n0 : Nat) (Z0 : n0 ≤ h0.size) (S_ad : Sta Z Z.heap cU "$assertionsDisabled" "Z" (.int i1)) (S_hi : Sta Z Z.heap cU "HI_BYTE_SHIFT" "I" (.int i0)) (S_lo : Sta Z Z.heap cU "LO_BYTE_SHIFT" "I" (.int i8)) (Od : Old Z n0 h0) (A_o2957 : Arv Z h0 o2957 k_o2957 .byte i6 [(.int (lo yF)), (.int (hi yF)), .int i0, .int i0, .int i0, .int i0] (.int i0)) (g_o2957 : n0 ≤ o2957) :
  Met l Z (⟨cU, "putChar", "([BII)V"⟩ : MethodName) jdk_52_method_4_code 3 none (rM 0 0 0 0) [] #[.ref o2957, .int i1, .int yF_8] h0 n0 (fun v h => v = none ∧ Old Z n0 h ∧ Arv Z h o2957 k_o2957 .byte i6 [(.int (lo yF)), (.int (hi yF)), (.int (lo yF_8)), (.int (hi yF_8)), .int i0, .int i0] (.int i0) ∧ Keep h0 h [o2957]) := by
 refine Met.mkQ (tabs := tables_1) (a0 := a0) (ls0 := #[rv o2957, iv i1, iv yF_8]) (plainFor_of_name pn_java_lang_StringUTF16) hw Z0 (fun m => by first | (simp [entryFrame, mkF, argsToLocals, Value.category]; done) | rfl) ?_
 intro p e s m below meth c T Q' G' hQ hG C X
 have Kp : Keep h0 h0 [o2957] := Keep.refl _ _
 refine s_getstatic 3 C X (host := "") d30_0 (Or.inl (mW 135 rfl)) Via.refl (S_ad.ext Od.2) (fun T X => ?_)
 refine s_if_ne 28 6 C X d30_3 (fun _ => ?_) (fun c => absurd c (by decide))
 refine s_iloadN 29 C X d30_28 rfl ?_
 refine s_iconst 30 C X d30_29 kc_iconst_1 ?_
 refine s_ishl 31 C X d30_30 ?_
 refine rc (st' := [.int i2]) (by rw [kf_2]) ?_
 refine s_istoreN 32 C X (l' := #[rv o2957, iv i2, iv yF_8]) d30_31 rfl ?_
 refine s_aloadN 33 C X d30_32 rfl rfl ?_
 refine s_iloadN 34 C X d30_33 rfl ?_
 refine s_iinc 37 C X (l' := #[rv o2957, iv i3, iv yF_8]) d30_34 kc_iconst_1 rfl rfl ?_
 refine s_iloadN 38 C X d30_37 rfl ?_
 refine s_getstatic 41 C X (host := "") d30_38 (Or.inl (mW 136 rfl)) Via.refl (S_hi.ext Od.2) (fun T X => ?_)
 refine s_ishr 42 C X d30_41 ?_
 refine s_i2b 43 C X d30_42 ?_
 refine s_bastore 44 2 C X d30_43 A_o2957 g_o2957 ⟨by decide, by decide⟩ rfl (Nat.le_of_ble_eq_true rfl) (fun T hh X W A_o2957 => ?_)
 have A_o2957 : Arv Z _ o2957 k_o2957 .byte i6 [(.int (lo yF)), (.int (hi yF)), (.int (nar .byte ((yF_8 >>> (i0 &&& 31))).toInt8.toInt32)), .int i0, .int i0, .int i0] (.int i0) := A_o2957
 have Od := Od.wr W g_o2957
 have Kp := Kp.wr W (Or.inl (by simp))
 have A_o2957 : Arv Z _ o2957 k_o2957 .byte i6 [(.int (lo yF)), (.int (hi yF)), (.int (lo yF_8)), .int i0, .int i0, .int i0] (.int i0) := A_o2957
 refine s_aloadN 45 C X d30_44 rfl rfl ?_
 refine s_iloadN 46 C X d30_45 rfl ?_
 refine s_iloadN 47 C X d30_46 rfl ?_
 refine s_getstatic 50 C X (host := "") d30_47 (Or.inl (mW 137 rfl)) Via.refl (S_lo.ext Od.2) (fun T X => ?_)
 refine s_ishr 51 C X d30_50 ?_
 refine s_i2b 52 C X d30_51 ?_
 refine s_bastore 53 3 C X d30_52 A_o2957 g_o2957 ⟨by decide, by decide⟩ rfl (Nat.le_of_ble_eq_true rfl) (fun T hh X W A_o2957 => ?_)
 have A_o2957 : Arv Z _ o2957 k_o2957 .byte i6 [(.int (lo yF)), (.int (hi yF)), (.int (lo yF_8)), (.int (nar .byte ((yF_8 >>> (i8 &&& 31))).toInt8.toInt32)), .int i0, .int i0] (.int i0) := A_o2957
 have Od := Od.wr W g_o2957
 have Kp := Kp.wr W (Or.inl (by simp))
 have A_o2957 : Arv Z _ o2957 k_o2957 .byte i6 [(.int (lo yF)), (.int (hi yF)), (.int (lo yF_8)), (.int (hi yF_8)), .int i0, .int i0] (.int i0) := A_o2957
 refine s_return C X d30_53 rfl ?_ (FG hG (by decide) (by decide))
 exact hQ _ _ ⟨rfl, Od, A_o2957, Kp⟩
theorem rm_a57 (hw : Hw a0 Z) (yF : Int32) (yF_8 : Int32) (yF_13 : Int32) (k_o2957 : ClassId) (o2957 : Addr) (h0 : Heap) (n0 : Nat) (Z0 : n0 ≤ h0.size) (S_ad : Sta Z Z.heap cU "$assertionsDisabled" "Z" (.int i1)) (S_hi : Sta Z Z.heap cU "HI_BYTE_SHIFT" "I" (.int i0)) (S_lo : Sta Z Z.heap cU "LO_BYTE_SHIFT" "I" (.int i8)) (Od : Old Z n0 h0) (A_o2957 : Arv Z h0 o2957 k_o2957 .byte i6 [(.int (lo yF)), (.int (hi yF)), (.int (lo yF_8)), (.int (hi yF_8)), .int i0, .int i0] (.int i0)) (g_o2957 : n0 ≤ o2957) :
  Met l Z (⟨cU, "putChar", "([BII)V"⟩ : MethodName) jdk_52_method_4_code 3 none (rM 0 0 0 0) [] #[.ref o2957, .int i2, .int yF_13] h0 n0 (fun v h => v = none ∧ Old Z n0 h ∧ Arv Z h o2957 k_o2957 .byte i6 [(.int (lo yF)), (.int (hi yF)), (.int (lo yF_8)), (.int (hi yF_8)), (.int (lo yF_13)), (.int (hi yF_13))] (.int i0) ∧ Keep h0 h [o2957]) := by
 refine Met.mkQ (tabs := tables_1) (a0 := a0) (ls0 := #[rv o2957, iv i2, iv yF_13]) (plainFor_of_name pn_java_lang_StringUTF16) hw Z0 (fun m => by first | (simp [entryFrame, mkF, argsToLocals, Value.category]; done) | rfl) ?_
 intro p e s m below meth c T Q' G' hQ hG C X
 have Kp : Keep h0 h0 [o2957] := Keep.refl _ _
 refine s_getstatic 3 C X (host := "") d30_0 (Or.inl (mW 135 rfl)) Via.refl (S_ad.ext Od.2) (fun T X => ?_)
 refine s_if_ne 28 6 C X d30_3 (fun _ => ?_) (fun c => absurd c (by decide))
 refine s_iloadN 29 C X d30_28 rfl ?_
 refine s_iconst 30 C X d30_29 kc_iconst_1 ?_
 refine s_ishl 31 C X d30_30 ?_
 refine rc (st' := [.int i4]) (by rw [kf_3]) ?_
 refine s_istoreN 32 C X (l' := #[rv o2957, iv i4, iv yF_13]) d30_31 rfl ?_
 refine s_aloadN 33 C X d30_32 rfl rfl ?_
 refine s_iloadN 34 C X d30_33 rfl ?_
 refine s_iinc 37 C X (l' := #[rv o2957, iv i5, iv yF_13]) d30_34 kc_iconst_1 rfl rfl ?_
 refine s_iloadN 38 C X d30_37 rfl ?_
 refine s_getstatic 41 C X (host := "") d30_38 (Or.inl (mW 136 rfl)) Via.refl (S_hi.ext Od.2) (fun T X => ?_)
 refine s_ishr 42 C X d30_41 ?_
 refine s_i2b 43 C X d30_42 ?_
 refine s_bastore 44 4 C X d30_43 A_o2957 g_o2957 ⟨by decide, by decide⟩ rfl (Nat.le_of_ble_eq_true rfl) (fun T hh X W A_o2957 => ?_)
 have A_o2957 : Arv Z _ o2957 k_o2957 .byte i6 [(.int (lo yF)), (.int (hi yF)), (.int (lo yF_8)), (.int (hi yF_8)), (.int (nar .byte ((yF_13 >>> (i0 &&& 31))).toInt8.toInt32)), .int i0] (.int i0) := A_o2957
 have Od := Od.wr W g_o2957
 have Kp := Kp.wr W (Or.inl (by simp))
 have A_o2957 : Arv Z _ o2957 k_o2957 .byte i6 [(.int (lo yF)), (.int (hi yF)), (.int (lo yF_8)), (.int (hi yF_8)), (.int (lo yF_13)), .int i0] (.int i0) := A_o2957
 refine s_aloadN 45 C X d30_44 rfl rfl ?_
 refine s_iloadN 46 C X d30_45 rfl ?_
 refine s_iloadN 47 C X d30_46 rfl ?_
 refine s_getstatic 50 C X (host := "") d30_47 (Or.inl (mW 137 rfl)) Via.refl (S_lo.ext Od.2) (fun T X => ?_)
 refine s_ishr 51 C X d30_50 ?_
 refine s_i2b 52 C X d30_51 ?_
 refine s_bastore 53 5 C X d30_52 A_o2957 g_o2957 ⟨by decide, by decide⟩ rfl (Nat.le_of_ble_eq_true rfl) (fun T hh X W A_o2957 => ?_)
 have A_o2957 : Arv Z _ o2957 k_o2957 .byte i6 [(.int (lo yF)), (.int (hi yF)), (.int (lo yF_8)), (.int (hi yF_8)), (.int (lo yF_13)), (.int (nar .byte ((yF_13 >>> (i8 &&& 31))).toInt8.toInt32))] (.int i0) := A_o2957
 have Od := Od.wr W g_o2957
 have Kp := Kp.wr W (Or.inl (by simp))
 have A_o2957 : Arv Z _ o2957 k_o2957 .byte i6 [(.int (lo yF)), (.int (hi yF)), (.int (lo yF_8)), (.int (hi yF_8)), (.int (lo yF_13)), (.int (hi yF_13))] (.int i0) := A_o2957
 refine s_return C X d30_53 rfl ?_ (FG hG (by decide) (by decide))
 exact hQ _ _ ⟨rfl, Od, A_o2957, Kp⟩
theorem rm_a58 (hw : Hw a0 Z) (yF : Int32) (yF_8 : Int32) (yF_13 : Int32) (o2940 : Addr) (k_o2940 : ClassId) (h0 : Heap) (n0 : Nat) (Z0 : n0 ≤ h0.size) (Od : Old Z n0 h0) (S_ad : Sta Z Z.heap cU "$assertionsDisabled" "Z" (.int i1)) (S_hi : Sta Z Z.heap cU "HI_BYTE_SHIFT" "I" (.int i0)) (S_lo : Sta Z Z.heap cU "LO_BYTE_SHIFT" "I" (.int i8)) (A_o2940 : Arv Z h0 o2940 k_o2940 .char i3 [.int yF, .int yF_8, .int yF_13] (.int i0)) :
  Met l Z (⟨cU, "toBytes", "([CII)[B"⟩ : MethodName) jdk_52_method_14_code 5 (some (.array .byte)) (rM 2 1 6 24) [] #[.ref o2940, .int i0, .int i3] h0 n0 (fun v h => ∃ (k_o2957 : ClassId) (o2957 : Addr), v = some (.ref o2957) ∧ Keep h0 h [] ∧ Old Z n0 h ∧ Arv Z h o2957 k_o2957 .byte i6 [(.int (lo yF)), (.int (hi yF)), (.int (lo yF_8)), (.int (hi yF_8)), (.int (lo yF_13)), (.int (hi yF_13))] (.int i0) ∧ h0.size ≤ o2957 ∧ n0 ≤ o2957) := by
 refine Met.mkQ (tabs := tables_1) (a0 := a0) (ls0 := #[rv o2940, iv i0, iv i3, un, un]) (plainFor_of_name pn_java_lang_StringUTF16) hw Z0 (fun m => by first | (simp [entryFrame, mkF, argsToLocals, Value.category]; done) | rfl) ?_
 intro p e s m below meth c T Q' G' hQ hG C X
 have Kp : Keep h0 h0 [] := Keep.refl _ _
 refine s_iloadN 1 C X d27_0 rfl ?_
 refine s_callS 4 [.int i3] [] 0 C X d27_1 (mW 125 rfl) (mW 126 rfl) (mW 62 rfl) (mW 127 rfl) (rm_a54 l Z a0 hw  _ n0 X.sz ) (lenOf pd__I__B rfl) rfl rfl rfl (fun T v hh X q => ?_)
 obtain ⟨k_o2957, o2957, rfl, Kc, A_o2957, sz_o2957', g_o2957⟩ := q
 have ne_o2940_o2957 : o2940 ≠ o2957 := Nat.ne_of_lt (Nat.lt_of_lt_of_le A_o2940.lt sz_o2957')
 have sz_o2957 : h0.size ≤ o2957 := Nat.le_trans Kp.1 sz_o2957'
 have Od := Od.keep Kc all0
 have A_o2940 := A_o2940.keep Kc nin0
 have Kp := Kp.trans Kc all0
 refine rc (st' := [.ref o2957]) rfl ?_
 refine s_astoreN 5 C X (l' := #[rv o2940, iv i0, iv i3, rv o2957, un]) d27_4 rfl rfl ?_
 refine s_iconst 6 C X d27_5 kc_iconst_0 ?_
 refine s_istore 8 C X (l' := #[rv o2940, iv i0, iv i3, rv o2957, iv i0]) d27_6 rfl ?_
 refine s_iload 10 C X d27_8 rfl ?_
 refine s_iloadN 11 C X d27_10 rfl ?_
 refine s_icmp_ge 32 14 C X d27_11 (fun c => absurd (by decide : i0 < i3) c) (fun _ => ?_)
 refine s_aloadN 15 C X d27_14 rfl rfl ?_
 refine s_iload 17 C X d27_15 rfl ?_
 refine s_aloadN 18 C X d27_17 rfl rfl ?_
 refine s_iloadN 19 C X d27_18 rfl ?_
 refine s_caload 20 C X d27_19 A_o2940 ⟨by decide, by decide⟩ (v := (.int yF)) rfl ?_
 refine s_callS 23 [.ref o2957, .int i0, .int yF] [] 0 C X d27_20 (mW 132 rfl) (mW 133 rfl) (mW 62 rfl) (mW 134 rfl) (rm_a55 l Z a0 hw yF k_o2957 o2957 _ n0 X.sz Od S_ad S_hi S_lo A_o2957 g_o2957) (lenOf pd___BII_V rfl) rfl rfl rfl (fun T v hh X q => ?_)
 obtain ⟨rfl, Od, A_o2957, Kc⟩ := q
 have A_o2940 := A_o2940.keep Kc (ninS ne_o2940_o2957 nin0)
 have Kp := Kp.trans Kc (allS (Or.inr sz_o2957) all0)
 refine rc (st' := []) rfl ?_
 refine s_iinc 26 C X (l' := #[rv o2940, iv i1, iv i3, rv o2957, iv i0]) d27_23 kc_iconst_1 rfl rfl ?_
 refine s_iinc 29 C X (l' := #[rv o2940, iv i1, iv i3, rv o2957, iv i1]) d27_26 kc_iconst_1 rfl rfl ?_
 refine s_goto 8 C X d27_29 ?_
 refine s_iload 10 C X d27_8 rfl ?_
 refine s_iloadN 11 C X d27_10 rfl ?_
 refine s_icmp_ge 32 14 C X d27_11 (fun c => absurd (by decide : i1 < i3) c) (fun _ => ?_)
 refine s_aloadN 15 C X d27_14 rfl rfl ?_
 refine s_iload 17 C X d27_15 rfl ?_
 refine s_aloadN 18 C X d27_17 rfl rfl ?_
 refine s_iloadN 19 C X d27_18 rfl ?_
 refine s_caload 20 C X d27_19 A_o2940 ⟨by decide, by decide⟩ (v := (.int yF_8)) rfl ?_
 refine s_callS 23 [.ref o2957, .int i1, .int yF_8] [] 0 C X d27_20 (mW 132 rfl) (mW 133 rfl) (mW 62 rfl) (mW 134 rfl) (rm_a56 l Z a0 hw yF yF_8 k_o2957 o2957 _ n0 X.sz S_ad S_hi S_lo Od A_o2957 g_o2957) (lenOf pd___BII_V rfl) rfl rfl rfl (fun T v hh X q => ?_)
 obtain ⟨rfl, Od, A_o2957, Kc⟩ := q
 have A_o2940 := A_o2940.keep Kc (ninS ne_o2940_o2957 nin0)
 have Kp := Kp.trans Kc (allS (Or.inr sz_o2957) all0)
 refine rc (st' := []) rfl ?_
 refine s_iinc 26 C X (l' := #[rv o2940, iv i2, iv i3, rv o2957, iv i1]) d27_23 kc_iconst_1 rfl rfl ?_
 refine s_iinc 29 C X (l' := #[rv o2940, iv i2, iv i3, rv o2957, iv i2]) d27_26 kc_iconst_1 rfl rfl ?_
 refine s_goto 8 C X d27_29 ?_
 refine s_iload 10 C X d27_8 rfl ?_
 refine s_iloadN 11 C X d27_10 rfl ?_
 refine s_icmp_ge 32 14 C X d27_11 (fun c => absurd (by decide : i2 < i3) c) (fun _ => ?_)
 refine s_aloadN 15 C X d27_14 rfl rfl ?_
 refine s_iload 17 C X d27_15 rfl ?_
 refine s_aloadN 18 C X d27_17 rfl rfl ?_
 refine s_iloadN 19 C X d27_18 rfl ?_
 refine s_caload 20 C X d27_19 A_o2940 ⟨by decide, by decide⟩ (v := (.int yF_13)) rfl ?_
 refine s_callS 23 [.ref o2957, .int i2, .int yF_13] [] 0 C X d27_20 (mW 132 rfl) (mW 133 rfl) (mW 62 rfl) (mW 134 rfl) (rm_a57 l Z a0 hw yF yF_8 yF_13 k_o2957 o2957 _ n0 X.sz S_ad S_hi S_lo Od A_o2957 g_o2957) (lenOf pd___BII_V rfl) rfl rfl rfl (fun T v hh X q => ?_)
 obtain ⟨rfl, Od, A_o2957, Kc⟩ := q
 have Kp := Kp.trans Kc (allS (Or.inr sz_o2957) all0)
 refine rc (st' := []) rfl ?_
 refine s_iinc 26 C X (l' := #[rv o2940, iv i3, iv i3, rv o2957, iv i2]) d27_23 kc_iconst_1 rfl rfl ?_
 refine s_iinc 29 C X (l' := #[rv o2940, iv i3, iv i3, rv o2957, iv i3]) d27_26 kc_iconst_1 rfl rfl ?_
 refine s_goto 8 C X d27_29 ?_
 refine s_iload 10 C X d27_8 rfl ?_
 refine s_iloadN 11 C X d27_10 rfl ?_
 refine s_icmp_ge 32 14 C X d27_11 (fun _ => ?_) (fun c => absurd c (by decide))
 refine s_aloadN 33 C X d27_32 rfl rfl ?_
 refine s_areturn C X d27_33 rfl rfl rfl ?_ (FG hG (by decide) (by decide))
 exact hQ _ _ ⟨k_o2957, o2957, rfl, Kp, Od, A_o2957, sz_o2957, g_o2957⟩
theorem rm_a59 (hw : Hw a0 Z) (yF : Int32) (yF_8 : Int32) (yF_13 : Int32) (k_o2957 : ClassId) (o2957 : Addr) (h0 : Heap) (n0 : Nat) (Z0 : n0 ≤ h0.size) (S_ad : Sta Z Z.heap cU "$assertionsDisabled" "Z" (.int i1)) (S_hi : Sta Z Z.heap cU "HI_BYTE_SHIFT" "I" (.int i0)) (S_lo : Sta Z Z.heap cU "LO_BYTE_SHIFT" "I" (.int i8)) (Od : Old Z n0 h0) (A_o2957 : Arv Z h0 o2957 k_o2957 .byte i6 [(.int (lo yF)), (.int (hi yF)), (.int (lo yF_8)), (.int (hi yF_8)), (.int (lo yF_13)), (.int (hi yF_13))] (.int i0)) (hvU_14 : own_U yF_13) :
  Met l Z (⟨cU, "getChar", "([BI)C"⟩ : MethodName) jdk_52_method_5_code 2 (some .char) (rM 0 0 0 0) [] #[.ref o2957, .int i2] h0 n0 (fun v h => v = some (.int yF_13) ∧ Old Z n0 h ∧ Keep h0 h []) := by
 refine Met.mkQ (tabs := tables_1) (a0 := a0) (ls0 := #[rv o2957, iv i2]) (plainFor_of_name pn_java_lang_StringUTF16) hw Z0 (fun m => by first | (simp [entryFrame, mkF, argsToLocals, Value.category]; done) | rfl) ?_
 intro p e s m below meth c T Q' G' hQ hG C X
 have Kp : Keep h0 h0 [] := Keep.refl _ _
 refine s_getstatic 3 C X (host := "") d31_0 (Or.inl (mW 135 rfl)) Via.refl (S_ad.ext Od.2) (fun T X => ?_)
 refine s_if_ne 28 6 C X d31_3 (fun _ => ?_) (fun c => absurd c (by decide))
 refine s_iloadN 29 C X d31_28 rfl ?_
 refine s_iconst 30 C X d31_29 kc_iconst_1 ?_
 refine s_ishl 31 C X d31_30 ?_
 refine rc (st' := [.int i4]) (by rw [kf_3]) ?_
 refine s_istoreN 32 C X (l' := #[rv o2957, iv i4]) d31_31 rfl ?_
 refine s_aloadN 33 C X d31_32 rfl rfl ?_
 refine s_iloadN 34 C X d31_33 rfl ?_
 refine s_iinc 37 C X (l' := #[rv o2957, iv i5]) d31_34 kc_iconst_1 rfl rfl ?_
 refine s_baload 38 C X d31_37 A_o2957 ⟨by decide, by decide⟩ (v := (.int (lo yF_13))) rfl ?_
 refine s_sipush 41 C X d31_38 kc_sipush_255 ?_
 refine s_iand 42 C X d31_41 ?_
 refine s_getstatic 45 C X (host := "") d31_42 (Or.inl (mW 136 rfl)) Via.refl (S_hi.ext Od.2) (fun T X => ?_)
 refine s_ishl 46 C X d31_45 ?_
 refine s_aloadN 47 C X d31_46 rfl rfl ?_
 refine s_iloadN 48 C X d31_47 rfl ?_
 refine s_baload 49 C X d31_48 A_o2957 ⟨by decide, by decide⟩ (v := (.int (hi yF_13))) rfl ?_
 refine s_sipush 52 C X d31_49 kc_sipush_255 ?_
 refine s_iand 53 C X d31_52 ?_
 refine s_getstatic 56 C X (host := "") d31_53 (Or.inl (mW 137 rfl)) Via.refl (S_lo.ext Od.2) (fun T X => ?_)
 refine s_ishl 57 C X d31_56 ?_
 refine s_ior 58 C X d31_57 ?_
 refine s_i2c 59 C X d31_58 ?_
 refine rc (st' := [.int yF_13]) (by rw [show (((((lo yF_13) &&& i255) <<< (i0 &&& 31)) ||| (((hi yF_13) &&& i255) <<< (i8 &&& 31)))).toUInt32.toUInt16.toUInt32.toInt32 = yF_13 from own_get hvU_14]) ?_
 refine s_nreturn C X d31_59 rfl (by simp) (own_nU hvU_14) ?_ (FG hG (by decide) (by decide))
 exact hQ _ _ ⟨rfl, Od, Kp⟩
theorem rm_a60 (hw : Hw a0 Z) (yF : Int32) (yF_8 : Int32) (yF_13 : Int32) (k_o2957 : ClassId) (o2957 : Addr) (h0 : Heap) (n0 : Nat) (Z0 : n0 ≤ h0.size) (S_ad : Sta Z Z.heap cU "$assertionsDisabled" "Z" (.int i1)) (S_hi : Sta Z Z.heap cU "HI_BYTE_SHIFT" "I" (.int i0)) (S_lo : Sta Z Z.heap cU "LO_BYTE_SHIFT" "I" (.int i8)) (Od : Old Z n0 h0) (A_o2957 : Arv Z h0 o2957 k_o2957 .byte i6 [(.int (lo yF)), (.int (hi yF)), (.int (lo yF_8)), (.int (hi yF_8)), (.int (lo yF_13)), (.int (hi yF_13))] (.int i0)) (hvU_9 : own_U yF_8) :
  Met l Z (⟨cU, "getChar", "([BI)C"⟩ : MethodName) jdk_52_method_5_code 2 (some .char) (rM 0 0 0 0) [] #[.ref o2957, .int i1] h0 n0 (fun v h => v = some (.int yF_8) ∧ Old Z n0 h ∧ Keep h0 h []) := by
 refine Met.mkQ (tabs := tables_1) (a0 := a0) (ls0 := #[rv o2957, iv i1]) (plainFor_of_name pn_java_lang_StringUTF16) hw Z0 (fun m => by first | (simp [entryFrame, mkF, argsToLocals, Value.category]; done) | rfl) ?_
 intro p e s m below meth c T Q' G' hQ hG C X
 have Kp : Keep h0 h0 [] := Keep.refl _ _
 refine s_getstatic 3 C X (host := "") d31_0 (Or.inl (mW 135 rfl)) Via.refl (S_ad.ext Od.2) (fun T X => ?_)
 refine s_if_ne 28 6 C X d31_3 (fun _ => ?_) (fun c => absurd c (by decide))
 refine s_iloadN 29 C X d31_28 rfl ?_
 refine s_iconst 30 C X d31_29 kc_iconst_1 ?_
 refine s_ishl 31 C X d31_30 ?_
 refine rc (st' := [.int i2]) (by rw [kf_2]) ?_
 refine s_istoreN 32 C X (l' := #[rv o2957, iv i2]) d31_31 rfl ?_
 refine s_aloadN 33 C X d31_32 rfl rfl ?_
 refine s_iloadN 34 C X d31_33 rfl ?_
 refine s_iinc 37 C X (l' := #[rv o2957, iv i3]) d31_34 kc_iconst_1 rfl rfl ?_
 refine s_baload 38 C X d31_37 A_o2957 ⟨by decide, by decide⟩ (v := (.int (lo yF_8))) rfl ?_
 refine s_sipush 41 C X d31_38 kc_sipush_255 ?_
 refine s_iand 42 C X d31_41 ?_
 refine s_getstatic 45 C X (host := "") d31_42 (Or.inl (mW 136 rfl)) Via.refl (S_hi.ext Od.2) (fun T X => ?_)
 refine s_ishl 46 C X d31_45 ?_
 refine s_aloadN 47 C X d31_46 rfl rfl ?_
 refine s_iloadN 48 C X d31_47 rfl ?_
 refine s_baload 49 C X d31_48 A_o2957 ⟨by decide, by decide⟩ (v := (.int (hi yF_8))) rfl ?_
 refine s_sipush 52 C X d31_49 kc_sipush_255 ?_
 refine s_iand 53 C X d31_52 ?_
 refine s_getstatic 56 C X (host := "") d31_53 (Or.inl (mW 137 rfl)) Via.refl (S_lo.ext Od.2) (fun T X => ?_)
 refine s_ishl 57 C X d31_56 ?_
 refine s_ior 58 C X d31_57 ?_
 refine s_i2c 59 C X d31_58 ?_
 refine rc (st' := [.int yF_8]) (by rw [show (((((lo yF_8) &&& i255) <<< (i0 &&& 31)) ||| (((hi yF_8) &&& i255) <<< (i8 &&& 31)))).toUInt32.toUInt16.toUInt32.toInt32 = yF_8 from own_get hvU_9]) ?_
 refine s_nreturn C X d31_59 rfl (by simp) (own_nU hvU_9) ?_ (FG hG (by decide) (by decide))
 exact hQ _ _ ⟨rfl, Od, Kp⟩
theorem rm_a61 (hw : Hw a0 Z) (yF : Int32) (yF_8 : Int32) (yF_13 : Int32) (k_o2957 : ClassId) (o2957 : Addr) (h0 : Heap) (n0 : Nat) (Z0 : n0 ≤ h0.size) (S_ad : Sta Z Z.heap cU "$assertionsDisabled" "Z" (.int i1)) (S_hi : Sta Z Z.heap cU "HI_BYTE_SHIFT" "I" (.int i0)) (S_lo : Sta Z Z.heap cU "LO_BYTE_SHIFT" "I" (.int i8)) (Od : Old Z n0 h0) (A_o2957 : Arv Z h0 o2957 k_o2957 .byte i6 [(.int (lo yF)), (.int (hi yF)), (.int (lo yF_8)), (.int (hi yF_8)), (.int (lo yF_13)), (.int (hi yF_13))] (.int i0)) (hvU : own_U yF) :
  Met l Z (⟨cU, "getChar", "([BI)C"⟩ : MethodName) jdk_52_method_5_code 2 (some .char) (rM 0 0 0 0) [] #[.ref o2957, .int i0] h0 n0 (fun v h => v = some (.int yF) ∧ Old Z n0 h ∧ Keep h0 h []) := by
 refine Met.mkQ (tabs := tables_1) (a0 := a0) (ls0 := #[rv o2957, iv i0]) (plainFor_of_name pn_java_lang_StringUTF16) hw Z0 (fun m => by first | (simp [entryFrame, mkF, argsToLocals, Value.category]; done) | rfl) ?_
 intro p e s m below meth c T Q' G' hQ hG C X
 have Kp : Keep h0 h0 [] := Keep.refl _ _
 refine s_getstatic 3 C X (host := "") d31_0 (Or.inl (mW 135 rfl)) Via.refl (S_ad.ext Od.2) (fun T X => ?_)
 refine s_if_ne 28 6 C X d31_3 (fun _ => ?_) (fun c => absurd c (by decide))
 refine s_iloadN 29 C X d31_28 rfl ?_
 refine s_iconst 30 C X d31_29 kc_iconst_1 ?_
 refine s_ishl 31 C X d31_30 ?_
 refine rc (st' := [.int i0]) (by rw [kf_1]) ?_
 refine s_istoreN 32 C X (l' := #[rv o2957, iv i0]) d31_31 rfl ?_
 refine s_aloadN 33 C X d31_32 rfl rfl ?_
 refine s_iloadN 34 C X d31_33 rfl ?_
 refine s_iinc 37 C X (l' := #[rv o2957, iv i1]) d31_34 kc_iconst_1 rfl rfl ?_
 refine s_baload 38 C X d31_37 A_o2957 ⟨by decide, by decide⟩ (v := (.int (lo yF))) rfl ?_
 refine s_sipush 41 C X d31_38 kc_sipush_255 ?_
 refine s_iand 42 C X d31_41 ?_
 refine s_getstatic 45 C X (host := "") d31_42 (Or.inl (mW 136 rfl)) Via.refl (S_hi.ext Od.2) (fun T X => ?_)
 refine s_ishl 46 C X d31_45 ?_
 refine s_aloadN 47 C X d31_46 rfl rfl ?_
 refine s_iloadN 48 C X d31_47 rfl ?_
 refine s_baload 49 C X d31_48 A_o2957 ⟨by decide, by decide⟩ (v := (.int (hi yF))) rfl ?_
 refine s_sipush 52 C X d31_49 kc_sipush_255 ?_
 refine s_iand 53 C X d31_52 ?_
 refine s_getstatic 56 C X (host := "") d31_53 (Or.inl (mW 137 rfl)) Via.refl (S_lo.ext Od.2) (fun T X => ?_)
 refine s_ishl 57 C X d31_56 ?_
 refine s_ior 58 C X d31_57 ?_
 refine s_i2c 59 C X d31_58 ?_
 refine rc (st' := [.int yF]) (by rw [show (((((lo yF) &&& i255) <<< (i0 &&& 31)) ||| (((hi yF) &&& i255) <<< (i8 &&& 31)))).toUInt32.toUInt16.toUInt32.toInt32 = yF from own_get hvU]) ?_
 refine s_nreturn C X d31_59 rfl (by simp) (own_nU hvU) ?_ (FG hG (by decide) (by decide))
 exact hQ _ _ ⟨rfl, Od, Kp⟩
theorem rm_a62 (hw : Hw a0 Z) (yF : Int32) (yF_8 : Int32) (yF_13 : Int32) (o2940 : Addr) (k_o2940 : ClassId) (h0 : Heap) (n0 : Nat) (Z0 : n0 ≤ h0.size) (Od : Old Z n0 h0) (S_ad : Sta Z Z.heap cU "$assertionsDisabled" "Z" (.int i1)) (S_hi : Sta Z Z.heap cU "HI_BYTE_SHIFT" "I" (.int i0)) (S_lo : Sta Z Z.heap cU "LO_BYTE_SHIFT" "I" (.int i8)) (A_o2940 : Arv Z h0 o2940 k_o2940 .char i3 [.int yF, .int yF_8, .int yF_13] (.int i0)) (hvU : own_U yF) (hvU_9 : own_U yF_8) (hvU_14 : own_U yF_13) :
  Met l Z (⟨cU, "compress", "([CII)[B"⟩ : MethodName) jdk_52_method_16_code 6 (some (.array .byte)) (rM 3 2 9 40) [] #[.ref o2940, .int i0, .int i3] h0 n0 (fun v h => (∃ (bFc : Addr) (k_bFc : ClassId), v = some (.ref bFc) ∧ own_B yF ∧ own_B yF_8 ∧ own_B yF_13 ∧ Old Z n0 h ∧ Keep h0 h [] ∧ Arv Z h bFc k_bFc .byte i3 [(.int (bv yF)), (.int (bv yF_8)), (.int (bv yF_13))] (.int i0)) ∨ (∃ (bFc : Addr) (k_bFc : ClassId), v = some (.ref bFc) ∧ Keep h0 h [] ∧ Old Z n0 h ∧ Arv Z h bFc k_bFc .byte i6 [(.int (lo yF)), (.int (hi yF)), (.int (lo yF_8)), (.int (hi yF_8)), (.int (lo yF_13)), (.int (hi yF_13))] (.int i0))) := by
 refine Met.mkQ (tabs := tables_1) (a0 := a0) (ls0 := #[rv o2940, iv i0, iv i3, un, un, un]) (plainFor_of_name pn_java_lang_StringUTF16) hw Z0 (fun m => by first | (simp [entryFrame, mkF, argsToLocals, Value.category]; done) | rfl) ?_
 intro p e s m below meth c T Q' G' hQ hG C X
 have Kp : Keep h0 h0 [] := Keep.refl _ _
 refine s_iloadN 1 C X d11_0 rfl ?_
 refine s_newarray 3 3 C X d11_1 (mW 23 rfl) (by decide) (by decide) (fun T hh o2943 k_o2943 hb_o2943 X E A_o2943 g_o2943 => ?_)
 have ne_o2940_o2943 : o2940 ≠ o2943 := Nat.ne_of_lt (Nat.lt_of_lt_of_le A_o2940.lt (Nat.le_of_eq hb_o2943))
 have sz_o2943 : h0.size ≤ o2943 := Nat.le_trans Kp.1 (Nat.le_of_eq hb_o2943)
 have Od := Od.ext E
 have A_o2940 := A_o2940.ext E
 have Kp := Kp.ext E
 have A_o2943 : Arv Z _ o2943 k_o2943 .byte i3 [.int i0, .int i0, .int i0] (.int i0) := A_o2943.pad (pad_rep [] _ 3)
 refine s_astoreN 4 C X (l' := #[rv o2940, iv i0, iv i3, rv o2943, un, un]) d11_3 rfl rfl ?_
 refine s_aloadN 5 C X d11_4 rfl rfl ?_
 refine s_iloadN 6 C X d11_5 rfl ?_
 refine s_aloadN 7 C X d11_6 rfl rfl ?_
 refine s_iconst 8 C X d11_7 kc_iconst_0 ?_
 refine s_iloadN 9 C X d11_8 rfl ?_
 refine s_callS 12 [.ref o2940, .int i0, .ref o2943, .int i0, .int i3] [] 0 C X d11_9 (mW 64 rfl) (mW 65 rfl) (mW 62 rfl) (mW 66 rfl) (rm_a52 l Z a0 hw yF yF_8 yF_13 o2940 k_o2940 o2943 k_o2943 _ n0 X.sz A_o2940 A_o2943 ne_o2940_o2943 g_o2943) (lenOf pd___CI_BII_I rfl) rfl rfl rfl (fun T v hh X q => ?_)
 obtain ⟨rfl, c20_2945, c20_2947, c20_2949, A_o2943, Kc⟩ | ⟨rfl, c20_2945, c20_2947, c20_2949, A_o2943, Kc⟩ | ⟨rfl, c20_2945, c20_2947, A_o2943, Kc⟩ | ⟨rfl, c20_2945, A_o2943, Kc⟩ := q
 ·have Od := Od.keep Kc (allS g_o2943 all0)
  have Kp := Kp.trans Kc (allS (Or.inr sz_o2943) all0)
  refine rc (st' := [.int i3]) rfl ?_
  refine s_istore 14 C X (l' := #[rv o2940, iv i0, iv i3, rv o2943, iv i3, un]) d11_12 rfl ?_
  refine s_iload 16 C X d11_14 rfl ?_
  refine s_iloadN 17 C X d11_16 rfl ?_
  refine s_icmp_eq 57 20 C X d11_17 (fun _ => ?_) (fun c => absurd (by decide : i3 = i3) c)
  refine s_aloadN 58 C X d11_57 rfl rfl ?_
  refine s_areturn C X d11_58 rfl rfl rfl ?_ (FG hG (by decide) (by decide))
  obtain ⟨bFc, e_bFc⟩ : ∃ z : Addr, z = o2943 := ⟨_, rfl⟩
  obtain ⟨k_bFc, e_k⟩ : ∃ z : ClassId, z = k_o2943 := ⟨_, rfl⟩
  show Q' (some (.ref o2943)) _
  rw [← e_bFc]
  have A_bFc : Arv Z hh bFc k_bFc .byte i3 [(.int (bv yF)), (.int (bv yF_8)), (.int (bv yF_13))] (.int i0) := by rw [e_bFc, e_k]; exact A_o2943
  have hvB0 : own_B yF := own_BB hvU c20_2945
  have hvB1 : own_B yF_8 := own_BB hvU_9 c20_2947
  have hvB2 : own_B yF_13 := own_BB hvU_14 c20_2949
  exact hQ _ _ (Or.inl ⟨bFc, k_bFc, rfl, hvB0, hvB1, hvB2, Od, Kp, A_bFc⟩)
 ·have Od := Od.keep Kc (allS g_o2943 all0)
  have A_o2940 := A_o2940.keep Kc (ninS ne_o2940_o2943 nin0)
  have Kp := Kp.trans Kc (allS (Or.inr sz_o2943) all0)
  refine rc (st' := [.int i2]) rfl ?_
  refine s_istore 14 C X (l' := #[rv o2940, iv i0, iv i3, rv o2943, iv i2, un]) d11_12 rfl ?_
  refine s_iload 16 C X d11_14 rfl ?_
  refine s_iloadN 17 C X d11_16 rfl ?_
  refine s_icmp_eq 57 20 C X d11_17 (fun c => absurd c (by decide)) (fun _ => ?_)
  refine s_aloadN 21 C X d11_20 rfl rfl ?_
  refine s_iloadN 22 C X d11_21 rfl ?_
  refine s_iloadN 23 C X d11_22 rfl ?_
  refine s_callS 26 [.ref o2940, .int i0, .int i3] [] 0 C X d11_23 (mW 122 rfl) (mW 123 rfl) (mW 62 rfl) (mW 124 rfl) (rm_a58 l Z a0 hw yF yF_8 yF_13 o2940 k_o2940 _ n0 X.sz Od S_ad S_hi S_lo A_o2940) (lenOf pd___CII__B rfl) rfl rfl rfl (fun T v hh X q => ?_)
  obtain ⟨k_o2957, o2957, rfl, Kc, Od, A_o2957, sz_o2957', g_o2957⟩ := q
  have Kp := Kp.trans Kc all0
  refine rc (st' := [.ref o2957]) rfl ?_
  refine s_astore 28 C X (l' := #[rv o2940, iv i0, iv i3, rv o2943, iv i2, rv o2957]) d11_26 rfl rfl ?_
  refine s_aload 30 C X d11_28 rfl rfl ?_
  refine s_iload 32 C X d11_30 rfl ?_
  refine s_callS 35 [.ref o2957, .int i2] [] 0 C X d11_32 (mW 138 rfl) (mW 139 rfl) (mW 62 rfl) (mW 140 rfl) (rm_a59 l Z a0 hw yF yF_8 yF_13 k_o2957 o2957 _ n0 X.sz S_ad S_hi S_lo Od A_o2957 hvU_14) (lenOf pd___BI_C rfl) rfl rfl rfl (fun T v hh X q => ?_)
  obtain ⟨rfl, Od, Kc⟩ := q
  have Kp := Kp.trans Kc all0
  have A_o2957 := A_o2957.keep Kc nin0
  refine rc (st' := [.int yF_13]) rfl ?_
  refine s_sipush 38 C X d11_35 kc_sipush_255 ?_
  refine s_icmp_gt 54 41 C X d11_38 (fun c38_2972 => ?_) (fun c => absurd c20_2949 c)
  refine s_aload 56 C X d11_54 rfl rfl ?_
  refine s_areturn C X d11_56 rfl rfl rfl ?_ (FG hG (by decide) (by decide))
  obtain ⟨bFc, e_bFc⟩ : ∃ z : Addr, z = o2957 := ⟨_, rfl⟩
  obtain ⟨k_bFc, e_k⟩ : ∃ z : ClassId, z = k_o2957 := ⟨_, rfl⟩
  show Q' (some (.ref o2957)) _
  rw [← e_bFc]
  have A_bFc : Arv Z hh bFc k_bFc .byte i6 [(.int (lo yF)), (.int (hi yF)), (.int (lo yF_8)), (.int (hi yF_8)), (.int (lo yF_13)), (.int (hi yF_13))] (.int i0) := by rw [e_bFc, e_k]; exact A_o2957
  exact hQ _ _ (Or.inr ⟨bFc, k_bFc, rfl, Kp, Od, A_bFc⟩)
 ·have Od := Od.keep Kc (allS g_o2943 all0)
  have A_o2940 := A_o2940.keep Kc (ninS ne_o2940_o2943 nin0)
  have Kp := Kp.trans Kc (allS (Or.inr sz_o2943) all0)
  refine rc (st' := [.int i1]) rfl ?_
  refine s_istore 14 C X (l' := #[rv o2940, iv i0, iv i3, rv o2943, iv i1, un]) d11_12 rfl ?_
  refine s_iload 16 C X d11_14 rfl ?_
  refine s_iloadN 17 C X d11_16 rfl ?_
  refine s_icmp_eq 57 20 C X d11_17 (fun c => absurd c (by decide)) (fun _ => ?_)
  refine s_aloadN 21 C X d11_20 rfl rfl ?_
  refine s_iloadN 22 C X d11_21 rfl ?_
  refine s_iloadN 23 C X d11_22 rfl ?_
  refine s_callS 26 [.ref o2940, .int i0, .int i3] [] 0 C X d11_23 (mW 122 rfl) (mW 123 rfl) (mW 62 rfl) (mW 124 rfl) (rm_a58 l Z a0 hw yF yF_8 yF_13 o2940 k_o2940 _ n0 X.sz Od S_ad S_hi S_lo A_o2940) (lenOf pd___CII__B rfl) rfl rfl rfl (fun T v hh X q => ?_)
  obtain ⟨k_o2957, o2957, rfl, Kc, Od, A_o2957, sz_o2957', g_o2957⟩ := q
  have Kp := Kp.trans Kc all0
  refine rc (st' := [.ref o2957]) rfl ?_
  refine s_astore 28 C X (l' := #[rv o2940, iv i0, iv i3, rv o2943, iv i1, rv o2957]) d11_26 rfl rfl ?_
  refine s_aload 30 C X d11_28 rfl rfl ?_
  refine s_iload 32 C X d11_30 rfl ?_
  refine s_callS 35 [.ref o2957, .int i1] [] 0 C X d11_32 (mW 138 rfl) (mW 139 rfl) (mW 62 rfl) (mW 140 rfl) (rm_a60 l Z a0 hw yF yF_8 yF_13 k_o2957 o2957 _ n0 X.sz S_ad S_hi S_lo Od A_o2957 hvU_9) (lenOf pd___BI_C rfl) rfl rfl rfl (fun T v hh X q => ?_)
  obtain ⟨rfl, Od, Kc⟩ := q
  have Kp := Kp.trans Kc all0
  have A_o2957 := A_o2957.keep Kc nin0
  refine rc (st' := [.int yF_8]) rfl ?_
  refine s_sipush 38 C X d11_35 kc_sipush_255 ?_
  refine s_icmp_gt 54 41 C X d11_38 (fun c38_2992 => ?_) (fun c => absurd c20_2947 c)
  refine s_aload 56 C X d11_54 rfl rfl ?_
  refine s_areturn C X d11_56 rfl rfl rfl ?_ (FG hG (by decide) (by decide))
  obtain ⟨bFc, e_bFc⟩ : ∃ z : Addr, z = o2957 := ⟨_, rfl⟩
  obtain ⟨k_bFc, e_k⟩ : ∃ z : ClassId, z = k_o2957 := ⟨_, rfl⟩
  show Q' (some (.ref o2957)) _
  rw [← e_bFc]
  have A_bFc : Arv Z hh bFc k_bFc .byte i6 [(.int (lo yF)), (.int (hi yF)), (.int (lo yF_8)), (.int (hi yF_8)), (.int (lo yF_13)), (.int (hi yF_13))] (.int i0) := by rw [e_bFc, e_k]; exact A_o2957
  exact hQ _ _ (Or.inr ⟨bFc, k_bFc, rfl, Kp, Od, A_bFc⟩)
 ·have Od := Od.keep Kc (allS g_o2943 all0)
  have A_o2940 := A_o2940.keep Kc (ninS ne_o2940_o2943 nin0)
  have Kp := Kp.trans Kc (allS (Or.inr sz_o2943) all0)
  refine rc (st' := [.int i0]) rfl ?_
  refine s_istore 14 C X (l' := #[rv o2940, iv i0, iv i3, rv o2943, iv i0, un]) d11_12 rfl ?_
  refine s_iload 16 C X d11_14 rfl ?_
  refine s_iloadN 17 C X d11_16 rfl ?_
  refine s_icmp_eq 57 20 C X d11_17 (fun c => absurd c (by decide)) (fun _ => ?_)
  refine s_aloadN 21 C X d11_20 rfl rfl ?_
  refine s_iloadN 22 C X d11_21 rfl ?_
  refine s_iloadN 23 C X d11_22 rfl ?_
  refine s_callS 26 [.ref o2940, .int i0, .int i3] [] 0 C X d11_23 (mW 122 rfl) (mW 123 rfl) (mW 62 rfl) (mW 124 rfl) (rm_a58 l Z a0 hw yF yF_8 yF_13 o2940 k_o2940 _ n0 X.sz Od S_ad S_hi S_lo A_o2940) (lenOf pd___CII__B rfl) rfl rfl rfl (fun T v hh X q => ?_)
  obtain ⟨k_o2957, o2957, rfl, Kc, Od, A_o2957, sz_o2957', g_o2957⟩ := q
  have Kp := Kp.trans Kc all0
  refine rc (st' := [.ref o2957]) rfl ?_
  refine s_astore 28 C X (l' := #[rv o2940, iv i0, iv i3, rv o2943, iv i0, rv o2957]) d11_26 rfl rfl ?_
  refine s_aload 30 C X d11_28 rfl rfl ?_
  refine s_iload 32 C X d11_30 rfl ?_
  refine s_callS 35 [.ref o2957, .int i0] [] 0 C X d11_32 (mW 138 rfl) (mW 139 rfl) (mW 62 rfl) (mW 140 rfl) (rm_a61 l Z a0 hw yF yF_8 yF_13 k_o2957 o2957 _ n0 X.sz S_ad S_hi S_lo Od A_o2957 hvU) (lenOf pd___BI_C rfl) rfl rfl rfl (fun T v hh X q => ?_)
  obtain ⟨rfl, Od, Kc⟩ := q
  have Kp := Kp.trans Kc all0
  have A_o2957 := A_o2957.keep Kc nin0
  refine rc (st' := [.int yF]) rfl ?_
  refine s_sipush 38 C X d11_35 kc_sipush_255 ?_
  refine s_icmp_gt 54 41 C X d11_38 (fun c38_3012 => ?_) (fun c => absurd c20_2945 c)
  refine s_aload 56 C X d11_54 rfl rfl ?_
  refine s_areturn C X d11_56 rfl rfl rfl ?_ (FG hG (by decide) (by decide))
  obtain ⟨bFc, e_bFc⟩ : ∃ z : Addr, z = o2957 := ⟨_, rfl⟩
  obtain ⟨k_bFc, e_k⟩ : ∃ z : ClassId, z = k_o2957 := ⟨_, rfl⟩
  show Q' (some (.ref o2957)) _
  rw [← e_bFc]
  have A_bFc : Arv Z hh bFc k_bFc .byte i6 [(.int (lo yF)), (.int (hi yF)), (.int (lo yF_8)), (.int (hi yF_8)), (.int (lo yF_13)), (.int (hi yF_13))] (.int i0) := by rw [e_bFc, e_k]; exact A_o2957
  exact hQ _ _ (Or.inr ⟨bFc, k_bFc, rfl, Kp, Od, A_bFc⟩)
theorem rm_a63 (hw : Hw a0 Z) (yF : Int32) (yF_8 : Int32) (yF_13 : Int32) (bFc : Addr) (k_bFc : ClassId) (h0 : Heap) (n0 : Nat) (Z0 : n0 ≤ h0.size) (A_bFc : Arv Z h0 bFc k_bFc .byte i3 [(.int (bv yF)), (.int (bv yF_8)), (.int (bv yF_13))] (.int i0)) :
  Met l Z (⟨cU, "coderFromArrayLen", "([BI)B"⟩ : MethodName) jdk_52_method_15_code 2 (some .byte) (rM 0 0 0 0) [] #[.ref bFc, .int i3] h0 n0 (fun v h => v = some (.int i0) ∧ Keep h0 h []) := by
 refine Met.mkQ (tabs := tables_1) (a0 := a0) (ls0 := #[rv bFc, iv i3]) (plainFor_of_name pn_java_lang_StringUTF16) hw Z0 (fun m => by first | (simp [entryFrame, mkF, argsToLocals, Value.category]; done) | rfl) ?_
 intro p e s m below meth c T Q' G' hQ hG C X
 have Kp : Keep h0 h0 [] := Keep.refl _ _
 refine s_iloadN 1 C X d13_0 rfl ?_
 refine s_aloadN 2 C X d13_1 rfl rfl ?_
 refine s_arraylength 3 C X d13_2 A_bFc ?_
 refine s_isub 4 C X d13_3 ?_
 refine rc (st' := [.int i0]) (by rw [kf_15]) ?_
 refine s_bipush 6 C X d13_4 kc_bipush_31 ?_
 refine s_iushr 7 C X d13_6 ?_
 refine rc (st' := [.int i0]) (by rw [kf_6]) ?_
 refine s_i2b 8 C X d13_7 ?_
 refine rc (st' := [.int i0]) (by rw [kf_7]) ?_
 refine s_nreturn C X d13_8 rfl (by simp) rfl ?_ (FG hG (by decide) (by decide))
 exact hQ _ _ ⟨rfl, Kp⟩
theorem rm_a64 (hw : Hw a0 Z) (yF : Int32) (yF_8 : Int32) (yF_13 : Int32) (bFc : Addr) (k_bFc : ClassId) (h0 : Heap) (n0 : Nat) (Z0 : n0 ≤ h0.size) (A_bFc : Arv Z h0 bFc k_bFc .byte i6 [(.int (lo yF)), (.int (hi yF)), (.int (lo yF_8)), (.int (hi yF_8)), (.int (lo yF_13)), (.int (hi yF_13))] (.int i0)) :
  Met l Z (⟨cU, "coderFromArrayLen", "([BI)B"⟩ : MethodName) jdk_52_method_15_code 2 (some .byte) (rM 0 0 0 0) [] #[.ref bFc, .int i3] h0 n0 (fun v h => v = some (.int i1) ∧ Keep h0 h []) := by
 refine Met.mkQ (tabs := tables_1) (a0 := a0) (ls0 := #[rv bFc, iv i3]) (plainFor_of_name pn_java_lang_StringUTF16) hw Z0 (fun m => by first | (simp [entryFrame, mkF, argsToLocals, Value.category]; done) | rfl) ?_
 intro p e s m below meth c T Q' G' hQ hG C X
 have Kp : Keep h0 h0 [] := Keep.refl _ _
 refine s_iloadN 1 C X d13_0 rfl ?_
 refine s_aloadN 2 C X d13_1 rfl rfl ?_
 refine s_arraylength 3 C X d13_2 A_bFc ?_
 refine s_isub 4 C X d13_3 ?_
 refine rc (st' := [.int im3]) (by rw [kf_16]) ?_
 refine s_bipush 6 C X d13_4 kc_bipush_31 ?_
 refine s_iushr 7 C X d13_6 ?_
 refine rc (st' := [.int i1]) (by rw [kf_17]) ?_
 refine s_i2b 8 C X d13_7 ?_
 refine rc (st' := [.int i1]) (by rw [kf_10]) ?_
 refine s_nreturn C X d13_8 rfl (by simp) rfl ?_ (FG hG (by decide) (by decide))
 exact hQ _ _ ⟨rfl, Kp⟩
theorem rm_a65 (hw : Hw a0 Z) (cs : Int32) (yF : Int32) (yF_8 : Int32) (yF_13 : Int32) (o2939 : Addr) (o2940 : Addr) (k_o2940 : ClassId) (h0 : Heap) (n0 : Nat) (Z0 : n0 ≤ h0.size) (Od : Old Z n0 h0) (S_cs : Sta Z Z.heap cS cC "Z" (.int cs)) (S_ad : Sta Z Z.heap cU "$assertionsDisabled" "Z" (.int i1)) (S_hi : Sta Z Z.heap cU "HI_BYTE_SHIFT" "I" (.int i0)) (S_lo : Sta Z Z.heap cU "LO_BYTE_SHIFT" "I" (.int i8)) (E_o2939 : Exa Z h0 o2939 cS) (F_o2939_a : Fld Z h0 o2939 cS "value" "[B" .null) (F_o2939_k : Fld Z h0 o2939 cS "coder" "B" (.int i0)) (A_o2940 : Arv Z h0 o2940 k_o2940 .char i3 [.int yF, .int yF_8, .int yF_13] (.int i0)) (hv_cs : ¬ cs = i0) (hvU : own_U yF) (hvU_9 : own_U yF_8) (hvU_14 : own_U yF_13) (g_o2939 : n0 ≤ o2939) (ne_o2939_o2940 : o2939 ≠ o2940) :
  MetH l Z EL1 [o2939] (⟨cS, "<init>", "([CIILjava/lang/Void;)V"⟩ : MethodName) jdk_42_method_149_code 6 none (rM 4 2 9 57) [] #[.ref o2939, .ref o2940, .int i0, .int i3, .null] h0 n0 (fun v h => ∃ (bF : Addr) (kF : Int32) (k_bF : ClassId) (zF : Int32) (zsF : List Int32), v = none ∧ own_T [yF, yF_8, yF_13] kF zF zsF ∧ Exa Z h o2939 cS ∧ Fld Z h o2939 cS "value" "[B" (.ref bF) ∧ Fld Z h o2939 cS "coder" "B" (.int kF) ∧ Keep h0 h [o2939] ∧ Old Z n0 h ∧ Arv Z h bF k_bF .byte zF (Y zsF) (.int i0)) := by
 refine MetH.mkQ (tabs := tables_1) (a0 := a0) (ls0 := #[rv o2939, rv o2940, iv i0, iv i3, .val .null, un]) (plainFor_of_name pn_java_lang_String) hw Z0 (fun m => by first | (simp [entryFrame, mkF, argsToLocals, Value.category]; done) | rfl) ?_
 intro p e s m below meth c T Q' G' vm k1 hQ hG C X hS Rc hso
 have Kp : Keep h0 h0 [o2939] := Keep.refl _ _
 have H_o2939 : Safe Z EL1 vm h0 o2939 := hso _ (by simp)
 refine s_aloadN 1 C X d3_0 rfl rfl ?_
 refine s_objInit 4 C X d3_1 (mW 19 rfl) (mW 20 rfl) (mW 21 rfl) rfl (W := 0) rfl (by decide) (fun T X => ?_)
 refine s_iloadN 5 C X d3_4 rfl ?_
 refine s_if_ne 27 8 C X d3_5 (fun _ => ?_) (fun c => absurd c (by decide))
 refine s_getstatic 30 C X (host := "") d3_27 (Or.inl (mW 44 rfl)) Via.refl (S_cs.ext Od.2) (fun T X => ?_)
 refine s_if_eq 58 33 C X d3_30 (fun c => absurd c hv_cs) (fun c30_2942 => ?_)
 refine s_aloadN 34 C X d3_33 rfl rfl ?_
 refine s_iloadN 35 C X d3_34 rfl ?_
 refine s_iloadN 36 C X d3_35 rfl ?_
 refine s_callS 39 [.ref o2940, .int i0, .int i3] [] 0 C X d3_36 (mW 60 rfl) (mW 61 rfl) (mW 62 rfl) (mW 63 rfl) (rm_a62 l Z a0 hw yF yF_8 yF_13 o2940 k_o2940 _ n0 X.sz Od S_ad S_hi S_lo A_o2940 hvU hvU_9 hvU_14) (lenOf pd___CII__B rfl) rfl rfl rfl (fun T v hh X q => ?_)
 obtain ⟨bFc, k_bFc, rfl, hvB0, hvB1, hvB2, Od, Kc, A_bFc⟩ | ⟨bFc, k_bFc, rfl, Kc, Od, A_bFc⟩ := q
 ·have H_o2939 := Safe.keep Kc so0 Rc.1.1 H_o2939
  have Rc := Rc.keep Kc so0
  have E_o2939 := E_o2939.keep Kc
  have F_o2939_a := F_o2939_a.keep Kc nin0
  have F_o2939_k := F_o2939_k.keep Kc nin0
  have Kp := Kp.trans Kc all0
  refine rc (st' := [.ref bFc]) rfl ?_
  refine s_astore 41 C X (l' := #[rv o2939, rv o2940, iv i0, iv i3, .val .null, rv bFc]) d3_39 rfl rfl ?_
  refine s_aloadN 42 C X d3_41 rfl rfl ?_
  refine s_aload 44 C X d3_42 rfl rfl ?_
  refine s_iloadN 45 C X d3_44 rfl ?_
  refine s_callS 48 [.ref bFc, .int i3] [.ref o2939] 1 C X d3_45 (mW 67 rfl) (mW 68 rfl) (mW 62 rfl) (mW 69 rfl) (rm_a63 l Z a0 hw yF yF_8 yF_13 bFc k_bFc _ n0 X.sz A_bFc) (lenOf pd___BI_B rfl) rfl rfl rfl (fun T v hh X q => ?_)
  obtain ⟨rfl, Kc⟩ := q
  have H_o2939 := Safe.keep Kc so0 Rc.1.1 H_o2939
  have Rc := Rc.keep Kc so0
  have E_o2939 := E_o2939.keep Kc
  have F_o2939_a := F_o2939_a.keep Kc nin0
  have F_o2939_k := F_o2939_k.keep Kc nin0
  have Kp := Kp.trans Kc all0
  have Od := Od.keep Kc all0
  have A_bFc := A_bFc.keep Kc nin0
  refine rc (st' := [.int i0, .ref o2939]) rfl ?_
  refine s_putfieldN 51 C X d3_48 (mW 29 rfl) Via.refl F_o2939_k E_o2939 (Or.inr ⟨(mW 25 rfl), rfl, rfl⟩) (mW 10 rfl) (ty := .byte) (by decide) rfl rfl g_o2939 (fun T hh X W => ?_)
  have ne_bFc_o2939 : bFc ≠ o2939 := own_aen A_bFc E_o2939 (hw _ (mW 10 rfl))
  have Sf : Safe Z EL1 vm _ o2939 := H_o2939
  have H_o2939 := Safe.wr W Sf Rc.1.1 H_o2939
  have Rc := Rc.wr W Sf
  have E_o2939 := E_o2939.wr W
  have F_o2939_a := oth F_o2939_a W (Or.inr (hw _ (mW 24 rfl))) (Or.inr (hw _ (mW 25 rfl))) (by decide)
  have F_o2939_k := F_o2939_k.same W
  have Kp := Kp.wr W (Or.inl (by simp))
  have Od := Od.wr W g_o2939
  have A_bFc := A_bFc.other W ne_bFc_o2939
  refine s_aloadN 52 C X d3_51 rfl rfl ?_
  refine s_aload 54 C X d3_52 rfl rfl ?_
  refine s_putfield 57 C X (host := "") d3_54 (Or.inl (mW 28 rfl)) Via.refl F_o2939_a E_o2939 (Or.inr ⟨(mW 24 rfl), rfl, rfl⟩) (mW 10 rfl) (ty := (.array .byte)) (by decide) rfl rfl g_o2939 (fun T hh X W => ?_)
  have Sf : Safe Z EL1 vm _ o2939 := H_o2939
  have Rc := Rc.wr W Sf
  have E_o2939 := E_o2939.wr W
  have F_o2939_a := F_o2939_a.same W
  have F_o2939_k := oth F_o2939_k W (Or.inr (hw _ (mW 25 rfl))) (Or.inr (hw _ (mW 24 rfl))) (by decide)
  have Kp := Kp.wr W (Or.inl (by simp))
  have Od := Od.wr W g_o2939
  have A_bFc := A_bFc.other W ne_bFc_o2939
  refine s_return C X d3_57 rfl ?_ (FGH hG hS Rc C (own_EL hw))
  obtain ⟨bF, e_bF⟩ : ∃ z : Addr, z = bFc := ⟨_, rfl⟩
  obtain ⟨k_bF, e_k⟩ : ∃ z : ClassId, z = k_bFc := ⟨_, rfl⟩
  obtain ⟨kF, e_kF⟩ : ∃ z : Int32, z = i0 := ⟨_, rfl⟩
  obtain ⟨zF, e_zF⟩ : ∃ z : Int32, z = i3 := ⟨_, rfl⟩
  obtain ⟨zsF, e_zsF⟩ : ∃ z : List Int32, z = [(bv yF), (bv yF_8), (bv yF_13)] := ⟨_, rfl⟩
  rw [← e_bF] at F_o2939_a
  have F_o2939_k : Fld Z hh o2939 cS "coder" "B" (.int kF) := by rw [e_kF]; exact F_o2939_k
  have A_bF : Arv Z hh bF k_bF .byte zF (Y zsF) (.int i0) := by rw [e_bF, e_k, e_zF, e_zsF]; exact A_bFc
  have hvT : own_T [yF, yF_8, yF_13] kF zF zsF := by rw [e_kF, e_zF, e_zsF]; exact own_tL3 hvU hvU_9 hvU_14 hvB0 hvB1 hvB2
  exact hQ _ _ ⟨bF, kF, k_bF, zF, zsF, rfl, hvT, E_o2939, F_o2939_a, F_o2939_k, Kp, Od, A_bF⟩
 ·have H_o2939 := Safe.keep Kc so0 Rc.1.1 H_o2939
  have Rc := Rc.keep Kc so0
  have E_o2939 := E_o2939.keep Kc
  have F_o2939_a := F_o2939_a.keep Kc nin0
  have F_o2939_k := F_o2939_k.keep Kc nin0
  have Kp := Kp.trans Kc all0
  refine rc (st' := [.ref bFc]) rfl ?_
  refine s_astore 41 C X (l' := #[rv o2939, rv o2940, iv i0, iv i3, .val .null, rv bFc]) d3_39 rfl rfl ?_
  refine s_aloadN 42 C X d3_41 rfl rfl ?_
  refine s_aload 44 C X d3_42 rfl rfl ?_
  refine s_iloadN 45 C X d3_44 rfl ?_
  refine s_callS 48 [.ref bFc, .int i3] [.ref o2939] 1 C X d3_45 (mW 67 rfl) (mW 68 rfl) (mW 62 rfl) (mW 69 rfl) (rm_a64 l Z a0 hw yF yF_8 yF_13 bFc k_bFc _ n0 X.sz A_bFc) (lenOf pd___BI_B rfl) rfl rfl rfl (fun T v hh X q => ?_)
  obtain ⟨rfl, Kc⟩ := q
  have H_o2939 := Safe.keep Kc so0 Rc.1.1 H_o2939
  have Rc := Rc.keep Kc so0
  have E_o2939 := E_o2939.keep Kc
  have F_o2939_a := F_o2939_a.keep Kc nin0
  have F_o2939_k := F_o2939_k.keep Kc nin0
  have Kp := Kp.trans Kc all0
  have Od := Od.keep Kc all0
  have A_bFc := A_bFc.keep Kc nin0
  refine rc (st' := [.int i1, .ref o2939]) rfl ?_
  refine s_putfieldN 51 C X d3_48 (mW 29 rfl) Via.refl F_o2939_k E_o2939 (Or.inr ⟨(mW 25 rfl), rfl, rfl⟩) (mW 10 rfl) (ty := .byte) (by decide) rfl rfl g_o2939 (fun T hh X W => ?_)
  have ne_bFc_o2939 : bFc ≠ o2939 := own_aen A_bFc E_o2939 (hw _ (mW 10 rfl))
  have Sf : Safe Z EL1 vm _ o2939 := H_o2939
  have H_o2939 := Safe.wr W Sf Rc.1.1 H_o2939
  have Rc := Rc.wr W Sf
  have E_o2939 := E_o2939.wr W
  have F_o2939_a := oth F_o2939_a W (Or.inr (hw _ (mW 24 rfl))) (Or.inr (hw _ (mW 25 rfl))) (by decide)
  have F_o2939_k := F_o2939_k.same W
  have Kp := Kp.wr W (Or.inl (by simp))
  have Od := Od.wr W g_o2939
  have A_bFc := A_bFc.other W ne_bFc_o2939
  refine s_aloadN 52 C X d3_51 rfl rfl ?_
  refine s_aload 54 C X d3_52 rfl rfl ?_
  refine s_putfield 57 C X (host := "") d3_54 (Or.inl (mW 28 rfl)) Via.refl F_o2939_a E_o2939 (Or.inr ⟨(mW 24 rfl), rfl, rfl⟩) (mW 10 rfl) (ty := (.array .byte)) (by decide) rfl rfl g_o2939 (fun T hh X W => ?_)
  have Sf : Safe Z EL1 vm _ o2939 := H_o2939
  have Rc := Rc.wr W Sf
  have E_o2939 := E_o2939.wr W
  have F_o2939_a := F_o2939_a.same W
  have F_o2939_k := oth F_o2939_k W (Or.inr (hw _ (mW 25 rfl))) (Or.inr (hw _ (mW 24 rfl))) (by decide)
  have Kp := Kp.wr W (Or.inl (by simp))
  have Od := Od.wr W g_o2939
  have A_bFc := A_bFc.other W ne_bFc_o2939
  refine s_return C X d3_57 rfl ?_ (FGH hG hS Rc C (own_EL hw))
  obtain ⟨bF, e_bF⟩ : ∃ z : Addr, z = bFc := ⟨_, rfl⟩
  obtain ⟨k_bF, e_k⟩ : ∃ z : ClassId, z = k_bFc := ⟨_, rfl⟩
  obtain ⟨kF, e_kF⟩ : ∃ z : Int32, z = i1 := ⟨_, rfl⟩
  obtain ⟨zF, e_zF⟩ : ∃ z : Int32, z = i6 := ⟨_, rfl⟩
  obtain ⟨zsF, e_zsF⟩ : ∃ z : List Int32, z = [(lo yF), (hi yF), (lo yF_8), (hi yF_8), (lo yF_13), (hi yF_13)] := ⟨_, rfl⟩
  rw [← e_bF] at F_o2939_a
  have F_o2939_k : Fld Z hh o2939 cS "coder" "B" (.int kF) := by rw [e_kF]; exact F_o2939_k
  have A_bF : Arv Z hh bF k_bF .byte zF (Y zsF) (.int i0) := by rw [e_bF, e_k, e_zF, e_zsF]; exact A_bFc
  have hvT : own_T [yF, yF_8, yF_13] kF zF zsF := by rw [e_kF, e_zF, e_zsF]; exact own_tU3 hvU hvU_9 hvU_14
  exact hQ _ _ ⟨bF, kF, k_bF, zF, zsF, rfl, hvT, E_o2939, F_o2939_a, F_o2939_k, Kp, Od, A_bF⟩
theorem rm_a66 (hw : Hw a0 Z) (cs : Int32) (yF : Int32) (yF_8 : Int32) (yF_13 : Int32) (o2939 : Addr) (o2940 : Addr) (k_o2940 : ClassId) (h0 : Heap) (n0 : Nat) (Z0 : n0 ≤ h0.size) (Od : Old Z n0 h0) (S_cs : Sta Z Z.heap cS cC "Z" (.int cs)) (S_ad : Sta Z Z.heap cU "$assertionsDisabled" "Z" (.int i1)) (S_hi : Sta Z Z.heap cU "HI_BYTE_SHIFT" "I" (.int i0)) (S_lo : Sta Z Z.heap cU "LO_BYTE_SHIFT" "I" (.int i8)) (E_o2939 : Exa Z h0 o2939 cS) (F_o2939_a : Fld Z h0 o2939 cS "value" "[B" .null) (F_o2939_k : Fld Z h0 o2939 cS "coder" "B" (.int i0)) (A_o2940 : Arv Z h0 o2940 k_o2940 .char i3 [.int yF, .int yF_8, .int yF_13] (.int i0)) (hv_cs : ¬ cs = i0) (hvU : own_U yF) (hvU_9 : own_U yF_8) (hvU_14 : own_U yF_13) (g_o2939 : n0 ≤ o2939) (ne_o2939_o2940 : o2939 ≠ o2940) :
  MetH l Z EL1 [o2939] (⟨cS, "<init>", "([C)V"⟩ : MethodName) jdk_42_method_3_code 2 none (rM 5 2 9 74) [] #[.ref o2939, .ref o2940] h0 n0 (fun v h => ∃ (bF : Addr) (kF : Int32) (k_bF : ClassId) (zF : Int32) (zsF : List Int32), v = none ∧ own_T [yF, yF_8, yF_13] kF zF zsF ∧ Keep h0 h [o2939] ∧ Exa Z h o2939 cS ∧ Fld Z h o2939 cS "value" "[B" (.ref bF) ∧ Fld Z h o2939 cS "coder" "B" (.int kF) ∧ Old Z n0 h ∧ Arv Z h bF k_bF .byte zF (Y zsF) (.int i0)) := by
 refine MetH.mkQ (tabs := tables_1) (a0 := a0) (ls0 := #[rv o2939, rv o2940]) (plainFor_of_name pn_java_lang_String) hw Z0 (fun m => by first | (simp [entryFrame, mkF, argsToLocals, Value.category]; done) | rfl) ?_
 intro p e s m below meth c T Q' G' vm k1 hQ hG C X hS Rc hso
 have Kp : Keep h0 h0 [o2939] := Keep.refl _ _
 have H_o2939 : Safe Z EL1 vm h0 o2939 := hso _ (by simp)
 refine s_aloadN 1 C X d2_0 rfl rfl ?_
 refine s_aloadN 2 C X d2_1 rfl rfl ?_
 refine s_iconst 3 C X d2_2 kc_iconst_0 ?_
 refine s_aloadN 4 C X d2_3 rfl rfl ?_
 refine s_arraylength 5 C X d2_4 A_o2940 ?_
 refine s_aconstNull 6 C X d2_5 ?_
 refine s_hcallC 9 [.ref o2940, .int i0, .int i3, .null] [] 0 C X hS Rc.2 (own_EL hw) Rc.1.1 d2_6 rfl (mW 15 rfl) (mW 16 rfl) (mW 11 rfl) (mW 18 rfl) (rm_a65 l Z a0 hw cs yF yF_8 yF_13 o2939 o2940 k_o2940 _ n0 X.sz Od S_cs S_ad S_hi S_lo E_o2939 F_o2939_a F_o2939_k A_o2940 hv_cs hvU hvU_9 hvU_14 g_o2939 ne_o2939_o2940) (lenOf pd___CIILjava_lang_Void__V rfl) rfl rfl rfl (soS ⟨E_o2939.lt, H_o2939⟩ so0) (fun T v hh vm k1 C X hS Nk Rn q => ?_)
 obtain ⟨bF, kF, k_bF, zF, zsF, rfl, hvT, E_o2939, F_o2939_a, F_o2939_k, Kc, Od, A_bF⟩ := q
 have Rc := Rc.call Rn Nk
 have Kp := Kp.trans Kc (allS (Or.inl (by simp)) all0)
 refine rc (st' := []) rfl ?_
 refine s_return C X d2_9 rfl ?_ (FGH hG hS Rc C (own_EL hw))
 exact hQ _ _ ⟨bF, kF, k_bF, zF, zsF, rfl, hvT, Kp, E_o2939, F_o2939_a, F_o2939_k, Od, A_bF⟩
theorem rm_a67 (hw : Hw a0 Z) (cs : Int32) (fm : Value) (o2939 : Addr) (bF : Addr) (kF : Int32) (k_bF : ClassId) (zF : Int32) (zsF : List Int32) (xs : List Int32) (h0 : Heap) (n0 : Nat) (Z0 : n0 ≤ h0.size) (S_cs : Sta Z Z.heap cS cC "Z" (.int cs)) (S_fm : Sta Z Z.heap cP cM cF fm) (S_ad : Sta Z Z.heap cU "$assertionsDisabled" "Z" (.int i1)) (S_hi : Sta Z Z.heap cU "HI_BYTE_SHIFT" "I" (.int i0)) (S_lo : Sta Z Z.heap cU "LO_BYTE_SHIFT" "I" (.int i8)) (E_o2939 : Exa Z h0 o2939 cS) (F_o2939_a : Fld Z h0 o2939 cS "value" "[B" (.ref bF)) (F_o2939_k : Fld Z h0 o2939 cS "coder" "B" (.int kF)) (Od : Old Z n0 h0) (A_bF : Arv Z h0 bF k_bF .byte zF (Y zsF) (.int i0)) (hv_cs : ¬ cs = i0) (hv_fm : fm.isRef = true) (hvS : own_T xs kF zF zsF) (hvL : xs.length = 3) :
  MetH l Z EL1 [] (⟨"com/example/tinsel_tally/tinseltally/Blanks", "strip", "(Ljava/lang/String;)Ljava/lang/String;"⟩ : MethodName) prog_3_method_2_code 3 (some (.object cS)) (rM 7 3 16 119) [] #[.ref o2939] h0 n0 (fun v h => ∃ (bFq : Addr) (eFt : Int32) (kFq : Int32) (k_bFq : ClassId) (lFq : Int32) (rFq : Addr) (sFt : Int32) (zFq : Int32) (zsFq : List Int32), v = some (.ref rFq) ∧ own_S xs sFt eFt ∧ lFq.toInt = eFt.toInt - sFt.toInt ∧ own_T (sl xs sFt.toNatClampNeg lFq.toNatClampNeg) kFq zFq zsFq ∧ Keep h0 h [] ∧ Old Z n0 h ∧ Exa Z h rFq cS ∧ Fld Z h rFq cS "coder" "B" (.int kFq) ∧ Fld Z h rFq cS "value" "[B" (.ref bFq) ∧ Arv Z h bFq k_bFq .byte zFq (Y zsFq) (.int i0)) := by
 refine MetH.mkQ (tabs := tables_1) (a0 := a0) (ls0 := #[rv o2939, un, un]) (plainFor_of_name pn_com_example_tinsel_tally_tinseltally_Blanks) hw Z0 (fun m => by first | (simp [entryFrame, mkF, argsToLocals, Value.category]; done) | rfl) ?_
 intro p e s m below meth c T Q' G' vm k1 hQ hG C X hS Rc hso
 have Kp : Keep h0 h0 [] := Keep.refl _ _
 refine s_iconst 1 C X d5_0 kc_iconst_0 ?_
 refine s_istoreN 2 C X (l' := #[rv o2939, iv i0, un]) d5_1 rfl ?_
 refine s_iloadN 3 C X d5_2 rfl ?_
 refine s_aloadN 4 C X d5_3 rfl rfl ?_
 refine s_callV 7 [] [.int i0] 1 C X d5_4 (mW 34 rfl) (mW 35 rfl) (nF C (mW 37 rfl)) (mW 37 rfl) (mW 36 rfl) (mW 11 rfl) (mW 38 rfl) E_o2939 (rm_a20 l Z a0 hw cs o2939 bF kF k_bF zF zsF xs _ n0 X.sz S_cs E_o2939 F_o2939_a F_o2939_k Od A_bF hv_cs hvS) (lenOf pd___I rfl) rfl rfl rfl (fun T v hh X q => ?_)
 obtain ⟨rfl, Kc, Od⟩ := q
 have Rc := Rc.keep Kc so0
 have E_o2939 := E_o2939.keep Kc
 have F_o2939_a := F_o2939_a.keep Kc nin0
 have F_o2939_k := F_o2939_k.keep Kc nin0
 have A_bF := A_bF.keep Kc nin0
 have Kp := Kp.trans Kc all0
 refine rc (st' := [(.int (zF >>> (kF &&& 31))), .int i0]) rfl ?_
 refine rc (st' := [.int i3, .int i0]) (by rw [own_lenN hvS hvL (L := i3) (by decide)]) ?_
 refine s_icmp_ge 27 10 C X d5_7 (fun c => absurd (by decide : i0 < i3) c) (fun _ => ?_)
 refine s_aloadN 11 C X d5_10 rfl rfl ?_
 refine s_iloadN 12 C X d5_11 rfl ?_
 obtain ⟨ix3065, e_ix3065⟩ : ∃ zz_ : Int32, zz_ = i0 := ⟨_, rfl⟩
 refine rc (st' := [.int ix3065, .ref o2939]) (by subst e_ix3065; rfl) ?_
 have hvx_ix3065 : own_ix xs ix3065 := by rw [e_ix3065]; exact ⟨by decide, by rw [hvL]; decide⟩
 refine s_callV 15 [.int ix3065] [] 0 C X d5_12 (mW 73 rfl) (mW 74 rfl) (nF C (mW 76 rfl)) (mW 76 rfl) (mW 75 rfl) (mW 11 rfl) (mW 77 rfl) E_o2939 (rm_a31 l Z a0 hw cs fm o2939 bF kF k_bF zF zsF xs ix3065 _ n0 X.sz S_cs S_fm S_ad S_hi S_lo E_o2939 F_o2939_a F_o2939_k A_bF Od hv_cs hv_fm hvS hvx_ix3065) (lenOf pd__I_C rfl) rfl rfl rfl (fun T v hh X q => ?_)
 obtain ⟨rfl, Kc, Od⟩ := q
 have Rc := Rc.keep Kc so0
 have E_o2939 := E_o2939.keep Kc
 have F_o2939_a := F_o2939_a.keep Kc nin0
 have F_o2939_k := F_o2939_k.keep Kc nin0
 have A_bF := A_bF.keep Kc nin0
 have Kp := Kp.trans Kc all0
 refine rc (st' := [(.int (xs.getD (ix3065).toNatClampNeg 0))]) rfl ?_
 refine rc (st' := [(.int (xs.getD 0 0))]) (by rw [show (xs.getD (ix3065).toNatClampNeg 0) = (xs.getD 0 0) from by rw [e_ix3065]; rfl]) ?_
 refine s_callS 18 [(.int (xs.getD 0 0))] [] 0 C X d5_15 (mW 93 rfl) (mW 94 rfl) (mW 32 rfl) (mW 95 rfl) (rm_isBlank l Z a0 hw ((xs.getD 0 0)) _ n0 X.sz) (lenOf pd__C_Z rfl) rfl rfl rfl (fun T v h2 X q => ?_)
 obtain ⟨⟨rfl, b3091⟩ | ⟨rfl, b3091⟩, hE⟩ := q
 ·rw [hE] at X
  refine rc (st' := [.int i1]) rfl ?_
  refine s_if_eq 27 21 C X d5_18 (fun c => absurd c (by decide)) (fun _ => ?_)
  refine s_iinc 24 C X (l' := #[rv o2939, iv i1, un]) d5_21 kc_iconst_1 rfl rfl ?_
  refine s_goto 2 C X d5_24 ?_
  refine s_iloadN 3 C X d5_2 rfl ?_
  refine s_aloadN 4 C X d5_3 rfl rfl ?_
  refine s_callV 7 [] [.int i1] 1 C X d5_4 (mW 34 rfl) (mW 35 rfl) (nF C (mW 37 rfl)) (mW 37 rfl) (mW 36 rfl) (mW 11 rfl) (mW 38 rfl) E_o2939 (rm_a20 l Z a0 hw cs o2939 bF kF k_bF zF zsF xs _ n0 X.sz S_cs E_o2939 F_o2939_a F_o2939_k Od A_bF hv_cs hvS) (lenOf pd___I rfl) rfl rfl rfl (fun T v hh X q => ?_)
  obtain ⟨rfl, Kc, Od⟩ := q
  have Rc := Rc.keep Kc so0
  have E_o2939 := E_o2939.keep Kc
  have F_o2939_a := F_o2939_a.keep Kc nin0
  have F_o2939_k := F_o2939_k.keep Kc nin0
  have A_bF := A_bF.keep Kc nin0
  have Kp := Kp.trans Kc all0
  refine rc (st' := [(.int (zF >>> (kF &&& 31))), .int i1]) rfl ?_
  refine rc (st' := [.int i3, .int i1]) (by rw [own_lenN hvS hvL (L := i3) (by decide)]) ?_
  refine s_icmp_ge 27 10 C X d5_7 (fun c => absurd (by decide : i1 < i3) c) (fun _ => ?_)
  refine s_aloadN 11 C X d5_10 rfl rfl ?_
  refine s_iloadN 12 C X d5_11 rfl ?_
  obtain ⟨ix3097, e_ix3097⟩ : ∃ zz_ : Int32, zz_ = i1 := ⟨_, rfl⟩
  refine rc (st' := [.int ix3097, .ref o2939]) (by subst e_ix3097; rfl) ?_
  have hvx_ix3097 : own_ix xs ix3097 := by rw [e_ix3097]; exact ⟨by decide, by rw [hvL]; decide⟩
  refine s_callV 15 [.int ix3097] [] 0 C X d5_12 (mW 73 rfl) (mW 74 rfl) (nF C (mW 76 rfl)) (mW 76 rfl) (mW 75 rfl) (mW 11 rfl) (mW 77 rfl) E_o2939 (rm_a31 l Z a0 hw cs fm o2939 bF kF k_bF zF zsF xs ix3097 _ n0 X.sz S_cs S_fm S_ad S_hi S_lo E_o2939 F_o2939_a F_o2939_k A_bF Od hv_cs hv_fm hvS hvx_ix3097) (lenOf pd__I_C rfl) rfl rfl rfl (fun T v hh X q => ?_)
  obtain ⟨rfl, Kc, Od⟩ := q
  have Rc := Rc.keep Kc so0
  have E_o2939 := E_o2939.keep Kc
  have F_o2939_a := F_o2939_a.keep Kc nin0
  have F_o2939_k := F_o2939_k.keep Kc nin0
  have A_bF := A_bF.keep Kc nin0
  have Kp := Kp.trans Kc all0
  refine rc (st' := [(.int (xs.getD (ix3097).toNatClampNeg 0))]) rfl ?_
  refine rc (st' := [(.int (xs.getD 1 0))]) (by rw [show (xs.getD (ix3097).toNatClampNeg 0) = (xs.getD 1 0) from by rw [e_ix3097]; rfl]) ?_
  refine s_callS 18 [(.int (xs.getD 1 0))] [] 0 C X d5_15 (mW 93 rfl) (mW 94 rfl) (mW 32 rfl) (mW 95 rfl) (rm_isBlank l Z a0 hw ((xs.getD 1 0)) _ n0 X.sz) (lenOf pd__C_Z rfl) rfl rfl rfl (fun T v h5 X q => ?_)
  obtain ⟨⟨rfl, b3123⟩ | ⟨rfl, b3123⟩, hE⟩ := q
  ·rw [hE] at X
   refine rc (st' := [.int i1]) rfl ?_
   refine s_if_eq 27 21 C X d5_18 (fun c => absurd c (by decide)) (fun _ => ?_)
   refine s_iinc 24 C X (l' := #[rv o2939, iv i2, un]) d5_21 kc_iconst_1 rfl rfl ?_
   refine s_goto 2 C X d5_24 ?_
   refine s_iloadN 3 C X d5_2 rfl ?_
   refine s_aloadN 4 C X d5_3 rfl rfl ?_
   refine s_callV 7 [] [.int i2] 1 C X d5_4 (mW 34 rfl) (mW 35 rfl) (nF C (mW 37 rfl)) (mW 37 rfl) (mW 36 rfl) (mW 11 rfl) (mW 38 rfl) E_o2939 (rm_a20 l Z a0 hw cs o2939 bF kF k_bF zF zsF xs _ n0 X.sz S_cs E_o2939 F_o2939_a F_o2939_k Od A_bF hv_cs hvS) (lenOf pd___I rfl) rfl rfl rfl (fun T v hh X q => ?_)
   obtain ⟨rfl, Kc, Od⟩ := q
   have Rc := Rc.keep Kc so0
   have E_o2939 := E_o2939.keep Kc
   have F_o2939_a := F_o2939_a.keep Kc nin0
   have F_o2939_k := F_o2939_k.keep Kc nin0
   have A_bF := A_bF.keep Kc nin0
   have Kp := Kp.trans Kc all0
   refine rc (st' := [(.int (zF >>> (kF &&& 31))), .int i2]) rfl ?_
   refine rc (st' := [.int i3, .int i2]) (by rw [own_lenN hvS hvL (L := i3) (by decide)]) ?_
   refine s_icmp_ge 27 10 C X d5_7 (fun c => absurd (by decide : i2 < i3) c) (fun _ => ?_)
   refine s_aloadN 11 C X d5_10 rfl rfl ?_
   refine s_iloadN 12 C X d5_11 rfl ?_
   obtain ⟨ix3129, e_ix3129⟩ : ∃ zz_ : Int32, zz_ = i2 := ⟨_, rfl⟩
   refine rc (st' := [.int ix3129, .ref o2939]) (by subst e_ix3129; rfl) ?_
   have hvx_ix3129 : own_ix xs ix3129 := by rw [e_ix3129]; exact ⟨by decide, by rw [hvL]; decide⟩
   refine s_callV 15 [.int ix3129] [] 0 C X d5_12 (mW 73 rfl) (mW 74 rfl) (nF C (mW 76 rfl)) (mW 76 rfl) (mW 75 rfl) (mW 11 rfl) (mW 77 rfl) E_o2939 (rm_a31 l Z a0 hw cs fm o2939 bF kF k_bF zF zsF xs ix3129 _ n0 X.sz S_cs S_fm S_ad S_hi S_lo E_o2939 F_o2939_a F_o2939_k A_bF Od hv_cs hv_fm hvS hvx_ix3129) (lenOf pd__I_C rfl) rfl rfl rfl (fun T v hh X q => ?_)
   obtain ⟨rfl, Kc, Od⟩ := q
   have Rc := Rc.keep Kc so0
   have E_o2939 := E_o2939.keep Kc
   have F_o2939_a := F_o2939_a.keep Kc nin0
   have F_o2939_k := F_o2939_k.keep Kc nin0
   have A_bF := A_bF.keep Kc nin0
   have Kp := Kp.trans Kc all0
   refine rc (st' := [(.int (xs.getD (ix3129).toNatClampNeg 0))]) rfl ?_
   refine rc (st' := [(.int (xs.getD 2 0))]) (by rw [show (xs.getD (ix3129).toNatClampNeg 0) = (xs.getD 2 0) from by rw [e_ix3129]; rfl]) ?_
   refine s_callS 18 [(.int (xs.getD 2 0))] [] 0 C X d5_15 (mW 93 rfl) (mW 94 rfl) (mW 32 rfl) (mW 95 rfl) (rm_isBlank l Z a0 hw ((xs.getD 2 0)) _ n0 X.sz) (lenOf pd__C_Z rfl) rfl rfl rfl (fun T v h8 X q => ?_)
   obtain ⟨⟨rfl, b3155⟩ | ⟨rfl, b3155⟩, hE⟩ := q
   ·rw [hE] at X
    refine rc (st' := [.int i1]) rfl ?_
    refine s_if_eq 27 21 C X d5_18 (fun c => absurd c (by decide)) (fun _ => ?_)
    refine s_iinc 24 C X (l' := #[rv o2939, iv i3, un]) d5_21 kc_iconst_1 rfl rfl ?_
    refine s_goto 2 C X d5_24 ?_
    refine s_iloadN 3 C X d5_2 rfl ?_
    refine s_aloadN 4 C X d5_3 rfl rfl ?_
    refine s_callV 7 [] [.int i3] 1 C X d5_4 (mW 34 rfl) (mW 35 rfl) (nF C (mW 37 rfl)) (mW 37 rfl) (mW 36 rfl) (mW 11 rfl) (mW 38 rfl) E_o2939 (rm_a20 l Z a0 hw cs o2939 bF kF k_bF zF zsF xs _ n0 X.sz S_cs E_o2939 F_o2939_a F_o2939_k Od A_bF hv_cs hvS) (lenOf pd___I rfl) rfl rfl rfl (fun T v hh X q => ?_)
    obtain ⟨rfl, Kc, Od⟩ := q
    have Rc := Rc.keep Kc so0
    have E_o2939 := E_o2939.keep Kc
    have F_o2939_a := F_o2939_a.keep Kc nin0
    have F_o2939_k := F_o2939_k.keep Kc nin0
    have A_bF := A_bF.keep Kc nin0
    have Kp := Kp.trans Kc all0
    refine rc (st' := [(.int (zF >>> (kF &&& 31))), .int i3]) rfl ?_
    refine rc (st' := [.int i3, .int i3]) (by rw [own_lenN hvS hvL (L := i3) (by decide)]) ?_
    refine s_icmp_ge 27 10 C X d5_7 (fun _ => ?_) (fun c => absurd c (by decide))
    refine s_aloadN 28 C X d5_27 rfl rfl ?_
    refine s_callV 31 [] [] 0 C X d5_28 (mW 34 rfl) (mW 35 rfl) (nF C (mW 37 rfl)) (mW 37 rfl) (mW 36 rfl) (mW 11 rfl) (mW 38 rfl) E_o2939 (rm_a20 l Z a0 hw cs o2939 bF kF k_bF zF zsF xs _ n0 X.sz S_cs E_o2939 F_o2939_a F_o2939_k Od A_bF hv_cs hvS) (lenOf pd___I rfl) rfl rfl rfl (fun T v hh X q => ?_)
    obtain ⟨rfl, Kc, Od⟩ := q
    have Rc := Rc.keep Kc so0
    have E_o2939 := E_o2939.keep Kc
    have F_o2939_a := F_o2939_a.keep Kc nin0
    have F_o2939_k := F_o2939_k.keep Kc nin0
    have A_bF := A_bF.keep Kc nin0
    have Kp := Kp.trans Kc all0
    refine rc (st' := [(.int (zF >>> (kF &&& 31)))]) rfl ?_
    refine rc (st' := [.int i3]) (by rw [own_lenN hvS hvL (L := i3) (by decide)]) ?_
    refine s_istoreN 32 C X (l' := #[rv o2939, iv i3, iv i3]) d5_31 rfl ?_
    refine s_iloadN 33 C X d5_32 rfl ?_
    refine s_iloadN 34 C X d5_33 rfl ?_
    refine s_icmp_le 56 37 C X d5_34 (fun _ => ?_) (fun c => absurd c (by decide))
    refine s_aloadN 57 C X d5_56 rfl rfl ?_
    refine s_iloadN 58 C X d5_57 rfl ?_
    refine s_iloadN 59 C X d5_58 rfl ?_
    obtain ⟨ev3165, e_ev3165⟩ : ∃ zz_ : Int32, zz_ = i3 := ⟨_, rfl⟩
    refine rc (st' := [.int ev3165, .int i3, .ref o2939]) (by subst e_ev3165; rfl) ?_
    obtain ⟨sv3166, e_sv3166⟩ : ∃ zz_ : Int32, zz_ = i3 := ⟨_, rfl⟩
    refine rc (st' := [.int ev3165, .int sv3166, .ref o2939]) (by subst e_sv3166; rfl) ?_
    have hvse : own_se xs sv3166 ev3165 := by rw [e_sv3166, e_ev3165]; exact ⟨by decide, by decide, by rw [hvL]; decide⟩
    refine s_hcallV 62 [.int sv3166, .int ev3165] [] 0 C X hS Rc.2 (own_EL hw) Rc.1.1 d5_59 (mW 45 rfl) (mW 46 rfl) (nF C (mW 48 rfl)) (mW 48 rfl) (mW 47 rfl) (mW 11 rfl) (mW 49 rfl) E_o2939 (rm_a50 l Z a0 hw cs fm o2939 bF kF k_bF zF zsF xs ev3165 sv3166 _ n0 X.sz S_cs S_fm S_ad S_hi S_lo E_o2939 F_o2939_a F_o2939_k A_bF Od hv_cs hv_fm hvS hvse) (lenOf pd__II_Ljava_lang_String_ rfl) rfl rfl rfl so0 (fun T v hh vm k1 C X hS Nk Rn q => ?_)
    obtain ⟨bFq, kFq, k_bFq, lFq, rFq, zFq, zsFq, rfl, hvle, hvR, Kc, Od, E_rFq, F_rFq_k, F_rFq_a, A_bFq⟩ := q
    have Rc := Rc.call Rn Nk
    have Kp := Kp.trans Kc all0
    refine rc (st' := [.ref rFq]) rfl ?_
    refine s_areturn C X d5_62 rfl rfl rfl ?_ (FGH hG hS Rc C (own_EL hw))
    obtain ⟨sFt, e_sFt⟩ : ∃ z : Int32, z = sv3166 := ⟨_, rfl⟩
    obtain ⟨eFt, e_eFt⟩ : ∃ z : Int32, z = ev3165 := ⟨_, rfl⟩
    have js : sFt.toInt = 3 := by rw [e_sFt, e_sv3166]; decide
    have je : eFt.toInt = 3 := by rw [e_eFt, e_ev3165]; decide
    have jn := hvL
    have hvS : own_S xs sFt eFt := by
     refine ⟨⟨by omega, by omega, by omega⟩, fun i hi => ?_, fun i hi hj => ?_, ?_⟩
     ·have : i = 0 ∨ i = 1 ∨ i = 2 := by omega
      rcases this with rfl | rfl | rfl
      ·exact b3091
      ·exact b3123
      ·exact b3155
     ·omega
     ·exact Or.inr ⟨by omega, by omega⟩
    have hvl : lFq.toInt = eFt.toInt - sFt.toInt := by rw [e_sFt, e_eFt]; exact hvle
    have hvR : own_T (sl xs sFt.toNatClampNeg lFq.toNatClampNeg) kFq zFq zsFq := by rw [e_sFt]; exact hvR
    exact hQ _ _ ⟨bFq, eFt, kFq, k_bFq, lFq, rFq, sFt, zFq, zsFq, rfl, hvS, hvl, hvR, Kp, Od, E_rFq, F_rFq_k, F_rFq_a, A_bFq⟩
   ·rw [hE] at X
    refine rc (st' := [.int i0]) rfl ?_
    refine s_if_eq 27 21 C X d5_18 (fun _ => ?_) (fun c => absurd (by decide : i0 = i0) c)
    refine s_aloadN 28 C X d5_27 rfl rfl ?_
    refine s_callV 31 [] [] 0 C X d5_28 (mW 34 rfl) (mW 35 rfl) (nF C (mW 37 rfl)) (mW 37 rfl) (mW 36 rfl) (mW 11 rfl) (mW 38 rfl) E_o2939 (rm_a20 l Z a0 hw cs o2939 bF kF k_bF zF zsF xs _ n0 X.sz S_cs E_o2939 F_o2939_a F_o2939_k Od A_bF hv_cs hvS) (lenOf pd___I rfl) rfl rfl rfl (fun T v hh X q => ?_)
    obtain ⟨rfl, Kc, Od⟩ := q
    have Rc := Rc.keep Kc so0
    have E_o2939 := E_o2939.keep Kc
    have F_o2939_a := F_o2939_a.keep Kc nin0
    have F_o2939_k := F_o2939_k.keep Kc nin0
    have A_bF := A_bF.keep Kc nin0
    have Kp := Kp.trans Kc all0
    refine rc (st' := [(.int (zF >>> (kF &&& 31)))]) rfl ?_
    refine rc (st' := [.int i3]) (by rw [own_lenN hvS hvL (L := i3) (by decide)]) ?_
    refine s_istoreN 32 C X (l' := #[rv o2939, iv i2, iv i3]) d5_31 rfl ?_
    refine s_iloadN 33 C X d5_32 rfl ?_
    refine s_iloadN 34 C X d5_33 rfl ?_
    refine s_icmp_le 56 37 C X d5_34 (fun c => absurd (by decide : i2 < i3) c) (fun _ => ?_)
    refine s_aloadN 38 C X d5_37 rfl rfl ?_
    refine s_iloadN 39 C X d5_38 rfl ?_
    refine s_iconst 40 C X d5_39 kc_iconst_1 ?_
    refine s_isub 41 C X d5_40 ?_
    refine rc (st' := [.int i2, .ref o2939]) (by rw [kf_12]) ?_
    obtain ⟨ix3380, e_ix3380⟩ : ∃ zz_ : Int32, zz_ = i2 := ⟨_, rfl⟩
    refine rc (st' := [.int ix3380, .ref o2939]) (by subst e_ix3380; rfl) ?_
    have hvx_ix3380 : own_ix xs ix3380 := by rw [e_ix3380]; exact ⟨by decide, by rw [hvL]; decide⟩
    refine s_callV 44 [.int ix3380] [] 0 C X d5_41 (mW 73 rfl) (mW 74 rfl) (nF C (mW 76 rfl)) (mW 76 rfl) (mW 75 rfl) (mW 11 rfl) (mW 77 rfl) E_o2939 (rm_a31 l Z a0 hw cs fm o2939 bF kF k_bF zF zsF xs ix3380 _ n0 X.sz S_cs S_fm S_ad S_hi S_lo E_o2939 F_o2939_a F_o2939_k A_bF Od hv_cs hv_fm hvS hvx_ix3380) (lenOf pd__I_C rfl) rfl rfl rfl (fun T v hh X q => ?_)
    obtain ⟨rfl, Kc, Od⟩ := q
    have Rc := Rc.keep Kc so0
    have E_o2939 := E_o2939.keep Kc
    have F_o2939_a := F_o2939_a.keep Kc nin0
    have F_o2939_k := F_o2939_k.keep Kc nin0
    have A_bF := A_bF.keep Kc nin0
    have Kp := Kp.trans Kc all0
    refine rc (st' := [(.int (xs.getD (ix3380).toNatClampNeg 0))]) rfl ?_
    refine rc (st' := [(.int (xs.getD 2 0))]) (by rw [show (xs.getD (ix3380).toNatClampNeg 0) = (xs.getD 2 0) from by rw [e_ix3380]; rfl]) ?_
    refine s_callS 47 [(.int (xs.getD 2 0))] [] 0 C X d5_44 (mW 93 rfl) (mW 94 rfl) (mW 32 rfl) (mW 95 rfl) (rm_isBlank l Z a0 hw ((xs.getD 2 0)) _ n0 X.sz) (lenOf pd__C_Z rfl) rfl rfl rfl (fun T v h14 X q => ?_)
    obtain ⟨⟨rfl, b3406⟩ | ⟨rfl, b3406⟩, hE⟩ := q
    ·rw [hE] at X
     exact absurd b3406 b3155
    ·rw [hE] at X
     refine rc (st' := [.int i0]) rfl ?_
     refine s_if_eq 56 50 C X d5_47 (fun _ => ?_) (fun c => absurd (by decide : i0 = i0) c)
     refine s_aloadN 57 C X d5_56 rfl rfl ?_
     refine s_iloadN 58 C X d5_57 rfl ?_
     refine s_iloadN 59 C X d5_58 rfl ?_
     obtain ⟨ev3408, e_ev3408⟩ : ∃ zz_ : Int32, zz_ = i3 := ⟨_, rfl⟩
     refine rc (st' := [.int ev3408, .int i2, .ref o2939]) (by subst e_ev3408; rfl) ?_
     obtain ⟨sv3409, e_sv3409⟩ : ∃ zz_ : Int32, zz_ = i2 := ⟨_, rfl⟩
     refine rc (st' := [.int ev3408, .int sv3409, .ref o2939]) (by subst e_sv3409; rfl) ?_
     have hvse : own_se xs sv3409 ev3408 := by rw [e_sv3409, e_ev3408]; exact ⟨by decide, by decide, by rw [hvL]; decide⟩
     refine s_hcallV 62 [.int sv3409, .int ev3408] [] 0 C X hS Rc.2 (own_EL hw) Rc.1.1 d5_59 (mW 45 rfl) (mW 46 rfl) (nF C (mW 48 rfl)) (mW 48 rfl) (mW 47 rfl) (mW 11 rfl) (mW 49 rfl) E_o2939 (rm_a50 l Z a0 hw cs fm o2939 bF kF k_bF zF zsF xs ev3408 sv3409 _ n0 X.sz S_cs S_fm S_ad S_hi S_lo E_o2939 F_o2939_a F_o2939_k A_bF Od hv_cs hv_fm hvS hvse) (lenOf pd__II_Ljava_lang_String_ rfl) rfl rfl rfl so0 (fun T v hh vm k1 C X hS Nk Rn q => ?_)
     obtain ⟨bFq, kFq, k_bFq, lFq, rFq, zFq, zsFq, rfl, hvle, hvR, Kc, Od, E_rFq, F_rFq_k, F_rFq_a, A_bFq⟩ := q
     have Rc := Rc.call Rn Nk
     have Kp := Kp.trans Kc all0
     refine rc (st' := [.ref rFq]) rfl ?_
     refine s_areturn C X d5_62 rfl rfl rfl ?_ (FGH hG hS Rc C (own_EL hw))
     obtain ⟨sFt, e_sFt⟩ : ∃ z : Int32, z = sv3409 := ⟨_, rfl⟩
     obtain ⟨eFt, e_eFt⟩ : ∃ z : Int32, z = ev3408 := ⟨_, rfl⟩
     have js : sFt.toInt = 2 := by rw [e_sFt, e_sv3409]; decide
     have je : eFt.toInt = 3 := by rw [e_eFt, e_ev3408]; decide
     have jn := hvL
     have hvS : own_S xs sFt eFt := by
      refine ⟨⟨by omega, by omega, by omega⟩, fun i hi => ?_, fun i hi hj => ?_, ?_⟩
      ·have : i = 0 ∨ i = 1 := by omega
       rcases this with rfl | rfl
       ·exact b3091
       ·exact b3123
      ·omega
      ·have k1 : sFt.toNatClampNeg = 2 := own_tn (k := 2) js
       rw [k1, je]
       exact Or.inl ⟨by omega, by omega, b3155, b3155⟩
     have hvl : lFq.toInt = eFt.toInt - sFt.toInt := by rw [e_sFt, e_eFt]; exact hvle
     have hvR : own_T (sl xs sFt.toNatClampNeg lFq.toNatClampNeg) kFq zFq zsFq := by rw [e_sFt]; exact hvR
     exact hQ _ _ ⟨bFq, eFt, kFq, k_bFq, lFq, rFq, sFt, zFq, zsFq, rfl, hvS, hvl, hvR, Kp, Od, E_rFq, F_rFq_k, F_rFq_a, A_bFq⟩
  ·rw [hE] at X
   refine rc (st' := [.int i0]) rfl ?_
   refine s_if_eq 27 21 C X d5_18 (fun _ => ?_) (fun c => absurd (by decide : i0 = i0) c)
   refine s_aloadN 28 C X d5_27 rfl rfl ?_
   refine s_callV 31 [] [] 0 C X d5_28 (mW 34 rfl) (mW 35 rfl) (nF C (mW 37 rfl)) (mW 37 rfl) (mW 36 rfl) (mW 11 rfl) (mW 38 rfl) E_o2939 (rm_a20 l Z a0 hw cs o2939 bF kF k_bF zF zsF xs _ n0 X.sz S_cs E_o2939 F_o2939_a F_o2939_k Od A_bF hv_cs hvS) (lenOf pd___I rfl) rfl rfl rfl (fun T v hh X q => ?_)
   obtain ⟨rfl, Kc, Od⟩ := q
   have Rc := Rc.keep Kc so0
   have E_o2939 := E_o2939.keep Kc
   have F_o2939_a := F_o2939_a.keep Kc nin0
   have F_o2939_k := F_o2939_k.keep Kc nin0
   have A_bF := A_bF.keep Kc nin0
   have Kp := Kp.trans Kc all0
   refine rc (st' := [(.int (zF >>> (kF &&& 31)))]) rfl ?_
   refine rc (st' := [.int i3]) (by rw [own_lenN hvS hvL (L := i3) (by decide)]) ?_
   refine s_istoreN 32 C X (l' := #[rv o2939, iv i1, iv i3]) d5_31 rfl ?_
   refine s_iloadN 33 C X d5_32 rfl ?_
   refine s_iloadN 34 C X d5_33 rfl ?_
   refine s_icmp_le 56 37 C X d5_34 (fun c => absurd (by decide : i1 < i3) c) (fun _ => ?_)
   refine s_aloadN 38 C X d5_37 rfl rfl ?_
   refine s_iloadN 39 C X d5_38 rfl ?_
   refine s_iconst 40 C X d5_39 kc_iconst_1 ?_
   refine s_isub 41 C X d5_40 ?_
   refine rc (st' := [.int i2, .ref o2939]) (by rw [kf_12]) ?_
   obtain ⟨ix3623, e_ix3623⟩ : ∃ zz_ : Int32, zz_ = i2 := ⟨_, rfl⟩
   refine rc (st' := [.int ix3623, .ref o2939]) (by subst e_ix3623; rfl) ?_
   have hvx_ix3623 : own_ix xs ix3623 := by rw [e_ix3623]; exact ⟨by decide, by rw [hvL]; decide⟩
   refine s_callV 44 [.int ix3623] [] 0 C X d5_41 (mW 73 rfl) (mW 74 rfl) (nF C (mW 76 rfl)) (mW 76 rfl) (mW 75 rfl) (mW 11 rfl) (mW 77 rfl) E_o2939 (rm_a31 l Z a0 hw cs fm o2939 bF kF k_bF zF zsF xs ix3623 _ n0 X.sz S_cs S_fm S_ad S_hi S_lo E_o2939 F_o2939_a F_o2939_k A_bF Od hv_cs hv_fm hvS hvx_ix3623) (lenOf pd__I_C rfl) rfl rfl rfl (fun T v hh X q => ?_)
   obtain ⟨rfl, Kc, Od⟩ := q
   have Rc := Rc.keep Kc so0
   have E_o2939 := E_o2939.keep Kc
   have F_o2939_a := F_o2939_a.keep Kc nin0
   have F_o2939_k := F_o2939_k.keep Kc nin0
   have A_bF := A_bF.keep Kc nin0
   have Kp := Kp.trans Kc all0
   refine rc (st' := [(.int (xs.getD (ix3623).toNatClampNeg 0))]) rfl ?_
   refine rc (st' := [(.int (xs.getD 2 0))]) (by rw [show (xs.getD (ix3623).toNatClampNeg 0) = (xs.getD 2 0) from by rw [e_ix3623]; rfl]) ?_
   refine s_callS 47 [(.int (xs.getD 2 0))] [] 0 C X d5_44 (mW 93 rfl) (mW 94 rfl) (mW 32 rfl) (mW 95 rfl) (rm_isBlank l Z a0 hw ((xs.getD 2 0)) _ n0 X.sz) (lenOf pd__C_Z rfl) rfl rfl rfl (fun T v h18 X q => ?_)
   obtain ⟨⟨rfl, b3649⟩ | ⟨rfl, b3649⟩, hE⟩ := q
   ·rw [hE] at X
    refine rc (st' := [.int i1]) rfl ?_
    refine s_if_eq 56 50 C X d5_47 (fun c => absurd c (by decide)) (fun _ => ?_)
    refine s_iinc 53 C X (l' := #[rv o2939, iv i1, iv i2]) d5_50 kc_iconst_m1 rfl rfl ?_
    refine s_goto 32 C X d5_53 ?_
    refine s_iloadN 33 C X d5_32 rfl ?_
    refine s_iloadN 34 C X d5_33 rfl ?_
    refine s_icmp_le 56 37 C X d5_34 (fun c => absurd (by decide : i1 < i2) c) (fun _ => ?_)
    refine s_aloadN 38 C X d5_37 rfl rfl ?_
    refine s_iloadN 39 C X d5_38 rfl ?_
    refine s_iconst 40 C X d5_39 kc_iconst_1 ?_
    refine s_isub 41 C X d5_40 ?_
    refine rc (st' := [.int i1, .ref o2939]) (by rw [kf_13]) ?_
    obtain ⟨ix3652, e_ix3652⟩ : ∃ zz_ : Int32, zz_ = i1 := ⟨_, rfl⟩
    refine rc (st' := [.int ix3652, .ref o2939]) (by subst e_ix3652; rfl) ?_
    have hvx_ix3652 : own_ix xs ix3652 := by rw [e_ix3652]; exact ⟨by decide, by rw [hvL]; decide⟩
    refine s_callV 44 [.int ix3652] [] 0 C X d5_41 (mW 73 rfl) (mW 74 rfl) (nF C (mW 76 rfl)) (mW 76 rfl) (mW 75 rfl) (mW 11 rfl) (mW 77 rfl) E_o2939 (rm_a31 l Z a0 hw cs fm o2939 bF kF k_bF zF zsF xs ix3652 _ n0 X.sz S_cs S_fm S_ad S_hi S_lo E_o2939 F_o2939_a F_o2939_k A_bF Od hv_cs hv_fm hvS hvx_ix3652) (lenOf pd__I_C rfl) rfl rfl rfl (fun T v hh X q => ?_)
    obtain ⟨rfl, Kc, Od⟩ := q
    have Rc := Rc.keep Kc so0
    have E_o2939 := E_o2939.keep Kc
    have F_o2939_a := F_o2939_a.keep Kc nin0
    have F_o2939_k := F_o2939_k.keep Kc nin0
    have A_bF := A_bF.keep Kc nin0
    have Kp := Kp.trans Kc all0
    refine rc (st' := [(.int (xs.getD (ix3652).toNatClampNeg 0))]) rfl ?_
    refine rc (st' := [(.int (xs.getD 1 0))]) (by rw [show (xs.getD (ix3652).toNatClampNeg 0) = (xs.getD 1 0) from by rw [e_ix3652]; rfl]) ?_
    refine s_callS 47 [(.int (xs.getD 1 0))] [] 0 C X d5_44 (mW 93 rfl) (mW 94 rfl) (mW 32 rfl) (mW 95 rfl) (rm_isBlank l Z a0 hw ((xs.getD 1 0)) _ n0 X.sz) (lenOf pd__C_Z rfl) rfl rfl rfl (fun T v h20 X q => ?_)
    obtain ⟨⟨rfl, b3678⟩ | ⟨rfl, b3678⟩, hE⟩ := q
    ·rw [hE] at X
     exact absurd b3678 b3123
    ·rw [hE] at X
     refine rc (st' := [.int i0]) rfl ?_
     refine s_if_eq 56 50 C X d5_47 (fun _ => ?_) (fun c => absurd (by decide : i0 = i0) c)
     refine s_aloadN 57 C X d5_56 rfl rfl ?_
     refine s_iloadN 58 C X d5_57 rfl ?_
     refine s_iloadN 59 C X d5_58 rfl ?_
     obtain ⟨ev3680, e_ev3680⟩ : ∃ zz_ : Int32, zz_ = i2 := ⟨_, rfl⟩
     refine rc (st' := [.int ev3680, .int i1, .ref o2939]) (by subst e_ev3680; rfl) ?_
     obtain ⟨sv3681, e_sv3681⟩ : ∃ zz_ : Int32, zz_ = i1 := ⟨_, rfl⟩
     refine rc (st' := [.int ev3680, .int sv3681, .ref o2939]) (by subst e_sv3681; rfl) ?_
     have hvse : own_se xs sv3681 ev3680 := by rw [e_sv3681, e_ev3680]; exact ⟨by decide, by decide, by rw [hvL]; decide⟩
     refine s_hcallV 62 [.int sv3681, .int ev3680] [] 0 C X hS Rc.2 (own_EL hw) Rc.1.1 d5_59 (mW 45 rfl) (mW 46 rfl) (nF C (mW 48 rfl)) (mW 48 rfl) (mW 47 rfl) (mW 11 rfl) (mW 49 rfl) E_o2939 (rm_a50 l Z a0 hw cs fm o2939 bF kF k_bF zF zsF xs ev3680 sv3681 _ n0 X.sz S_cs S_fm S_ad S_hi S_lo E_o2939 F_o2939_a F_o2939_k A_bF Od hv_cs hv_fm hvS hvse) (lenOf pd__II_Ljava_lang_String_ rfl) rfl rfl rfl so0 (fun T v hh vm k1 C X hS Nk Rn q => ?_)
     obtain ⟨bFq, kFq, k_bFq, lFq, rFq, zFq, zsFq, rfl, hvle, hvR, Kc, Od, E_rFq, F_rFq_k, F_rFq_a, A_bFq⟩ := q
     have Rc := Rc.call Rn Nk
     have Kp := Kp.trans Kc all0
     refine rc (st' := [.ref rFq]) rfl ?_
     refine s_areturn C X d5_62 rfl rfl rfl ?_ (FGH hG hS Rc C (own_EL hw))
     obtain ⟨sFt, e_sFt⟩ : ∃ z : Int32, z = sv3681 := ⟨_, rfl⟩
     obtain ⟨eFt, e_eFt⟩ : ∃ z : Int32, z = ev3680 := ⟨_, rfl⟩
     have js : sFt.toInt = 1 := by rw [e_sFt, e_sv3681]; decide
     have je : eFt.toInt = 2 := by rw [e_eFt, e_ev3680]; decide
     have jn := hvL
     have hvS : own_S xs sFt eFt := by
      refine ⟨⟨by omega, by omega, by omega⟩, fun i hi => ?_, fun i hi hj => ?_, ?_⟩
      ·have : i = 0 := by omega
       rcases this with rfl
       ·exact b3091
      ·have : i = 2 := by omega
       rcases this with rfl
       ·exact b3649
      ·have k1 : sFt.toNatClampNeg = 1 := own_tn (k := 1) js
       rw [k1, je]
       exact Or.inl ⟨by omega, by omega, b3123, b3123⟩
     have hvl : lFq.toInt = eFt.toInt - sFt.toInt := by rw [e_sFt, e_eFt]; exact hvle
     have hvR : own_T (sl xs sFt.toNatClampNeg lFq.toNatClampNeg) kFq zFq zsFq := by rw [e_sFt]; exact hvR
     exact hQ _ _ ⟨bFq, eFt, kFq, k_bFq, lFq, rFq, sFt, zFq, zsFq, rfl, hvS, hvl, hvR, Kp, Od, E_rFq, F_rFq_k, F_rFq_a, A_bFq⟩
   ·rw [hE] at X
    refine rc (st' := [.int i0]) rfl ?_
    refine s_if_eq 56 50 C X d5_47 (fun _ => ?_) (fun c => absurd (by decide : i0 = i0) c)
    refine s_aloadN 57 C X d5_56 rfl rfl ?_
    refine s_iloadN 58 C X d5_57 rfl ?_
    refine s_iloadN 59 C X d5_58 rfl ?_
    obtain ⟨ev3891, e_ev3891⟩ : ∃ zz_ : Int32, zz_ = i3 := ⟨_, rfl⟩
    refine rc (st' := [.int ev3891, .int i1, .ref o2939]) (by subst e_ev3891; rfl) ?_
    obtain ⟨sv3892, e_sv3892⟩ : ∃ zz_ : Int32, zz_ = i1 := ⟨_, rfl⟩
    refine rc (st' := [.int ev3891, .int sv3892, .ref o2939]) (by subst e_sv3892; rfl) ?_
    have hvse : own_se xs sv3892 ev3891 := by rw [e_sv3892, e_ev3891]; exact ⟨by decide, by decide, by rw [hvL]; decide⟩
    refine s_hcallV 62 [.int sv3892, .int ev3891] [] 0 C X hS Rc.2 (own_EL hw) Rc.1.1 d5_59 (mW 45 rfl) (mW 46 rfl) (nF C (mW 48 rfl)) (mW 48 rfl) (mW 47 rfl) (mW 11 rfl) (mW 49 rfl) E_o2939 (rm_a50 l Z a0 hw cs fm o2939 bF kF k_bF zF zsF xs ev3891 sv3892 _ n0 X.sz S_cs S_fm S_ad S_hi S_lo E_o2939 F_o2939_a F_o2939_k A_bF Od hv_cs hv_fm hvS hvse) (lenOf pd__II_Ljava_lang_String_ rfl) rfl rfl rfl so0 (fun T v hh vm k1 C X hS Nk Rn q => ?_)
    obtain ⟨bFq, kFq, k_bFq, lFq, rFq, zFq, zsFq, rfl, hvle, hvR, Kc, Od, E_rFq, F_rFq_k, F_rFq_a, A_bFq⟩ := q
    have Rc := Rc.call Rn Nk
    have Kp := Kp.trans Kc all0
    refine rc (st' := [.ref rFq]) rfl ?_
    refine s_areturn C X d5_62 rfl rfl rfl ?_ (FGH hG hS Rc C (own_EL hw))
    obtain ⟨sFt, e_sFt⟩ : ∃ z : Int32, z = sv3892 := ⟨_, rfl⟩
    obtain ⟨eFt, e_eFt⟩ : ∃ z : Int32, z = ev3891 := ⟨_, rfl⟩
    have js : sFt.toInt = 1 := by rw [e_sFt, e_sv3892]; decide
    have je : eFt.toInt = 3 := by rw [e_eFt, e_ev3891]; decide
    have jn := hvL
    have hvS : own_S xs sFt eFt := by
     refine ⟨⟨by omega, by omega, by omega⟩, fun i hi => ?_, fun i hi hj => ?_, ?_⟩
     ·have : i = 0 := by omega
      rcases this with rfl
      ·exact b3091
     ·omega
     ·have k1 : sFt.toNatClampNeg = 1 := own_tn (k := 1) js
      rw [k1, je]
      exact Or.inl ⟨by omega, by omega, b3123, b3649⟩
    have hvl : lFq.toInt = eFt.toInt - sFt.toInt := by rw [e_sFt, e_eFt]; exact hvle
    have hvR : own_T (sl xs sFt.toNatClampNeg lFq.toNatClampNeg) kFq zFq zsFq := by rw [e_sFt]; exact hvR
    exact hQ _ _ ⟨bFq, eFt, kFq, k_bFq, lFq, rFq, sFt, zFq, zsFq, rfl, hvS, hvl, hvR, Kp, Od, E_rFq, F_rFq_k, F_rFq_a, A_bFq⟩
 ·rw [hE] at X
  refine rc (st' := [.int i0]) rfl ?_
  refine s_if_eq 27 21 C X d5_18 (fun _ => ?_) (fun c => absurd (by decide : i0 = i0) c)
  refine s_aloadN 28 C X d5_27 rfl rfl ?_
  refine s_callV 31 [] [] 0 C X d5_28 (mW 34 rfl) (mW 35 rfl) (nF C (mW 37 rfl)) (mW 37 rfl) (mW 36 rfl) (mW 11 rfl) (mW 38 rfl) E_o2939 (rm_a20 l Z a0 hw cs o2939 bF kF k_bF zF zsF xs _ n0 X.sz S_cs E_o2939 F_o2939_a F_o2939_k Od A_bF hv_cs hvS) (lenOf pd___I rfl) rfl rfl rfl (fun T v hh X q => ?_)
  obtain ⟨rfl, Kc, Od⟩ := q
  have Rc := Rc.keep Kc so0
  have E_o2939 := E_o2939.keep Kc
  have F_o2939_a := F_o2939_a.keep Kc nin0
  have F_o2939_k := F_o2939_k.keep Kc nin0
  have A_bF := A_bF.keep Kc nin0
  have Kp := Kp.trans Kc all0
  refine rc (st' := [(.int (zF >>> (kF &&& 31)))]) rfl ?_
  refine rc (st' := [.int i3]) (by rw [own_lenN hvS hvL (L := i3) (by decide)]) ?_
  refine s_istoreN 32 C X (l' := #[rv o2939, iv i0, iv i3]) d5_31 rfl ?_
  refine s_iloadN 33 C X d5_32 rfl ?_
  refine s_iloadN 34 C X d5_33 rfl ?_
  refine s_icmp_le 56 37 C X d5_34 (fun c => absurd (by decide : i0 < i3) c) (fun _ => ?_)
  refine s_aloadN 38 C X d5_37 rfl rfl ?_
  refine s_iloadN 39 C X d5_38 rfl ?_
  refine s_iconst 40 C X d5_39 kc_iconst_1 ?_
  refine s_isub 41 C X d5_40 ?_
  refine rc (st' := [.int i2, .ref o2939]) (by rw [kf_12]) ?_
  obtain ⟨ix4106, e_ix4106⟩ : ∃ zz_ : Int32, zz_ = i2 := ⟨_, rfl⟩
  refine rc (st' := [.int ix4106, .ref o2939]) (by subst e_ix4106; rfl) ?_
  have hvx_ix4106 : own_ix xs ix4106 := by rw [e_ix4106]; exact ⟨by decide, by rw [hvL]; decide⟩
  refine s_callV 44 [.int ix4106] [] 0 C X d5_41 (mW 73 rfl) (mW 74 rfl) (nF C (mW 76 rfl)) (mW 76 rfl) (mW 75 rfl) (mW 11 rfl) (mW 77 rfl) E_o2939 (rm_a31 l Z a0 hw cs fm o2939 bF kF k_bF zF zsF xs ix4106 _ n0 X.sz S_cs S_fm S_ad S_hi S_lo E_o2939 F_o2939_a F_o2939_k A_bF Od hv_cs hv_fm hvS hvx_ix4106) (lenOf pd__I_C rfl) rfl rfl rfl (fun T v hh X q => ?_)
  obtain ⟨rfl, Kc, Od⟩ := q
  have Rc := Rc.keep Kc so0
  have E_o2939 := E_o2939.keep Kc
  have F_o2939_a := F_o2939_a.keep Kc nin0
  have F_o2939_k := F_o2939_k.keep Kc nin0
  have A_bF := A_bF.keep Kc nin0
  have Kp := Kp.trans Kc all0
  refine rc (st' := [(.int (xs.getD (ix4106).toNatClampNeg 0))]) rfl ?_
  refine rc (st' := [(.int (xs.getD 2 0))]) (by rw [show (xs.getD (ix4106).toNatClampNeg 0) = (xs.getD 2 0) from by rw [e_ix4106]; rfl]) ?_
  refine s_callS 47 [(.int (xs.getD 2 0))] [] 0 C X d5_44 (mW 93 rfl) (mW 94 rfl) (mW 32 rfl) (mW 95 rfl) (rm_isBlank l Z a0 hw ((xs.getD 2 0)) _ n0 X.sz) (lenOf pd__C_Z rfl) rfl rfl rfl (fun T v h25 X q => ?_)
  obtain ⟨⟨rfl, b4132⟩ | ⟨rfl, b4132⟩, hE⟩ := q
  ·rw [hE] at X
   refine rc (st' := [.int i1]) rfl ?_
   refine s_if_eq 56 50 C X d5_47 (fun c => absurd c (by decide)) (fun _ => ?_)
   refine s_iinc 53 C X (l' := #[rv o2939, iv i0, iv i2]) d5_50 kc_iconst_m1 rfl rfl ?_
   refine s_goto 32 C X d5_53 ?_
   refine s_iloadN 33 C X d5_32 rfl ?_
   refine s_iloadN 34 C X d5_33 rfl ?_
   refine s_icmp_le 56 37 C X d5_34 (fun c => absurd (by decide : i0 < i2) c) (fun _ => ?_)
   refine s_aloadN 38 C X d5_37 rfl rfl ?_
   refine s_iloadN 39 C X d5_38 rfl ?_
   refine s_iconst 40 C X d5_39 kc_iconst_1 ?_
   refine s_isub 41 C X d5_40 ?_
   refine rc (st' := [.int i1, .ref o2939]) (by rw [kf_13]) ?_
   obtain ⟨ix4135, e_ix4135⟩ : ∃ zz_ : Int32, zz_ = i1 := ⟨_, rfl⟩
   refine rc (st' := [.int ix4135, .ref o2939]) (by subst e_ix4135; rfl) ?_
   have hvx_ix4135 : own_ix xs ix4135 := by rw [e_ix4135]; exact ⟨by decide, by rw [hvL]; decide⟩
   refine s_callV 44 [.int ix4135] [] 0 C X d5_41 (mW 73 rfl) (mW 74 rfl) (nF C (mW 76 rfl)) (mW 76 rfl) (mW 75 rfl) (mW 11 rfl) (mW 77 rfl) E_o2939 (rm_a31 l Z a0 hw cs fm o2939 bF kF k_bF zF zsF xs ix4135 _ n0 X.sz S_cs S_fm S_ad S_hi S_lo E_o2939 F_o2939_a F_o2939_k A_bF Od hv_cs hv_fm hvS hvx_ix4135) (lenOf pd__I_C rfl) rfl rfl rfl (fun T v hh X q => ?_)
   obtain ⟨rfl, Kc, Od⟩ := q
   have Rc := Rc.keep Kc so0
   have E_o2939 := E_o2939.keep Kc
   have F_o2939_a := F_o2939_a.keep Kc nin0
   have F_o2939_k := F_o2939_k.keep Kc nin0
   have A_bF := A_bF.keep Kc nin0
   have Kp := Kp.trans Kc all0
   refine rc (st' := [(.int (xs.getD (ix4135).toNatClampNeg 0))]) rfl ?_
   refine rc (st' := [(.int (xs.getD 1 0))]) (by rw [show (xs.getD (ix4135).toNatClampNeg 0) = (xs.getD 1 0) from by rw [e_ix4135]; rfl]) ?_
   refine s_callS 47 [(.int (xs.getD 1 0))] [] 0 C X d5_44 (mW 93 rfl) (mW 94 rfl) (mW 32 rfl) (mW 95 rfl) (rm_isBlank l Z a0 hw ((xs.getD 1 0)) _ n0 X.sz) (lenOf pd__C_Z rfl) rfl rfl rfl (fun T v h27 X q => ?_)
   obtain ⟨⟨rfl, b4161⟩ | ⟨rfl, b4161⟩, hE⟩ := q
   ·rw [hE] at X
    refine rc (st' := [.int i1]) rfl ?_
    refine s_if_eq 56 50 C X d5_47 (fun c => absurd c (by decide)) (fun _ => ?_)
    refine s_iinc 53 C X (l' := #[rv o2939, iv i0, iv i1]) d5_50 kc_iconst_m1 rfl rfl ?_
    refine s_goto 32 C X d5_53 ?_
    refine s_iloadN 33 C X d5_32 rfl ?_
    refine s_iloadN 34 C X d5_33 rfl ?_
    refine s_icmp_le 56 37 C X d5_34 (fun c => absurd (by decide : i0 < i1) c) (fun _ => ?_)
    refine s_aloadN 38 C X d5_37 rfl rfl ?_
    refine s_iloadN 39 C X d5_38 rfl ?_
    refine s_iconst 40 C X d5_39 kc_iconst_1 ?_
    refine s_isub 41 C X d5_40 ?_
    refine rc (st' := [.int i0, .ref o2939]) (by rw [kf_14]) ?_
    obtain ⟨ix4164, e_ix4164⟩ : ∃ zz_ : Int32, zz_ = i0 := ⟨_, rfl⟩
    refine rc (st' := [.int ix4164, .ref o2939]) (by subst e_ix4164; rfl) ?_
    have hvx_ix4164 : own_ix xs ix4164 := by rw [e_ix4164]; exact ⟨by decide, by rw [hvL]; decide⟩
    refine s_callV 44 [.int ix4164] [] 0 C X d5_41 (mW 73 rfl) (mW 74 rfl) (nF C (mW 76 rfl)) (mW 76 rfl) (mW 75 rfl) (mW 11 rfl) (mW 77 rfl) E_o2939 (rm_a31 l Z a0 hw cs fm o2939 bF kF k_bF zF zsF xs ix4164 _ n0 X.sz S_cs S_fm S_ad S_hi S_lo E_o2939 F_o2939_a F_o2939_k A_bF Od hv_cs hv_fm hvS hvx_ix4164) (lenOf pd__I_C rfl) rfl rfl rfl (fun T v hh X q => ?_)
    obtain ⟨rfl, Kc, Od⟩ := q
    have Rc := Rc.keep Kc so0
    have E_o2939 := E_o2939.keep Kc
    have F_o2939_a := F_o2939_a.keep Kc nin0
    have F_o2939_k := F_o2939_k.keep Kc nin0
    have A_bF := A_bF.keep Kc nin0
    have Kp := Kp.trans Kc all0
    refine rc (st' := [(.int (xs.getD (ix4164).toNatClampNeg 0))]) rfl ?_
    refine rc (st' := [(.int (xs.getD 0 0))]) (by rw [show (xs.getD (ix4164).toNatClampNeg 0) = (xs.getD 0 0) from by rw [e_ix4164]; rfl]) ?_
    refine s_callS 47 [(.int (xs.getD 0 0))] [] 0 C X d5_44 (mW 93 rfl) (mW 94 rfl) (mW 32 rfl) (mW 95 rfl) (rm_isBlank l Z a0 hw ((xs.getD 0 0)) _ n0 X.sz) (lenOf pd__C_Z rfl) rfl rfl rfl (fun T v h29 X q => ?_)
    obtain ⟨⟨rfl, b4190⟩ | ⟨rfl, b4190⟩, hE⟩ := q
    ·rw [hE] at X
     exact absurd b4190 b3091
    ·rw [hE] at X
     refine rc (st' := [.int i0]) rfl ?_
     refine s_if_eq 56 50 C X d5_47 (fun _ => ?_) (fun c => absurd (by decide : i0 = i0) c)
     refine s_aloadN 57 C X d5_56 rfl rfl ?_
     refine s_iloadN 58 C X d5_57 rfl ?_
     refine s_iloadN 59 C X d5_58 rfl ?_
     obtain ⟨ev4192, e_ev4192⟩ : ∃ zz_ : Int32, zz_ = i1 := ⟨_, rfl⟩
     refine rc (st' := [.int ev4192, .int i0, .ref o2939]) (by subst e_ev4192; rfl) ?_
     obtain ⟨sv4193, e_sv4193⟩ : ∃ zz_ : Int32, zz_ = i0 := ⟨_, rfl⟩
     refine rc (st' := [.int ev4192, .int sv4193, .ref o2939]) (by subst e_sv4193; rfl) ?_
     have hvse : own_se xs sv4193 ev4192 := by rw [e_sv4193, e_ev4192]; exact ⟨by decide, by decide, by rw [hvL]; decide⟩
     refine s_hcallV 62 [.int sv4193, .int ev4192] [] 0 C X hS Rc.2 (own_EL hw) Rc.1.1 d5_59 (mW 45 rfl) (mW 46 rfl) (nF C (mW 48 rfl)) (mW 48 rfl) (mW 47 rfl) (mW 11 rfl) (mW 49 rfl) E_o2939 (rm_a50 l Z a0 hw cs fm o2939 bF kF k_bF zF zsF xs ev4192 sv4193 _ n0 X.sz S_cs S_fm S_ad S_hi S_lo E_o2939 F_o2939_a F_o2939_k A_bF Od hv_cs hv_fm hvS hvse) (lenOf pd__II_Ljava_lang_String_ rfl) rfl rfl rfl so0 (fun T v hh vm k1 C X hS Nk Rn q => ?_)
     obtain ⟨bFq, kFq, k_bFq, lFq, rFq, zFq, zsFq, rfl, hvle, hvR, Kc, Od, E_rFq, F_rFq_k, F_rFq_a, A_bFq⟩ := q
     have Rc := Rc.call Rn Nk
     have Kp := Kp.trans Kc all0
     refine rc (st' := [.ref rFq]) rfl ?_
     refine s_areturn C X d5_62 rfl rfl rfl ?_ (FGH hG hS Rc C (own_EL hw))
     obtain ⟨sFt, e_sFt⟩ : ∃ z : Int32, z = sv4193 := ⟨_, rfl⟩
     obtain ⟨eFt, e_eFt⟩ : ∃ z : Int32, z = ev4192 := ⟨_, rfl⟩
     have js : sFt.toInt = 0 := by rw [e_sFt, e_sv4193]; decide
     have je : eFt.toInt = 1 := by rw [e_eFt, e_ev4192]; decide
     have jn := hvL
     have hvS : own_S xs sFt eFt := by
      refine ⟨⟨by omega, by omega, by omega⟩, fun i hi => ?_, fun i hi hj => ?_, ?_⟩
      ·omega
      ·have : i = 1 ∨ i = 2 := by omega
       rcases this with rfl | rfl
       ·exact b4161
       ·exact b4132
      ·have k1 : sFt.toNatClampNeg = 0 := own_tn (k := 0) js
       rw [k1, je]
       exact Or.inl ⟨by omega, by omega, b3091, b3091⟩
     have hvl : lFq.toInt = eFt.toInt - sFt.toInt := by rw [e_sFt, e_eFt]; exact hvle
     have hvR : own_T (sl xs sFt.toNatClampNeg lFq.toNatClampNeg) kFq zFq zsFq := by rw [e_sFt]; exact hvR
     exact hQ _ _ ⟨bFq, eFt, kFq, k_bFq, lFq, rFq, sFt, zFq, zsFq, rfl, hvS, hvl, hvR, Kp, Od, E_rFq, F_rFq_k, F_rFq_a, A_bFq⟩
   ·rw [hE] at X
    refine rc (st' := [.int i0]) rfl ?_
    refine s_if_eq 56 50 C X d5_47 (fun _ => ?_) (fun c => absurd (by decide : i0 = i0) c)
    refine s_aloadN 57 C X d5_56 rfl rfl ?_
    refine s_iloadN 58 C X d5_57 rfl ?_
    refine s_iloadN 59 C X d5_58 rfl ?_
    obtain ⟨ev4403, e_ev4403⟩ : ∃ zz_ : Int32, zz_ = i2 := ⟨_, rfl⟩
    refine rc (st' := [.int ev4403, .int i0, .ref o2939]) (by subst e_ev4403; rfl) ?_
    obtain ⟨sv4404, e_sv4404⟩ : ∃ zz_ : Int32, zz_ = i0 := ⟨_, rfl⟩
    refine rc (st' := [.int ev4403, .int sv4404, .ref o2939]) (by subst e_sv4404; rfl) ?_
    have hvse : own_se xs sv4404 ev4403 := by rw [e_sv4404, e_ev4403]; exact ⟨by decide, by decide, by rw [hvL]; decide⟩
    refine s_hcallV 62 [.int sv4404, .int ev4403] [] 0 C X hS Rc.2 (own_EL hw) Rc.1.1 d5_59 (mW 45 rfl) (mW 46 rfl) (nF C (mW 48 rfl)) (mW 48 rfl) (mW 47 rfl) (mW 11 rfl) (mW 49 rfl) E_o2939 (rm_a50 l Z a0 hw cs fm o2939 bF kF k_bF zF zsF xs ev4403 sv4404 _ n0 X.sz S_cs S_fm S_ad S_hi S_lo E_o2939 F_o2939_a F_o2939_k A_bF Od hv_cs hv_fm hvS hvse) (lenOf pd__II_Ljava_lang_String_ rfl) rfl rfl rfl so0 (fun T v hh vm k1 C X hS Nk Rn q => ?_)
    obtain ⟨bFq, kFq, k_bFq, lFq, rFq, zFq, zsFq, rfl, hvle, hvR, Kc, Od, E_rFq, F_rFq_k, F_rFq_a, A_bFq⟩ := q
    have Rc := Rc.call Rn Nk
    have Kp := Kp.trans Kc all0
    refine rc (st' := [.ref rFq]) rfl ?_
    refine s_areturn C X d5_62 rfl rfl rfl ?_ (FGH hG hS Rc C (own_EL hw))
    obtain ⟨sFt, e_sFt⟩ : ∃ z : Int32, z = sv4404 := ⟨_, rfl⟩
    obtain ⟨eFt, e_eFt⟩ : ∃ z : Int32, z = ev4403 := ⟨_, rfl⟩
    have js : sFt.toInt = 0 := by rw [e_sFt, e_sv4404]; decide
    have je : eFt.toInt = 2 := by rw [e_eFt, e_ev4403]; decide
    have jn := hvL
    have hvS : own_S xs sFt eFt := by
     refine ⟨⟨by omega, by omega, by omega⟩, fun i hi => ?_, fun i hi hj => ?_, ?_⟩
     ·omega
     ·have : i = 2 := by omega
      rcases this with rfl
      ·exact b4132
     ·have k1 : sFt.toNatClampNeg = 0 := own_tn (k := 0) js
      rw [k1, je]
      exact Or.inl ⟨by omega, by omega, b3091, b4161⟩
    have hvl : lFq.toInt = eFt.toInt - sFt.toInt := by rw [e_sFt, e_eFt]; exact hvle
    have hvR : own_T (sl xs sFt.toNatClampNeg lFq.toNatClampNeg) kFq zFq zsFq := by rw [e_sFt]; exact hvR
    exact hQ _ _ ⟨bFq, eFt, kFq, k_bFq, lFq, rFq, sFt, zFq, zsFq, rfl, hvS, hvl, hvR, Kp, Od, E_rFq, F_rFq_k, F_rFq_a, A_bFq⟩
  ·rw [hE] at X
   refine rc (st' := [.int i0]) rfl ?_
   refine s_if_eq 56 50 C X d5_47 (fun _ => ?_) (fun c => absurd (by decide : i0 = i0) c)
   refine s_aloadN 57 C X d5_56 rfl rfl ?_
   refine s_iloadN 58 C X d5_57 rfl ?_
   refine s_iloadN 59 C X d5_58 rfl ?_
   obtain ⟨ev4614, e_ev4614⟩ : ∃ zz_ : Int32, zz_ = i3 := ⟨_, rfl⟩
   refine rc (st' := [.int ev4614, .int i0, .ref o2939]) (by subst e_ev4614; rfl) ?_
   obtain ⟨sv4615, e_sv4615⟩ : ∃ zz_ : Int32, zz_ = i0 := ⟨_, rfl⟩
   refine rc (st' := [.int ev4614, .int sv4615, .ref o2939]) (by subst e_sv4615; rfl) ?_
   have hvse : own_se xs sv4615 ev4614 := by rw [e_sv4615, e_ev4614]; exact ⟨by decide, by decide, by rw [hvL]; decide⟩
   refine s_hcallV 62 [.int sv4615, .int ev4614] [] 0 C X hS Rc.2 (own_EL hw) Rc.1.1 d5_59 (mW 45 rfl) (mW 46 rfl) (nF C (mW 48 rfl)) (mW 48 rfl) (mW 47 rfl) (mW 11 rfl) (mW 49 rfl) E_o2939 (rm_a50 l Z a0 hw cs fm o2939 bF kF k_bF zF zsF xs ev4614 sv4615 _ n0 X.sz S_cs S_fm S_ad S_hi S_lo E_o2939 F_o2939_a F_o2939_k A_bF Od hv_cs hv_fm hvS hvse) (lenOf pd__II_Ljava_lang_String_ rfl) rfl rfl rfl so0 (fun T v hh vm k1 C X hS Nk Rn q => ?_)
   obtain ⟨bFq, kFq, k_bFq, lFq, rFq, zFq, zsFq, rfl, hvle, hvR, Kc, Od, E_rFq, F_rFq_k, F_rFq_a, A_bFq⟩ := q
   have Rc := Rc.call Rn Nk
   have Kp := Kp.trans Kc all0
   refine rc (st' := [.ref rFq]) rfl ?_
   refine s_areturn C X d5_62 rfl rfl rfl ?_ (FGH hG hS Rc C (own_EL hw))
   obtain ⟨sFt, e_sFt⟩ : ∃ z : Int32, z = sv4615 := ⟨_, rfl⟩
   obtain ⟨eFt, e_eFt⟩ : ∃ z : Int32, z = ev4614 := ⟨_, rfl⟩
   have js : sFt.toInt = 0 := by rw [e_sFt, e_sv4615]; decide
   have je : eFt.toInt = 3 := by rw [e_eFt, e_ev4614]; decide
   have jn := hvL
   have hvS : own_S xs sFt eFt := by
    refine ⟨⟨by omega, by omega, by omega⟩, fun i hi => ?_, fun i hi hj => ?_, ?_⟩
    ·omega
    ·omega
    ·have k1 : sFt.toNatClampNeg = 0 := own_tn (k := 0) js
     rw [k1, je]
     exact Or.inl ⟨by omega, by omega, b3091, b4132⟩
   have hvl : lFq.toInt = eFt.toInt - sFt.toInt := by rw [e_sFt, e_eFt]; exact hvle
   have hvR : own_T (sl xs sFt.toNatClampNeg lFq.toNatClampNeg) kFq zFq zsFq := by rw [e_sFt]; exact hvR
   exact hQ _ _ ⟨bFq, eFt, kFq, k_bFq, lFq, rFq, sFt, zFq, zsFq, rfl, hvS, hvl, hvR, Kp, Od, E_rFq, F_rFq_k, F_rFq_a, A_bFq⟩
theorem rm_a68 (hw : Hw a0 Z) (yF : Int32) (yF_8 : Int32) (o4826 : Addr) (k_o4826 : ClassId) (o4829 : Addr) (k_o4829 : ClassId) (h0 : Heap) (n0 : Nat) (Z0 : n0 ≤ h0.size) (A_o4826 : Arv Z h0 o4826 k_o4826 .char i2 [.int yF, .int yF_8] (.int i0)) (A_o4829 : Arv Z h0 o4829 k_o4829 .byte i2 [.int i0, .int i0] (.int i0)) (ne_o4826_o4829 : o4826 ≠ o4829) (g_o4829 : n0 ≤ o4829) :
  Met l Z (⟨cU, "compress", "([CI[BII)I"⟩ : MethodName) jdk_52_method_21_code 7 (some .int) (rM 0 0 0 0) [] #[.ref o4826, .int i0, .ref o4829, .int i0, .int i2] h0 n0 (fun v h => (v = some (.int i2) ∧ ¬ i255 < yF ∧ ¬ i255 < yF_8 ∧ Arv Z h o4829 k_o4829 .byte i2 [(.int (bv yF)), (.int (bv yF_8))] (.int i0) ∧ Keep h0 h [o4829]) ∨ (v = some (.int i1) ∧ ¬ i255 < yF ∧ i255 < yF_8 ∧ Arv Z h o4829 k_o4829 .byte i2 [(.int (bv yF)), .int i0] (.int i0) ∧ Keep h0 h [o4829]) ∨ (v = some (.int i0) ∧ i255 < yF ∧ Arv Z h o4829 k_o4829 .byte i2 [.int i0, .int i0] (.int i0) ∧ Keep h0 h [o4829])) := by
 refine Met.mkQ (tabs := tables_1) (a0 := a0) (ls0 := #[rv o4826, iv i0, rv o4829, iv i0, iv i2, un, un]) (plainFor_of_name pn_java_lang_StringUTF16) hw Z0 (fun m => by first | (simp [entryFrame, mkF, argsToLocals, Value.category]; done) | rfl) ?_
 intro p e s m below meth c T Q' G' hQ hG C X
 have Kp : Keep h0 h0 [o4829] := Keep.refl _ _
 refine s_iconst 1 C X d12_0 kc_iconst_0 ?_
 refine s_istore 3 C X (l' := #[rv o4826, iv i0, rv o4829, iv i0, iv i2, iv i0, un]) d12_1 rfl ?_
 refine s_iload 5 C X d12_3 rfl ?_
 refine s_iload 7 C X d12_5 rfl ?_
 refine s_icmp_ge 44 10 C X d12_7 (fun c => absurd (by decide : i0 < i2) c) (fun _ => ?_)
 refine s_aloadN 11 C X d12_10 rfl rfl ?_
 refine s_iloadN 12 C X d12_11 rfl ?_
 refine s_caload 13 C X d12_12 A_o4826 ⟨by decide, by decide⟩ (v := (.int yF)) rfl ?_
 refine s_istore 15 C X (l' := #[rv o4826, iv i0, rv o4829, iv i0, iv i2, iv i0, iv yF]) d12_13 rfl ?_
 refine s_iload 17 C X d12_15 rfl ?_
 refine s_sipush 20 C X d12_17 kc_sipush_255 ?_
 refine s_icmp_le 26 23 C X d12_20 (fun c20_4831 => ?_) (fun c20_4831 => ?_)
 ·have t_c20_4831 : ¬ ((255 : Int) < (yF).toInt) := fun q => c20_4831 (Int32.lt_iff_toInt_lt.mpr q)
  refine s_aloadN 27 C X d12_26 rfl rfl ?_
  refine s_iloadN 28 C X d12_27 rfl ?_
  refine s_iload 30 C X d12_28 rfl ?_
  refine s_i2b 31 C X d12_30 ?_
  refine s_bastore 32 0 C X d12_31 A_o4829 g_o4829 ⟨by decide, by decide⟩ rfl (Nat.le_of_ble_eq_true rfl) (fun T hh X W A_o4829 => ?_)
  have A_o4829 : Arv Z _ o4829 k_o4829 .byte i2 [(.int (nar .byte (yF).toInt8.toInt32)), .int i0] (.int i0) := A_o4829
  have A_o4826 := A_o4826.other W ne_o4826_o4829
  have Kp := Kp.wr W (Or.inl (by simp))
  have A_o4829 : Arv Z _ o4829 k_o4829 .byte i2 [(.int (bv yF)), .int i0] (.int i0) := A_o4829
  refine s_iinc 35 C X (l' := #[rv o4826, iv i1, rv o4829, iv i0, iv i2, iv i0, iv yF]) d12_32 kc_iconst_1 rfl rfl ?_
  refine s_iinc 38 C X (l' := #[rv o4826, iv i1, rv o4829, iv i1, iv i2, iv i0, iv yF]) d12_35 kc_iconst_1 rfl rfl ?_
  refine s_iinc 41 C X (l' := #[rv o4826, iv i1, rv o4829, iv i1, iv i2, iv i1, iv yF]) d12_38 kc_iconst_1 rfl rfl ?_
  refine s_goto 3 C X d12_41 ?_
  refine s_iload 5 C X d12_3 rfl ?_
  refine s_iload 7 C X d12_5 rfl ?_
  refine s_icmp_ge 44 10 C X d12_7 (fun c => absurd (by decide : i1 < i2) c) (fun _ => ?_)
  refine s_aloadN 11 C X d12_10 rfl rfl ?_
  refine s_iloadN 12 C X d12_11 rfl ?_
  refine s_caload 13 C X d12_12 A_o4826 ⟨by decide, by decide⟩ (v := (.int yF_8)) rfl ?_
  refine s_istore 15 C X (l' := #[rv o4826, iv i1, rv o4829, iv i1, iv i2, iv i1, iv yF_8]) d12_13 rfl ?_
  refine s_iload 17 C X d12_15 rfl ?_
  refine s_sipush 20 C X d12_17 kc_sipush_255 ?_
  refine s_icmp_le 26 23 C X d12_20 (fun c20_4833 => ?_) (fun c20_4833 => ?_)
  ·have t_c20_4833 : ¬ ((255 : Int) < (yF_8).toInt) := fun q => c20_4833 (Int32.lt_iff_toInt_lt.mpr q)
   refine s_aloadN 27 C X d12_26 rfl rfl ?_
   refine s_iloadN 28 C X d12_27 rfl ?_
   refine s_iload 30 C X d12_28 rfl ?_
   refine s_i2b 31 C X d12_30 ?_
   refine s_bastore 32 1 C X d12_31 A_o4829 g_o4829 ⟨by decide, by decide⟩ rfl (Nat.le_of_ble_eq_true rfl) (fun T hh X W A_o4829 => ?_)
   have A_o4829 : Arv Z _ o4829 k_o4829 .byte i2 [(.int (bv yF)), (.int (nar .byte (yF_8).toInt8.toInt32))] (.int i0) := A_o4829
   have Kp := Kp.wr W (Or.inl (by simp))
   have A_o4829 : Arv Z _ o4829 k_o4829 .byte i2 [(.int (bv yF)), (.int (bv yF_8))] (.int i0) := A_o4829
   refine s_iinc 35 C X (l' := #[rv o4826, iv i2, rv o4829, iv i1, iv i2, iv i1, iv yF_8]) d12_32 kc_iconst_1 rfl rfl ?_
   refine s_iinc 38 C X (l' := #[rv o4826, iv i2, rv o4829, iv i2, iv i2, iv i1, iv yF_8]) d12_35 kc_iconst_1 rfl rfl ?_
   refine s_iinc 41 C X (l' := #[rv o4826, iv i2, rv o4829, iv i2, iv i2, iv i2, iv yF_8]) d12_38 kc_iconst_1 rfl rfl ?_
   refine s_goto 3 C X d12_41 ?_
   refine s_iload 5 C X d12_3 rfl ?_
   refine s_iload 7 C X d12_5 rfl ?_
   refine s_icmp_ge 44 10 C X d12_7 (fun _ => ?_) (fun c => absurd c (by decide))
   refine s_iload 46 C X d12_44 rfl ?_
   refine s_ireturn C X d12_46 rfl ?_ (FG hG (by decide) (by decide))
   exact hQ _ _ (Or.inl ⟨rfl, c20_4831, c20_4833, A_o4829, Kp⟩)
  refine s_iload 25 C X d12_23 rfl ?_
  refine s_ireturn C X d12_25 rfl ?_ (FG hG (by decide) (by decide))
  exact hQ _ _ (Or.inr (Or.inl ⟨rfl, c20_4831, c20_4833, A_o4829, Kp⟩))
 refine s_iload 25 C X d12_23 rfl ?_
 refine s_ireturn C X d12_25 rfl ?_ (FG hG (by decide) (by decide))
 exact hQ _ _ (Or.inr (Or.inr ⟨rfl, c20_4831, A_o4829, Kp⟩))
theorem rm_a69 (hw : Hw a0 Z)  (h0 : Heap) (n0 : Nat) (Z0 : n0 ≤ h0.size)  :
  Met l Z (⟨cU, "newBytesLength", "(I)I"⟩ : MethodName) jdk_52_method_3_code 1 (some .int) (rM 0 0 0 0) [] #[.int i2] h0 n0 (fun v h => v = some (.int i4) ∧ Keep h0 h []) := by
 refine Met.mkQ (tabs := tables_1) (a0 := a0) (ls0 := #[iv i2]) (plainFor_of_name pn_java_lang_StringUTF16) hw Z0 (fun m => by first | (simp [entryFrame, mkF, argsToLocals, Value.category]; done) | rfl) ?_
 intro p e s m below meth c T Q' G' hQ hG C X
 have Kp : Keep h0 h0 [] := Keep.refl _ _
 refine s_iloadN 1 C X d29_0 rfl ?_
 refine s_if_ge 12 4 C X d29_1 (fun _ => ?_) (fun c => absurd c (by decide))
 refine s_iloadN 13 C X d29_12 rfl ?_
 refine s_ldcInt 15 C X d29_13 (mW 131 rfl) ?_
 refine s_icmp_lt 55 18 C X d29_15 (fun _ => ?_) (fun c => absurd (by decide : i2 < (1073741823 : Int32)) c)
 refine s_iloadN 56 C X d29_55 rfl ?_
 refine s_iconst 57 C X d29_56 kc_iconst_1 ?_
 refine s_ishl 58 C X d29_57 ?_
 refine rc (st' := [.int i4]) (by rw [kf_3]) ?_
 refine s_ireturn C X d29_58 rfl ?_ (FG hG (by decide) (by decide))
 exact hQ _ _ ⟨rfl, Kp⟩
theorem rm_a70 (hw : Hw a0 Z)  (h0 : Heap) (n0 : Nat) (Z0 : n0 ≤ h0.size)  :
  Met l Z (⟨cU, "newBytesFor", "(I)[B"⟩ : MethodName) jdk_52_method_2_code 1 (some (.array .byte)) (rM 1 1 4 12) [] #[.int i2] h0 n0 (fun v h => ∃ (k_o4841 : ClassId) (o4841 : Addr), v = some (.ref o4841) ∧ Keep h0 h [] ∧ Arv Z h o4841 k_o4841 .byte i4 [.int i0, .int i0, .int i0, .int i0] (.int i0) ∧ h0.size ≤ o4841 ∧ n0 ≤ o4841) := by
 refine Met.mkQ (tabs := tables_1) (a0 := a0) (ls0 := #[iv i2]) (plainFor_of_name pn_java_lang_StringUTF16) hw Z0 (fun m => by first | (simp [entryFrame, mkF, argsToLocals, Value.category]; done) | rfl) ?_
 intro p e s m below meth c T Q' G' hQ hG C X
 have Kp : Keep h0 h0 [] := Keep.refl _ _
 refine s_iloadN 1 C X d28_0 rfl ?_
 refine s_callS 4 [.int i2] [] 0 C X d28_1 (mW 128 rfl) (mW 129 rfl) (mW 62 rfl) (mW 130 rfl) (rm_a69 l Z a0 hw  _ n0 X.sz ) (lenOf pd__I_I rfl) rfl rfl rfl (fun T v hh X q => ?_)
 obtain ⟨rfl, Kc⟩ := q
 have Kp := Kp.trans Kc all0
 refine rc (st' := [.int i4]) rfl ?_
 refine s_newarray 6 4 C X d28_4 (mW 23 rfl) (by decide) (by decide) (fun T hh o4841 k_o4841 hb_o4841 X E A_o4841 g_o4841 => ?_)
 have sz_o4841 : h0.size ≤ o4841 := Nat.le_trans Kp.1 (Nat.le_of_eq hb_o4841)
 have Kp := Kp.ext E
 have A_o4841 : Arv Z _ o4841 k_o4841 .byte i4 [.int i0, .int i0, .int i0, .int i0] (.int i0) := A_o4841.pad (pad_rep [] _ 4)
 refine s_areturn C X d28_6 rfl rfl rfl ?_ (FG hG (by decide) (by decide))
 exact hQ _ _ ⟨k_o4841, o4841, rfl, Kp, A_o4841, sz_o4841, g_o4841⟩
theorem rm_a71 (hw : Hw a0 Z) (yF : Int32) (k_o4841 : ClassId) (o4841 : Addr) (h0 : Heap) (n0 : Nat) (Z0 : n0 ≤ h0.size) (Od : Old Z n0 h0) (S_ad : Sta Z Z.heap cU "$assertionsDisabled" "Z" (.int i1)) (S_hi : Sta Z Z.heap cU "HI_BYTE_SHIFT" "I" (.int i0)) (S_lo : Sta Z Z.heap cU "LO_BYTE_SHIFT" "I" (.int i8)) (A_o4841 : Arv Z h0 o4841 k_o4841 .byte i4 [.int i0, .int i0, .int i0, .int i0] (.int i0)) (g_o4841 : n0 ≤ o4841) :
  Met l Z (⟨cU, "putChar", "([BII)V"⟩ : MethodName) jdk_52_method_4_code 3 none (rM 0 0 0 0) [] #[.ref o4841, .int i0, .int yF] h0 n0 (fun v h => v = none ∧ Old Z n0 h ∧ Arv Z h o4841 k_o4841 .byte i4 [(.int (lo yF)), (.int (hi yF)), .int i0, .int i0] (.int i0) ∧ Keep h0 h [o4841]) := by
 refine Met.mkQ (tabs := tables_1) (a0 := a0) (ls0 := #[rv o4841, iv i0, iv yF]) (plainFor_of_name pn_java_lang_StringUTF16) hw Z0 (fun m => by first | (simp [entryFrame, mkF, argsToLocals, Value.category]; done) | rfl) ?_
 intro p e s m below meth c T Q' G' hQ hG C X
 have Kp : Keep h0 h0 [o4841] := Keep.refl _ _
 refine s_getstatic 3 C X (host := "") d30_0 (Or.inl (mW 135 rfl)) Via.refl (S_ad.ext Od.2) (fun T X => ?_)
 refine s_if_ne 28 6 C X d30_3 (fun _ => ?_) (fun c => absurd c (by decide))
 refine s_iloadN 29 C X d30_28 rfl ?_
 refine s_iconst 30 C X d30_29 kc_iconst_1 ?_
 refine s_ishl 31 C X d30_30 ?_
 refine rc (st' := [.int i0]) (by rw [kf_1]) ?_
 refine s_istoreN 32 C X (l' := #[rv o4841, iv i0, iv yF]) d30_31 rfl ?_
 refine s_aloadN 33 C X d30_32 rfl rfl ?_
 refine s_iloadN 34 C X d30_33 rfl ?_
 refine s_iinc 37 C X (l' := #[rv o4841, iv i1, iv yF]) d30_34 kc_iconst_1 rfl rfl ?_
 refine s_iloadN 38 C X d30_37 rfl ?_
 refine s_getstatic 41 C X (host := "") d30_38 (Or.inl (mW 136 rfl)) Via.refl (S_hi.ext Od.2) (fun T X => ?_)
 refine s_ishr 42 C X d30_41 ?_
 refine s_i2b 43 C X d30_42 ?_
 refine s_bastore 44 0 C X d30_43 A_o4841 g_o4841 ⟨by decide, by decide⟩ rfl (Nat.le_of_ble_eq_true rfl) (fun T hh X W A_o4841 => ?_)
 have A_o4841 : Arv Z _ o4841 k_o4841 .byte i4 [(.int (nar .byte ((yF >>> (i0 &&& 31))).toInt8.toInt32)), .int i0, .int i0, .int i0] (.int i0) := A_o4841
 have Od := Od.wr W g_o4841
 have Kp := Kp.wr W (Or.inl (by simp))
 have A_o4841 : Arv Z _ o4841 k_o4841 .byte i4 [(.int (lo yF)), .int i0, .int i0, .int i0] (.int i0) := A_o4841
 refine s_aloadN 45 C X d30_44 rfl rfl ?_
 refine s_iloadN 46 C X d30_45 rfl ?_
 refine s_iloadN 47 C X d30_46 rfl ?_
 refine s_getstatic 50 C X (host := "") d30_47 (Or.inl (mW 137 rfl)) Via.refl (S_lo.ext Od.2) (fun T X => ?_)
 refine s_ishr 51 C X d30_50 ?_
 refine s_i2b 52 C X d30_51 ?_
 refine s_bastore 53 1 C X d30_52 A_o4841 g_o4841 ⟨by decide, by decide⟩ rfl (Nat.le_of_ble_eq_true rfl) (fun T hh X W A_o4841 => ?_)
 have A_o4841 : Arv Z _ o4841 k_o4841 .byte i4 [(.int (lo yF)), (.int (nar .byte ((yF >>> (i8 &&& 31))).toInt8.toInt32)), .int i0, .int i0] (.int i0) := A_o4841
 have Od := Od.wr W g_o4841
 have Kp := Kp.wr W (Or.inl (by simp))
 have A_o4841 : Arv Z _ o4841 k_o4841 .byte i4 [(.int (lo yF)), (.int (hi yF)), .int i0, .int i0] (.int i0) := A_o4841
 refine s_return C X d30_53 rfl ?_ (FG hG (by decide) (by decide))
 exact hQ _ _ ⟨rfl, Od, A_o4841, Kp⟩
theorem rm_a72 (hw : Hw a0 Z) (yF : Int32) (yF_8 : Int32) (k_o4841 : ClassId) (o4841 : Addr) (h0 : Heap) (n0 : Nat) (Z0 : n0 ≤ h0.size) (S_ad : Sta Z Z.heap cU "$assertionsDisabled" "Z" (.int i1)) (S_hi : Sta Z Z.heap cU "HI_BYTE_SHIFT" "I" (.int i0)) (S_lo : Sta Z Z.heap cU "LO_BYTE_SHIFT" "I" (.int i8)) (Od : Old Z n0 h0) (A_o4841 : Arv Z h0 o4841 k_o4841 .byte i4 [(.int (lo yF)), (.int (hi yF)), .int i0, .int i0] (.int i0)) (g_o4841 : n0 ≤ o4841) :
  Met l Z (⟨cU, "putChar", "([BII)V"⟩ : MethodName) jdk_52_method_4_code 3 none (rM 0 0 0 0) [] #[.ref o4841, .int i1, .int yF_8] h0 n0 (fun v h => v = none ∧ Old Z n0 h ∧ Arv Z h o4841 k_o4841 .byte i4 [(.int (lo yF)), (.int (hi yF)), (.int (lo yF_8)), (.int (hi yF_8))] (.int i0) ∧ Keep h0 h [o4841]) := by
 refine Met.mkQ (tabs := tables_1) (a0 := a0) (ls0 := #[rv o4841, iv i1, iv yF_8]) (plainFor_of_name pn_java_lang_StringUTF16) hw Z0 (fun m => by first | (simp [entryFrame, mkF, argsToLocals, Value.category]; done) | rfl) ?_
 intro p e s m below meth c T Q' G' hQ hG C X
 have Kp : Keep h0 h0 [o4841] := Keep.refl _ _
 refine s_getstatic 3 C X (host := "") d30_0 (Or.inl (mW 135 rfl)) Via.refl (S_ad.ext Od.2) (fun T X => ?_)
 refine s_if_ne 28 6 C X d30_3 (fun _ => ?_) (fun c => absurd c (by decide))
 refine s_iloadN 29 C X d30_28 rfl ?_
 refine s_iconst 30 C X d30_29 kc_iconst_1 ?_
 refine s_ishl 31 C X d30_30 ?_
 refine rc (st' := [.int i2]) (by rw [kf_2]) ?_
 refine s_istoreN 32 C X (l' := #[rv o4841, iv i2, iv yF_8]) d30_31 rfl ?_
 refine s_aloadN 33 C X d30_32 rfl rfl ?_
 refine s_iloadN 34 C X d30_33 rfl ?_
 refine s_iinc 37 C X (l' := #[rv o4841, iv i3, iv yF_8]) d30_34 kc_iconst_1 rfl rfl ?_
 refine s_iloadN 38 C X d30_37 rfl ?_
 refine s_getstatic 41 C X (host := "") d30_38 (Or.inl (mW 136 rfl)) Via.refl (S_hi.ext Od.2) (fun T X => ?_)
 refine s_ishr 42 C X d30_41 ?_
 refine s_i2b 43 C X d30_42 ?_
 refine s_bastore 44 2 C X d30_43 A_o4841 g_o4841 ⟨by decide, by decide⟩ rfl (Nat.le_of_ble_eq_true rfl) (fun T hh X W A_o4841 => ?_)
 have A_o4841 : Arv Z _ o4841 k_o4841 .byte i4 [(.int (lo yF)), (.int (hi yF)), (.int (nar .byte ((yF_8 >>> (i0 &&& 31))).toInt8.toInt32)), .int i0] (.int i0) := A_o4841
 have Od := Od.wr W g_o4841
 have Kp := Kp.wr W (Or.inl (by simp))
 have A_o4841 : Arv Z _ o4841 k_o4841 .byte i4 [(.int (lo yF)), (.int (hi yF)), (.int (lo yF_8)), .int i0] (.int i0) := A_o4841
 refine s_aloadN 45 C X d30_44 rfl rfl ?_
 refine s_iloadN 46 C X d30_45 rfl ?_
 refine s_iloadN 47 C X d30_46 rfl ?_
 refine s_getstatic 50 C X (host := "") d30_47 (Or.inl (mW 137 rfl)) Via.refl (S_lo.ext Od.2) (fun T X => ?_)
 refine s_ishr 51 C X d30_50 ?_
 refine s_i2b 52 C X d30_51 ?_
 refine s_bastore 53 3 C X d30_52 A_o4841 g_o4841 ⟨by decide, by decide⟩ rfl (Nat.le_of_ble_eq_true rfl) (fun T hh X W A_o4841 => ?_)
 have A_o4841 : Arv Z _ o4841 k_o4841 .byte i4 [(.int (lo yF)), (.int (hi yF)), (.int (lo yF_8)), (.int (nar .byte ((yF_8 >>> (i8 &&& 31))).toInt8.toInt32))] (.int i0) := A_o4841
 have Od := Od.wr W g_o4841
 have Kp := Kp.wr W (Or.inl (by simp))
 have A_o4841 : Arv Z _ o4841 k_o4841 .byte i4 [(.int (lo yF)), (.int (hi yF)), (.int (lo yF_8)), (.int (hi yF_8))] (.int i0) := A_o4841
 refine s_return C X d30_53 rfl ?_ (FG hG (by decide) (by decide))
 exact hQ _ _ ⟨rfl, Od, A_o4841, Kp⟩
theorem rm_a73 (hw : Hw a0 Z) (yF : Int32) (yF_8 : Int32) (o4826 : Addr) (k_o4826 : ClassId) (h0 : Heap) (n0 : Nat) (Z0 : n0 ≤ h0.size) (Od : Old Z n0 h0) (S_ad : Sta Z Z.heap cU "$assertionsDisabled" "Z" (.int i1)) (S_hi : Sta Z Z.heap cU "HI_BYTE_SHIFT" "I" (.int i0)) (S_lo : Sta Z Z.heap cU "LO_BYTE_SHIFT" "I" (.int i8)) (A_o4826 : Arv Z h0 o4826 k_o4826 .char i2 [.int yF, .int yF_8] (.int i0)) :
  Met l Z (⟨cU, "toBytes", "([CII)[B"⟩ : MethodName) jdk_52_method_14_code 5 (some (.array .byte)) (rM 2 1 4 24) [] #[.ref o4826, .int i0, .int i2] h0 n0 (fun v h => ∃ (k_o4841 : ClassId) (o4841 : Addr), v = some (.ref o4841) ∧ Keep h0 h [] ∧ Old Z n0 h ∧ Arv Z h o4841 k_o4841 .byte i4 [(.int (lo yF)), (.int (hi yF)), (.int (lo yF_8)), (.int (hi yF_8))] (.int i0) ∧ h0.size ≤ o4841 ∧ n0 ≤ o4841) := by
 refine Met.mkQ (tabs := tables_1) (a0 := a0) (ls0 := #[rv o4826, iv i0, iv i2, un, un]) (plainFor_of_name pn_java_lang_StringUTF16) hw Z0 (fun m => by first | (simp [entryFrame, mkF, argsToLocals, Value.category]; done) | rfl) ?_
 intro p e s m below meth c T Q' G' hQ hG C X
 have Kp : Keep h0 h0 [] := Keep.refl _ _
 refine s_iloadN 1 C X d27_0 rfl ?_
 refine s_callS 4 [.int i2] [] 0 C X d27_1 (mW 125 rfl) (mW 126 rfl) (mW 62 rfl) (mW 127 rfl) (rm_a70 l Z a0 hw  _ n0 X.sz ) (lenOf pd__I__B rfl) rfl rfl rfl (fun T v hh X q => ?_)
 obtain ⟨k_o4841, o4841, rfl, Kc, A_o4841, sz_o4841', g_o4841⟩ := q
 have ne_o4826_o4841 : o4826 ≠ o4841 := Nat.ne_of_lt (Nat.lt_of_lt_of_le A_o4826.lt sz_o4841')
 have sz_o4841 : h0.size ≤ o4841 := Nat.le_trans Kp.1 sz_o4841'
 have Od := Od.keep Kc all0
 have A_o4826 := A_o4826.keep Kc nin0
 have Kp := Kp.trans Kc all0
 refine rc (st' := [.ref o4841]) rfl ?_
 refine s_astoreN 5 C X (l' := #[rv o4826, iv i0, iv i2, rv o4841, un]) d27_4 rfl rfl ?_
 refine s_iconst 6 C X d27_5 kc_iconst_0 ?_
 refine s_istore 8 C X (l' := #[rv o4826, iv i0, iv i2, rv o4841, iv i0]) d27_6 rfl ?_
 refine s_iload 10 C X d27_8 rfl ?_
 refine s_iloadN 11 C X d27_10 rfl ?_
 refine s_icmp_ge 32 14 C X d27_11 (fun c => absurd (by decide : i0 < i2) c) (fun _ => ?_)
 refine s_aloadN 15 C X d27_14 rfl rfl ?_
 refine s_iload 17 C X d27_15 rfl ?_
 refine s_aloadN 18 C X d27_17 rfl rfl ?_
 refine s_iloadN 19 C X d27_18 rfl ?_
 refine s_caload 20 C X d27_19 A_o4826 ⟨by decide, by decide⟩ (v := (.int yF)) rfl ?_
 refine s_callS 23 [.ref o4841, .int i0, .int yF] [] 0 C X d27_20 (mW 132 rfl) (mW 133 rfl) (mW 62 rfl) (mW 134 rfl) (rm_a71 l Z a0 hw yF k_o4841 o4841 _ n0 X.sz Od S_ad S_hi S_lo A_o4841 g_o4841) (lenOf pd___BII_V rfl) rfl rfl rfl (fun T v hh X q => ?_)
 obtain ⟨rfl, Od, A_o4841, Kc⟩ := q
 have A_o4826 := A_o4826.keep Kc (ninS ne_o4826_o4841 nin0)
 have Kp := Kp.trans Kc (allS (Or.inr sz_o4841) all0)
 refine rc (st' := []) rfl ?_
 refine s_iinc 26 C X (l' := #[rv o4826, iv i1, iv i2, rv o4841, iv i0]) d27_23 kc_iconst_1 rfl rfl ?_
 refine s_iinc 29 C X (l' := #[rv o4826, iv i1, iv i2, rv o4841, iv i1]) d27_26 kc_iconst_1 rfl rfl ?_
 refine s_goto 8 C X d27_29 ?_
 refine s_iload 10 C X d27_8 rfl ?_
 refine s_iloadN 11 C X d27_10 rfl ?_
 refine s_icmp_ge 32 14 C X d27_11 (fun c => absurd (by decide : i1 < i2) c) (fun _ => ?_)
 refine s_aloadN 15 C X d27_14 rfl rfl ?_
 refine s_iload 17 C X d27_15 rfl ?_
 refine s_aloadN 18 C X d27_17 rfl rfl ?_
 refine s_iloadN 19 C X d27_18 rfl ?_
 refine s_caload 20 C X d27_19 A_o4826 ⟨by decide, by decide⟩ (v := (.int yF_8)) rfl ?_
 refine s_callS 23 [.ref o4841, .int i1, .int yF_8] [] 0 C X d27_20 (mW 132 rfl) (mW 133 rfl) (mW 62 rfl) (mW 134 rfl) (rm_a72 l Z a0 hw yF yF_8 k_o4841 o4841 _ n0 X.sz S_ad S_hi S_lo Od A_o4841 g_o4841) (lenOf pd___BII_V rfl) rfl rfl rfl (fun T v hh X q => ?_)
 obtain ⟨rfl, Od, A_o4841, Kc⟩ := q
 have Kp := Kp.trans Kc (allS (Or.inr sz_o4841) all0)
 refine rc (st' := []) rfl ?_
 refine s_iinc 26 C X (l' := #[rv o4826, iv i2, iv i2, rv o4841, iv i1]) d27_23 kc_iconst_1 rfl rfl ?_
 refine s_iinc 29 C X (l' := #[rv o4826, iv i2, iv i2, rv o4841, iv i2]) d27_26 kc_iconst_1 rfl rfl ?_
 refine s_goto 8 C X d27_29 ?_
 refine s_iload 10 C X d27_8 rfl ?_
 refine s_iloadN 11 C X d27_10 rfl ?_
 refine s_icmp_ge 32 14 C X d27_11 (fun _ => ?_) (fun c => absurd c (by decide))
 refine s_aloadN 33 C X d27_32 rfl rfl ?_
 refine s_areturn C X d27_33 rfl rfl rfl ?_ (FG hG (by decide) (by decide))
 exact hQ _ _ ⟨k_o4841, o4841, rfl, Kp, Od, A_o4841, sz_o4841, g_o4841⟩
theorem rm_a74 (hw : Hw a0 Z) (yF : Int32) (yF_8 : Int32) (k_o4841 : ClassId) (o4841 : Addr) (h0 : Heap) (n0 : Nat) (Z0 : n0 ≤ h0.size) (S_ad : Sta Z Z.heap cU "$assertionsDisabled" "Z" (.int i1)) (S_hi : Sta Z Z.heap cU "HI_BYTE_SHIFT" "I" (.int i0)) (S_lo : Sta Z Z.heap cU "LO_BYTE_SHIFT" "I" (.int i8)) (Od : Old Z n0 h0) (A_o4841 : Arv Z h0 o4841 k_o4841 .byte i4 [(.int (lo yF)), (.int (hi yF)), (.int (lo yF_8)), (.int (hi yF_8))] (.int i0)) (hvU_9 : own_U yF_8) :
  Met l Z (⟨cU, "getChar", "([BI)C"⟩ : MethodName) jdk_52_method_5_code 2 (some .char) (rM 0 0 0 0) [] #[.ref o4841, .int i1] h0 n0 (fun v h => v = some (.int yF_8) ∧ Old Z n0 h ∧ Keep h0 h []) := by
 refine Met.mkQ (tabs := tables_1) (a0 := a0) (ls0 := #[rv o4841, iv i1]) (plainFor_of_name pn_java_lang_StringUTF16) hw Z0 (fun m => by first | (simp [entryFrame, mkF, argsToLocals, Value.category]; done) | rfl) ?_
 intro p e s m below meth c T Q' G' hQ hG C X
 have Kp : Keep h0 h0 [] := Keep.refl _ _
 refine s_getstatic 3 C X (host := "") d31_0 (Or.inl (mW 135 rfl)) Via.refl (S_ad.ext Od.2) (fun T X => ?_)
 refine s_if_ne 28 6 C X d31_3 (fun _ => ?_) (fun c => absurd c (by decide))
 refine s_iloadN 29 C X d31_28 rfl ?_
 refine s_iconst 30 C X d31_29 kc_iconst_1 ?_
 refine s_ishl 31 C X d31_30 ?_
 refine rc (st' := [.int i2]) (by rw [kf_2]) ?_
 refine s_istoreN 32 C X (l' := #[rv o4841, iv i2]) d31_31 rfl ?_
 refine s_aloadN 33 C X d31_32 rfl rfl ?_
 refine s_iloadN 34 C X d31_33 rfl ?_
 refine s_iinc 37 C X (l' := #[rv o4841, iv i3]) d31_34 kc_iconst_1 rfl rfl ?_
 refine s_baload 38 C X d31_37 A_o4841 ⟨by decide, by decide⟩ (v := (.int (lo yF_8))) rfl ?_
 refine s_sipush 41 C X d31_38 kc_sipush_255 ?_
 refine s_iand 42 C X d31_41 ?_
 refine s_getstatic 45 C X (host := "") d31_42 (Or.inl (mW 136 rfl)) Via.refl (S_hi.ext Od.2) (fun T X => ?_)
 refine s_ishl 46 C X d31_45 ?_
 refine s_aloadN 47 C X d31_46 rfl rfl ?_
 refine s_iloadN 48 C X d31_47 rfl ?_
 refine s_baload 49 C X d31_48 A_o4841 ⟨by decide, by decide⟩ (v := (.int (hi yF_8))) rfl ?_
 refine s_sipush 52 C X d31_49 kc_sipush_255 ?_
 refine s_iand 53 C X d31_52 ?_
 refine s_getstatic 56 C X (host := "") d31_53 (Or.inl (mW 137 rfl)) Via.refl (S_lo.ext Od.2) (fun T X => ?_)
 refine s_ishl 57 C X d31_56 ?_
 refine s_ior 58 C X d31_57 ?_
 refine s_i2c 59 C X d31_58 ?_
 refine rc (st' := [.int yF_8]) (by rw [show (((((lo yF_8) &&& i255) <<< (i0 &&& 31)) ||| (((hi yF_8) &&& i255) <<< (i8 &&& 31)))).toUInt32.toUInt16.toUInt32.toInt32 = yF_8 from own_get hvU_9]) ?_
 refine s_nreturn C X d31_59 rfl (by simp) (own_nU hvU_9) ?_ (FG hG (by decide) (by decide))
 exact hQ _ _ ⟨rfl, Od, Kp⟩
theorem rm_a75 (hw : Hw a0 Z) (yF : Int32) (yF_8 : Int32) (k_o4841 : ClassId) (o4841 : Addr) (h0 : Heap) (n0 : Nat) (Z0 : n0 ≤ h0.size) (S_ad : Sta Z Z.heap cU "$assertionsDisabled" "Z" (.int i1)) (S_hi : Sta Z Z.heap cU "HI_BYTE_SHIFT" "I" (.int i0)) (S_lo : Sta Z Z.heap cU "LO_BYTE_SHIFT" "I" (.int i8)) (Od : Old Z n0 h0) (A_o4841 : Arv Z h0 o4841 k_o4841 .byte i4 [(.int (lo yF)), (.int (hi yF)), (.int (lo yF_8)), (.int (hi yF_8))] (.int i0)) (hvU : own_U yF) :
  Met l Z (⟨cU, "getChar", "([BI)C"⟩ : MethodName) jdk_52_method_5_code 2 (some .char) (rM 0 0 0 0) [] #[.ref o4841, .int i0] h0 n0 (fun v h => v = some (.int yF) ∧ Old Z n0 h ∧ Keep h0 h []) := by
 refine Met.mkQ (tabs := tables_1) (a0 := a0) (ls0 := #[rv o4841, iv i0]) (plainFor_of_name pn_java_lang_StringUTF16) hw Z0 (fun m => by first | (simp [entryFrame, mkF, argsToLocals, Value.category]; done) | rfl) ?_
 intro p e s m below meth c T Q' G' hQ hG C X
 have Kp : Keep h0 h0 [] := Keep.refl _ _
 refine s_getstatic 3 C X (host := "") d31_0 (Or.inl (mW 135 rfl)) Via.refl (S_ad.ext Od.2) (fun T X => ?_)
 refine s_if_ne 28 6 C X d31_3 (fun _ => ?_) (fun c => absurd c (by decide))
 refine s_iloadN 29 C X d31_28 rfl ?_
 refine s_iconst 30 C X d31_29 kc_iconst_1 ?_
 refine s_ishl 31 C X d31_30 ?_
 refine rc (st' := [.int i0]) (by rw [kf_1]) ?_
 refine s_istoreN 32 C X (l' := #[rv o4841, iv i0]) d31_31 rfl ?_
 refine s_aloadN 33 C X d31_32 rfl rfl ?_
 refine s_iloadN 34 C X d31_33 rfl ?_
 refine s_iinc 37 C X (l' := #[rv o4841, iv i1]) d31_34 kc_iconst_1 rfl rfl ?_
 refine s_baload 38 C X d31_37 A_o4841 ⟨by decide, by decide⟩ (v := (.int (lo yF))) rfl ?_
 refine s_sipush 41 C X d31_38 kc_sipush_255 ?_
 refine s_iand 42 C X d31_41 ?_
 refine s_getstatic 45 C X (host := "") d31_42 (Or.inl (mW 136 rfl)) Via.refl (S_hi.ext Od.2) (fun T X => ?_)
 refine s_ishl 46 C X d31_45 ?_
 refine s_aloadN 47 C X d31_46 rfl rfl ?_
 refine s_iloadN 48 C X d31_47 rfl ?_
 refine s_baload 49 C X d31_48 A_o4841 ⟨by decide, by decide⟩ (v := (.int (hi yF))) rfl ?_
 refine s_sipush 52 C X d31_49 kc_sipush_255 ?_
 refine s_iand 53 C X d31_52 ?_
 refine s_getstatic 56 C X (host := "") d31_53 (Or.inl (mW 137 rfl)) Via.refl (S_lo.ext Od.2) (fun T X => ?_)
 refine s_ishl 57 C X d31_56 ?_
 refine s_ior 58 C X d31_57 ?_
 refine s_i2c 59 C X d31_58 ?_
 refine rc (st' := [.int yF]) (by rw [show (((((lo yF) &&& i255) <<< (i0 &&& 31)) ||| (((hi yF) &&& i255) <<< (i8 &&& 31)))).toUInt32.toUInt16.toUInt32.toInt32 = yF from own_get hvU]) ?_
 refine s_nreturn C X d31_59 rfl (by simp) (own_nU hvU) ?_ (FG hG (by decide) (by decide))
 exact hQ _ _ ⟨rfl, Od, Kp⟩
theorem rm_a76 (hw : Hw a0 Z) (yF : Int32) (yF_8 : Int32) (o4826 : Addr) (k_o4826 : ClassId) (h0 : Heap) (n0 : Nat) (Z0 : n0 ≤ h0.size) (Od : Old Z n0 h0) (S_ad : Sta Z Z.heap cU "$assertionsDisabled" "Z" (.int i1)) (S_hi : Sta Z Z.heap cU "HI_BYTE_SHIFT" "I" (.int i0)) (S_lo : Sta Z Z.heap cU "LO_BYTE_SHIFT" "I" (.int i8)) (A_o4826 : Arv Z h0 o4826 k_o4826 .char i2 [.int yF, .int yF_8] (.int i0)) (hvU : own_U yF) (hvU_9 : own_U yF_8) :
  Met l Z (⟨cU, "compress", "([CII)[B"⟩ : MethodName) jdk_52_method_16_code 6 (some (.array .byte)) (rM 3 2 6 40) [] #[.ref o4826, .int i0, .int i2] h0 n0 (fun v h => (∃ (bFc : Addr) (k_bFc : ClassId), v = some (.ref bFc) ∧ own_B yF ∧ own_B yF_8 ∧ Old Z n0 h ∧ Keep h0 h [] ∧ Arv Z h bFc k_bFc .byte i2 [(.int (bv yF)), (.int (bv yF_8))] (.int i0)) ∨ (∃ (bFc : Addr) (k_bFc : ClassId), v = some (.ref bFc) ∧ Keep h0 h [] ∧ Old Z n0 h ∧ Arv Z h bFc k_bFc .byte i4 [(.int (lo yF)), (.int (hi yF)), (.int (lo yF_8)), (.int (hi yF_8))] (.int i0))) := by
 refine Met.mkQ (tabs := tables_1) (a0 := a0) (ls0 := #[rv o4826, iv i0, iv i2, un, un, un]) (plainFor_of_name pn_java_lang_StringUTF16) hw Z0 (fun m => by first | (simp [entryFrame, mkF, argsToLocals, Value.category]; done) | rfl) ?_
 intro p e s m below meth c T Q' G' hQ hG C X
 have Kp : Keep h0 h0 [] := Keep.refl _ _
 refine s_iloadN 1 C X d11_0 rfl ?_
 refine s_newarray 3 2 C X d11_1 (mW 23 rfl) (by decide) (by decide) (fun T hh o4829 k_o4829 hb_o4829 X E A_o4829 g_o4829 => ?_)
 have ne_o4826_o4829 : o4826 ≠ o4829 := Nat.ne_of_lt (Nat.lt_of_lt_of_le A_o4826.lt (Nat.le_of_eq hb_o4829))
 have sz_o4829 : h0.size ≤ o4829 := Nat.le_trans Kp.1 (Nat.le_of_eq hb_o4829)
 have Od := Od.ext E
 have A_o4826 := A_o4826.ext E
 have Kp := Kp.ext E
 have A_o4829 : Arv Z _ o4829 k_o4829 .byte i2 [.int i0, .int i0] (.int i0) := A_o4829.pad (pad_rep [] _ 2)
 refine s_astoreN 4 C X (l' := #[rv o4826, iv i0, iv i2, rv o4829, un, un]) d11_3 rfl rfl ?_
 refine s_aloadN 5 C X d11_4 rfl rfl ?_
 refine s_iloadN 6 C X d11_5 rfl ?_
 refine s_aloadN 7 C X d11_6 rfl rfl ?_
 refine s_iconst 8 C X d11_7 kc_iconst_0 ?_
 refine s_iloadN 9 C X d11_8 rfl ?_
 refine s_callS 12 [.ref o4826, .int i0, .ref o4829, .int i0, .int i2] [] 0 C X d11_9 (mW 64 rfl) (mW 65 rfl) (mW 62 rfl) (mW 66 rfl) (rm_a68 l Z a0 hw yF yF_8 o4826 k_o4826 o4829 k_o4829 _ n0 X.sz A_o4826 A_o4829 ne_o4826_o4829 g_o4829) (lenOf pd___CI_BII_I rfl) rfl rfl rfl (fun T v hh X q => ?_)
 obtain ⟨rfl, c20_4831, c20_4833, A_o4829, Kc⟩ | ⟨rfl, c20_4831, c20_4833, A_o4829, Kc⟩ | ⟨rfl, c20_4831, A_o4829, Kc⟩ := q
 ·have Od := Od.keep Kc (allS g_o4829 all0)
  have Kp := Kp.trans Kc (allS (Or.inr sz_o4829) all0)
  refine rc (st' := [.int i2]) rfl ?_
  refine s_istore 14 C X (l' := #[rv o4826, iv i0, iv i2, rv o4829, iv i2, un]) d11_12 rfl ?_
  refine s_iload 16 C X d11_14 rfl ?_
  refine s_iloadN 17 C X d11_16 rfl ?_
  refine s_icmp_eq 57 20 C X d11_17 (fun _ => ?_) (fun c => absurd (by decide : i2 = i2) c)
  refine s_aloadN 58 C X d11_57 rfl rfl ?_
  refine s_areturn C X d11_58 rfl rfl rfl ?_ (FG hG (by decide) (by decide))
  obtain ⟨bFc, e_bFc⟩ : ∃ z : Addr, z = o4829 := ⟨_, rfl⟩
  obtain ⟨k_bFc, e_k⟩ : ∃ z : ClassId, z = k_o4829 := ⟨_, rfl⟩
  show Q' (some (.ref o4829)) _
  rw [← e_bFc]
  have A_bFc : Arv Z hh bFc k_bFc .byte i2 [(.int (bv yF)), (.int (bv yF_8))] (.int i0) := by rw [e_bFc, e_k]; exact A_o4829
  have hvB0 : own_B yF := own_BB hvU c20_4831
  have hvB1 : own_B yF_8 := own_BB hvU_9 c20_4833
  exact hQ _ _ (Or.inl ⟨bFc, k_bFc, rfl, hvB0, hvB1, Od, Kp, A_bFc⟩)
 ·have Od := Od.keep Kc (allS g_o4829 all0)
  have A_o4826 := A_o4826.keep Kc (ninS ne_o4826_o4829 nin0)
  have Kp := Kp.trans Kc (allS (Or.inr sz_o4829) all0)
  refine rc (st' := [.int i1]) rfl ?_
  refine s_istore 14 C X (l' := #[rv o4826, iv i0, iv i2, rv o4829, iv i1, un]) d11_12 rfl ?_
  refine s_iload 16 C X d11_14 rfl ?_
  refine s_iloadN 17 C X d11_16 rfl ?_
  refine s_icmp_eq 57 20 C X d11_17 (fun c => absurd c (by decide)) (fun _ => ?_)
  refine s_aloadN 21 C X d11_20 rfl rfl ?_
  refine s_iloadN 22 C X d11_21 rfl ?_
  refine s_iloadN 23 C X d11_22 rfl ?_
  refine s_callS 26 [.ref o4826, .int i0, .int i2] [] 0 C X d11_23 (mW 122 rfl) (mW 123 rfl) (mW 62 rfl) (mW 124 rfl) (rm_a73 l Z a0 hw yF yF_8 o4826 k_o4826 _ n0 X.sz Od S_ad S_hi S_lo A_o4826) (lenOf pd___CII__B rfl) rfl rfl rfl (fun T v hh X q => ?_)
  obtain ⟨k_o4841, o4841, rfl, Kc, Od, A_o4841, sz_o4841', g_o4841⟩ := q
  have Kp := Kp.trans Kc all0
  refine rc (st' := [.ref o4841]) rfl ?_
  refine s_astore 28 C X (l' := #[rv o4826, iv i0, iv i2, rv o4829, iv i1, rv o4841]) d11_26 rfl rfl ?_
  refine s_aload 30 C X d11_28 rfl rfl ?_
  refine s_iload 32 C X d11_30 rfl ?_
  refine s_callS 35 [.ref o4841, .int i1] [] 0 C X d11_32 (mW 138 rfl) (mW 139 rfl) (mW 62 rfl) (mW 140 rfl) (rm_a74 l Z a0 hw yF yF_8 k_o4841 o4841 _ n0 X.sz S_ad S_hi S_lo Od A_o4841 hvU_9) (lenOf pd___BI_C rfl) rfl rfl rfl (fun T v hh X q => ?_)
  obtain ⟨rfl, Od, Kc⟩ := q
  have Kp := Kp.trans Kc all0
  have A_o4841 := A_o4841.keep Kc nin0
  refine rc (st' := [.int yF_8]) rfl ?_
  refine s_sipush 38 C X d11_35 kc_sipush_255 ?_
  refine s_icmp_gt 54 41 C X d11_38 (fun c38_4853 => ?_) (fun c => absurd c20_4833 c)
  refine s_aload 56 C X d11_54 rfl rfl ?_
  refine s_areturn C X d11_56 rfl rfl rfl ?_ (FG hG (by decide) (by decide))
  obtain ⟨bFc, e_bFc⟩ : ∃ z : Addr, z = o4841 := ⟨_, rfl⟩
  obtain ⟨k_bFc, e_k⟩ : ∃ z : ClassId, z = k_o4841 := ⟨_, rfl⟩
  show Q' (some (.ref o4841)) _
  rw [← e_bFc]
  have A_bFc : Arv Z hh bFc k_bFc .byte i4 [(.int (lo yF)), (.int (hi yF)), (.int (lo yF_8)), (.int (hi yF_8))] (.int i0) := by rw [e_bFc, e_k]; exact A_o4841
  exact hQ _ _ (Or.inr ⟨bFc, k_bFc, rfl, Kp, Od, A_bFc⟩)
 ·have Od := Od.keep Kc (allS g_o4829 all0)
  have A_o4826 := A_o4826.keep Kc (ninS ne_o4826_o4829 nin0)
  have Kp := Kp.trans Kc (allS (Or.inr sz_o4829) all0)
  refine rc (st' := [.int i0]) rfl ?_
  refine s_istore 14 C X (l' := #[rv o4826, iv i0, iv i2, rv o4829, iv i0, un]) d11_12 rfl ?_
  refine s_iload 16 C X d11_14 rfl ?_
  refine s_iloadN 17 C X d11_16 rfl ?_
  refine s_icmp_eq 57 20 C X d11_17 (fun c => absurd c (by decide)) (fun _ => ?_)
  refine s_aloadN 21 C X d11_20 rfl rfl ?_
  refine s_iloadN 22 C X d11_21 rfl ?_
  refine s_iloadN 23 C X d11_22 rfl ?_
  refine s_callS 26 [.ref o4826, .int i0, .int i2] [] 0 C X d11_23 (mW 122 rfl) (mW 123 rfl) (mW 62 rfl) (mW 124 rfl) (rm_a73 l Z a0 hw yF yF_8 o4826 k_o4826 _ n0 X.sz Od S_ad S_hi S_lo A_o4826) (lenOf pd___CII__B rfl) rfl rfl rfl (fun T v hh X q => ?_)
  obtain ⟨k_o4841, o4841, rfl, Kc, Od, A_o4841, sz_o4841', g_o4841⟩ := q
  have Kp := Kp.trans Kc all0
  refine rc (st' := [.ref o4841]) rfl ?_
  refine s_astore 28 C X (l' := #[rv o4826, iv i0, iv i2, rv o4829, iv i0, rv o4841]) d11_26 rfl rfl ?_
  refine s_aload 30 C X d11_28 rfl rfl ?_
  refine s_iload 32 C X d11_30 rfl ?_
  refine s_callS 35 [.ref o4841, .int i0] [] 0 C X d11_32 (mW 138 rfl) (mW 139 rfl) (mW 62 rfl) (mW 140 rfl) (rm_a75 l Z a0 hw yF yF_8 k_o4841 o4841 _ n0 X.sz S_ad S_hi S_lo Od A_o4841 hvU) (lenOf pd___BI_C rfl) rfl rfl rfl (fun T v hh X q => ?_)
  obtain ⟨rfl, Od, Kc⟩ := q
  have Kp := Kp.trans Kc all0
  have A_o4841 := A_o4841.keep Kc nin0
  refine rc (st' := [.int yF]) rfl ?_
  refine s_sipush 38 C X d11_35 kc_sipush_255 ?_
  refine s_icmp_gt 54 41 C X d11_38 (fun c38_4870 => ?_) (fun c => absurd c20_4831 c)
  refine s_aload 56 C X d11_54 rfl rfl ?_
  refine s_areturn C X d11_56 rfl rfl rfl ?_ (FG hG (by decide) (by decide))
  obtain ⟨bFc, e_bFc⟩ : ∃ z : Addr, z = o4841 := ⟨_, rfl⟩
  obtain ⟨k_bFc, e_k⟩ : ∃ z : ClassId, z = k_o4841 := ⟨_, rfl⟩
  show Q' (some (.ref o4841)) _
  rw [← e_bFc]
  have A_bFc : Arv Z hh bFc k_bFc .byte i4 [(.int (lo yF)), (.int (hi yF)), (.int (lo yF_8)), (.int (hi yF_8))] (.int i0) := by rw [e_bFc, e_k]; exact A_o4841
  exact hQ _ _ (Or.inr ⟨bFc, k_bFc, rfl, Kp, Od, A_bFc⟩)
theorem rm_a77 (hw : Hw a0 Z) (yF : Int32) (yF_8 : Int32) (bFc : Addr) (k_bFc : ClassId) (h0 : Heap) (n0 : Nat) (Z0 : n0 ≤ h0.size) (A_bFc : Arv Z h0 bFc k_bFc .byte i2 [(.int (bv yF)), (.int (bv yF_8))] (.int i0)) :
  Met l Z (⟨cU, "coderFromArrayLen", "([BI)B"⟩ : MethodName) jdk_52_method_15_code 2 (some .byte) (rM 0 0 0 0) [] #[.ref bFc, .int i2] h0 n0 (fun v h => v = some (.int i0) ∧ Keep h0 h []) := by
 refine Met.mkQ (tabs := tables_1) (a0 := a0) (ls0 := #[rv bFc, iv i2]) (plainFor_of_name pn_java_lang_StringUTF16) hw Z0 (fun m => by first | (simp [entryFrame, mkF, argsToLocals, Value.category]; done) | rfl) ?_
 intro p e s m below meth c T Q' G' hQ hG C X
 have Kp : Keep h0 h0 [] := Keep.refl _ _
 refine s_iloadN 1 C X d13_0 rfl ?_
 refine s_aloadN 2 C X d13_1 rfl rfl ?_
 refine s_arraylength 3 C X d13_2 A_bFc ?_
 refine s_isub 4 C X d13_3 ?_
 refine rc (st' := [.int i0]) (by rw [kf_18]) ?_
 refine s_bipush 6 C X d13_4 kc_bipush_31 ?_
 refine s_iushr 7 C X d13_6 ?_
 refine rc (st' := [.int i0]) (by rw [kf_6]) ?_
 refine s_i2b 8 C X d13_7 ?_
 refine rc (st' := [.int i0]) (by rw [kf_7]) ?_
 refine s_nreturn C X d13_8 rfl (by simp) rfl ?_ (FG hG (by decide) (by decide))
 exact hQ _ _ ⟨rfl, Kp⟩
theorem rm_a78 (hw : Hw a0 Z) (yF : Int32) (yF_8 : Int32) (bFc : Addr) (k_bFc : ClassId) (h0 : Heap) (n0 : Nat) (Z0 : n0 ≤ h0.size) (A_bFc : Arv Z h0 bFc k_bFc .byte i4 [(.int (lo yF)), (.int (hi yF)), (.int (lo yF_8)), (.int (hi yF_8))] (.int i0)) :
  Met l Z (⟨cU, "coderFromArrayLen", "([BI)B"⟩ : MethodName) jdk_52_method_15_code 2 (some .byte) (rM 0 0 0 0) [] #[.ref bFc, .int i2] h0 n0 (fun v h => v = some (.int i1) ∧ Keep h0 h []) := by
 refine Met.mkQ (tabs := tables_1) (a0 := a0) (ls0 := #[rv bFc, iv i2]) (plainFor_of_name pn_java_lang_StringUTF16) hw Z0 (fun m => by first | (simp [entryFrame, mkF, argsToLocals, Value.category]; done) | rfl) ?_
 intro p e s m below meth c T Q' G' hQ hG C X
 have Kp : Keep h0 h0 [] := Keep.refl _ _
 refine s_iloadN 1 C X d13_0 rfl ?_
 refine s_aloadN 2 C X d13_1 rfl rfl ?_
 refine s_arraylength 3 C X d13_2 A_bFc ?_
 refine s_isub 4 C X d13_3 ?_
 refine rc (st' := [.int im2]) (by rw [kf_19]) ?_
 refine s_bipush 6 C X d13_4 kc_bipush_31 ?_
 refine s_iushr 7 C X d13_6 ?_
 refine rc (st' := [.int i1]) (by rw [kf_20]) ?_
 refine s_i2b 8 C X d13_7 ?_
 refine rc (st' := [.int i1]) (by rw [kf_10]) ?_
 refine s_nreturn C X d13_8 rfl (by simp) rfl ?_ (FG hG (by decide) (by decide))
 exact hQ _ _ ⟨rfl, Kp⟩
theorem rm_a79 (hw : Hw a0 Z) (cs : Int32) (yF : Int32) (yF_8 : Int32) (o4825 : Addr) (o4826 : Addr) (k_o4826 : ClassId) (h0 : Heap) (n0 : Nat) (Z0 : n0 ≤ h0.size) (Od : Old Z n0 h0) (S_cs : Sta Z Z.heap cS cC "Z" (.int cs)) (S_ad : Sta Z Z.heap cU "$assertionsDisabled" "Z" (.int i1)) (S_hi : Sta Z Z.heap cU "HI_BYTE_SHIFT" "I" (.int i0)) (S_lo : Sta Z Z.heap cU "LO_BYTE_SHIFT" "I" (.int i8)) (E_o4825 : Exa Z h0 o4825 cS) (F_o4825_a : Fld Z h0 o4825 cS "value" "[B" .null) (F_o4825_k : Fld Z h0 o4825 cS "coder" "B" (.int i0)) (A_o4826 : Arv Z h0 o4826 k_o4826 .char i2 [.int yF, .int yF_8] (.int i0)) (hv_cs : ¬ cs = i0) (hvU : own_U yF) (hvU_9 : own_U yF_8) (g_o4825 : n0 ≤ o4825) (ne_o4825_o4826 : o4825 ≠ o4826) :
  MetH l Z EL1 [o4825] (⟨cS, "<init>", "([CIILjava/lang/Void;)V"⟩ : MethodName) jdk_42_method_149_code 6 none (rM 4 2 6 57) [] #[.ref o4825, .ref o4826, .int i0, .int i2, .null] h0 n0 (fun v h => ∃ (bF : Addr) (kF : Int32) (k_bF : ClassId) (zF : Int32) (zsF : List Int32), v = none ∧ own_T [yF, yF_8] kF zF zsF ∧ Exa Z h o4825 cS ∧ Fld Z h o4825 cS "value" "[B" (.ref bF) ∧ Fld Z h o4825 cS "coder" "B" (.int kF) ∧ Keep h0 h [o4825] ∧ Old Z n0 h ∧ Arv Z h bF k_bF .byte zF (Y zsF) (.int i0)) := by
 refine MetH.mkQ (tabs := tables_1) (a0 := a0) (ls0 := #[rv o4825, rv o4826, iv i0, iv i2, .val .null, un]) (plainFor_of_name pn_java_lang_String) hw Z0 (fun m => by first | (simp [entryFrame, mkF, argsToLocals, Value.category]; done) | rfl) ?_
 intro p e s m below meth c T Q' G' vm k1 hQ hG C X hS Rc hso
 have Kp : Keep h0 h0 [o4825] := Keep.refl _ _
 have H_o4825 : Safe Z EL1 vm h0 o4825 := hso _ (by simp)
 refine s_aloadN 1 C X d3_0 rfl rfl ?_
 refine s_objInit 4 C X d3_1 (mW 19 rfl) (mW 20 rfl) (mW 21 rfl) rfl (W := 0) rfl (by decide) (fun T X => ?_)
 refine s_iloadN 5 C X d3_4 rfl ?_
 refine s_if_ne 27 8 C X d3_5 (fun _ => ?_) (fun c => absurd c (by decide))
 refine s_getstatic 30 C X (host := "") d3_27 (Or.inl (mW 44 rfl)) Via.refl (S_cs.ext Od.2) (fun T X => ?_)
 refine s_if_eq 58 33 C X d3_30 (fun c => absurd c hv_cs) (fun c30_4828 => ?_)
 refine s_aloadN 34 C X d3_33 rfl rfl ?_
 refine s_iloadN 35 C X d3_34 rfl ?_
 refine s_iloadN 36 C X d3_35 rfl ?_
 refine s_callS 39 [.ref o4826, .int i0, .int i2] [] 0 C X d3_36 (mW 60 rfl) (mW 61 rfl) (mW 62 rfl) (mW 63 rfl) (rm_a76 l Z a0 hw yF yF_8 o4826 k_o4826 _ n0 X.sz Od S_ad S_hi S_lo A_o4826 hvU hvU_9) (lenOf pd___CII__B rfl) rfl rfl rfl (fun T v hh X q => ?_)
 obtain ⟨bFc, k_bFc, rfl, hvB0, hvB1, Od, Kc, A_bFc⟩ | ⟨bFc, k_bFc, rfl, Kc, Od, A_bFc⟩ := q
 ·have H_o4825 := Safe.keep Kc so0 Rc.1.1 H_o4825
  have Rc := Rc.keep Kc so0
  have E_o4825 := E_o4825.keep Kc
  have F_o4825_a := F_o4825_a.keep Kc nin0
  have F_o4825_k := F_o4825_k.keep Kc nin0
  have Kp := Kp.trans Kc all0
  refine rc (st' := [.ref bFc]) rfl ?_
  refine s_astore 41 C X (l' := #[rv o4825, rv o4826, iv i0, iv i2, .val .null, rv bFc]) d3_39 rfl rfl ?_
  refine s_aloadN 42 C X d3_41 rfl rfl ?_
  refine s_aload 44 C X d3_42 rfl rfl ?_
  refine s_iloadN 45 C X d3_44 rfl ?_
  refine s_callS 48 [.ref bFc, .int i2] [.ref o4825] 1 C X d3_45 (mW 67 rfl) (mW 68 rfl) (mW 62 rfl) (mW 69 rfl) (rm_a77 l Z a0 hw yF yF_8 bFc k_bFc _ n0 X.sz A_bFc) (lenOf pd___BI_B rfl) rfl rfl rfl (fun T v hh X q => ?_)
  obtain ⟨rfl, Kc⟩ := q
  have H_o4825 := Safe.keep Kc so0 Rc.1.1 H_o4825
  have Rc := Rc.keep Kc so0
  have E_o4825 := E_o4825.keep Kc
  have F_o4825_a := F_o4825_a.keep Kc nin0
  have F_o4825_k := F_o4825_k.keep Kc nin0
  have Kp := Kp.trans Kc all0
  have Od := Od.keep Kc all0
  have A_bFc := A_bFc.keep Kc nin0
  refine rc (st' := [.int i0, .ref o4825]) rfl ?_
  refine s_putfieldN 51 C X d3_48 (mW 29 rfl) Via.refl F_o4825_k E_o4825 (Or.inr ⟨(mW 25 rfl), rfl, rfl⟩) (mW 10 rfl) (ty := .byte) (by decide) rfl rfl g_o4825 (fun T hh X W => ?_)
  have ne_bFc_o4825 : bFc ≠ o4825 := own_aen A_bFc E_o4825 (hw _ (mW 10 rfl))
  have Sf : Safe Z EL1 vm _ o4825 := H_o4825
  have H_o4825 := Safe.wr W Sf Rc.1.1 H_o4825
  have Rc := Rc.wr W Sf
  have E_o4825 := E_o4825.wr W
  have F_o4825_a := oth F_o4825_a W (Or.inr (hw _ (mW 24 rfl))) (Or.inr (hw _ (mW 25 rfl))) (by decide)
  have F_o4825_k := F_o4825_k.same W
  have Kp := Kp.wr W (Or.inl (by simp))
  have Od := Od.wr W g_o4825
  have A_bFc := A_bFc.other W ne_bFc_o4825
  refine s_aloadN 52 C X d3_51 rfl rfl ?_
  refine s_aload 54 C X d3_52 rfl rfl ?_
  refine s_putfield 57 C X (host := "") d3_54 (Or.inl (mW 28 rfl)) Via.refl F_o4825_a E_o4825 (Or.inr ⟨(mW 24 rfl), rfl, rfl⟩) (mW 10 rfl) (ty := (.array .byte)) (by decide) rfl rfl g_o4825 (fun T hh X W => ?_)
  have Sf : Safe Z EL1 vm _ o4825 := H_o4825
  have Rc := Rc.wr W Sf
  have E_o4825 := E_o4825.wr W
  have F_o4825_a := F_o4825_a.same W
  have F_o4825_k := oth F_o4825_k W (Or.inr (hw _ (mW 25 rfl))) (Or.inr (hw _ (mW 24 rfl))) (by decide)
  have Kp := Kp.wr W (Or.inl (by simp))
  have Od := Od.wr W g_o4825
  have A_bFc := A_bFc.other W ne_bFc_o4825
  refine s_return C X d3_57 rfl ?_ (FGH hG hS Rc C (own_EL hw))
  obtain ⟨bF, e_bF⟩ : ∃ z : Addr, z = bFc := ⟨_, rfl⟩
  obtain ⟨k_bF, e_k⟩ : ∃ z : ClassId, z = k_bFc := ⟨_, rfl⟩
  obtain ⟨kF, e_kF⟩ : ∃ z : Int32, z = i0 := ⟨_, rfl⟩
  obtain ⟨zF, e_zF⟩ : ∃ z : Int32, z = i2 := ⟨_, rfl⟩
  obtain ⟨zsF, e_zsF⟩ : ∃ z : List Int32, z = [(bv yF), (bv yF_8)] := ⟨_, rfl⟩
  rw [← e_bF] at F_o4825_a
  have F_o4825_k : Fld Z hh o4825 cS "coder" "B" (.int kF) := by rw [e_kF]; exact F_o4825_k
  have A_bF : Arv Z hh bF k_bF .byte zF (Y zsF) (.int i0) := by rw [e_bF, e_k, e_zF, e_zsF]; exact A_bFc
  have hvT : own_T [yF, yF_8] kF zF zsF := by rw [e_kF, e_zF, e_zsF]; exact own_tL2 hvU hvU_9 hvB0 hvB1
  exact hQ _ _ ⟨bF, kF, k_bF, zF, zsF, rfl, hvT, E_o4825, F_o4825_a, F_o4825_k, Kp, Od, A_bF⟩
 ·have H_o4825 := Safe.keep Kc so0 Rc.1.1 H_o4825
  have Rc := Rc.keep Kc so0
  have E_o4825 := E_o4825.keep Kc
  have F_o4825_a := F_o4825_a.keep Kc nin0
  have F_o4825_k := F_o4825_k.keep Kc nin0
  have Kp := Kp.trans Kc all0
  refine rc (st' := [.ref bFc]) rfl ?_
  refine s_astore 41 C X (l' := #[rv o4825, rv o4826, iv i0, iv i2, .val .null, rv bFc]) d3_39 rfl rfl ?_
  refine s_aloadN 42 C X d3_41 rfl rfl ?_
  refine s_aload 44 C X d3_42 rfl rfl ?_
  refine s_iloadN 45 C X d3_44 rfl ?_
  refine s_callS 48 [.ref bFc, .int i2] [.ref o4825] 1 C X d3_45 (mW 67 rfl) (mW 68 rfl) (mW 62 rfl) (mW 69 rfl) (rm_a78 l Z a0 hw yF yF_8 bFc k_bFc _ n0 X.sz A_bFc) (lenOf pd___BI_B rfl) rfl rfl rfl (fun T v hh X q => ?_)
  obtain ⟨rfl, Kc⟩ := q
  have H_o4825 := Safe.keep Kc so0 Rc.1.1 H_o4825
  have Rc := Rc.keep Kc so0
  have E_o4825 := E_o4825.keep Kc
  have F_o4825_a := F_o4825_a.keep Kc nin0
  have F_o4825_k := F_o4825_k.keep Kc nin0
  have Kp := Kp.trans Kc all0
  have Od := Od.keep Kc all0
  have A_bFc := A_bFc.keep Kc nin0
  refine rc (st' := [.int i1, .ref o4825]) rfl ?_
  refine s_putfieldN 51 C X d3_48 (mW 29 rfl) Via.refl F_o4825_k E_o4825 (Or.inr ⟨(mW 25 rfl), rfl, rfl⟩) (mW 10 rfl) (ty := .byte) (by decide) rfl rfl g_o4825 (fun T hh X W => ?_)
  have ne_bFc_o4825 : bFc ≠ o4825 := own_aen A_bFc E_o4825 (hw _ (mW 10 rfl))
  have Sf : Safe Z EL1 vm _ o4825 := H_o4825
  have H_o4825 := Safe.wr W Sf Rc.1.1 H_o4825
  have Rc := Rc.wr W Sf
  have E_o4825 := E_o4825.wr W
  have F_o4825_a := oth F_o4825_a W (Or.inr (hw _ (mW 24 rfl))) (Or.inr (hw _ (mW 25 rfl))) (by decide)
  have F_o4825_k := F_o4825_k.same W
  have Kp := Kp.wr W (Or.inl (by simp))
  have Od := Od.wr W g_o4825
  have A_bFc := A_bFc.other W ne_bFc_o4825
  refine s_aloadN 52 C X d3_51 rfl rfl ?_
  refine s_aload 54 C X d3_52 rfl rfl ?_
  refine s_putfield 57 C X (host := "") d3_54 (Or.inl (mW 28 rfl)) Via.refl F_o4825_a E_o4825 (Or.inr ⟨(mW 24 rfl), rfl, rfl⟩) (mW 10 rfl) (ty := (.array .byte)) (by decide) rfl rfl g_o4825 (fun T hh X W => ?_)
  have Sf : Safe Z EL1 vm _ o4825 := H_o4825
  have Rc := Rc.wr W Sf
  have E_o4825 := E_o4825.wr W
  have F_o4825_a := F_o4825_a.same W
  have F_o4825_k := oth F_o4825_k W (Or.inr (hw _ (mW 25 rfl))) (Or.inr (hw _ (mW 24 rfl))) (by decide)
  have Kp := Kp.wr W (Or.inl (by simp))
  have Od := Od.wr W g_o4825
  have A_bFc := A_bFc.other W ne_bFc_o4825
  refine s_return C X d3_57 rfl ?_ (FGH hG hS Rc C (own_EL hw))
  obtain ⟨bF, e_bF⟩ : ∃ z : Addr, z = bFc := ⟨_, rfl⟩
  obtain ⟨k_bF, e_k⟩ : ∃ z : ClassId, z = k_bFc := ⟨_, rfl⟩
  obtain ⟨kF, e_kF⟩ : ∃ z : Int32, z = i1 := ⟨_, rfl⟩
  obtain ⟨zF, e_zF⟩ : ∃ z : Int32, z = i4 := ⟨_, rfl⟩
  obtain ⟨zsF, e_zsF⟩ : ∃ z : List Int32, z = [(lo yF), (hi yF), (lo yF_8), (hi yF_8)] := ⟨_, rfl⟩
  rw [← e_bF] at F_o4825_a
  have F_o4825_k : Fld Z hh o4825 cS "coder" "B" (.int kF) := by rw [e_kF]; exact F_o4825_k
  have A_bF : Arv Z hh bF k_bF .byte zF (Y zsF) (.int i0) := by rw [e_bF, e_k, e_zF, e_zsF]; exact A_bFc
  have hvT : own_T [yF, yF_8] kF zF zsF := by rw [e_kF, e_zF, e_zsF]; exact own_tU2 hvU hvU_9
  exact hQ _ _ ⟨bF, kF, k_bF, zF, zsF, rfl, hvT, E_o4825, F_o4825_a, F_o4825_k, Kp, Od, A_bF⟩
theorem rm_a80 (hw : Hw a0 Z) (cs : Int32) (yF : Int32) (yF_8 : Int32) (o4825 : Addr) (o4826 : Addr) (k_o4826 : ClassId) (h0 : Heap) (n0 : Nat) (Z0 : n0 ≤ h0.size) (Od : Old Z n0 h0) (S_cs : Sta Z Z.heap cS cC "Z" (.int cs)) (S_ad : Sta Z Z.heap cU "$assertionsDisabled" "Z" (.int i1)) (S_hi : Sta Z Z.heap cU "HI_BYTE_SHIFT" "I" (.int i0)) (S_lo : Sta Z Z.heap cU "LO_BYTE_SHIFT" "I" (.int i8)) (E_o4825 : Exa Z h0 o4825 cS) (F_o4825_a : Fld Z h0 o4825 cS "value" "[B" .null) (F_o4825_k : Fld Z h0 o4825 cS "coder" "B" (.int i0)) (A_o4826 : Arv Z h0 o4826 k_o4826 .char i2 [.int yF, .int yF_8] (.int i0)) (hv_cs : ¬ cs = i0) (hvU : own_U yF) (hvU_9 : own_U yF_8) (g_o4825 : n0 ≤ o4825) (ne_o4825_o4826 : o4825 ≠ o4826) :
  MetH l Z EL1 [o4825] (⟨cS, "<init>", "([C)V"⟩ : MethodName) jdk_42_method_3_code 2 none (rM 5 2 6 74) [] #[.ref o4825, .ref o4826] h0 n0 (fun v h => ∃ (bF : Addr) (kF : Int32) (k_bF : ClassId) (zF : Int32) (zsF : List Int32), v = none ∧ own_T [yF, yF_8] kF zF zsF ∧ Keep h0 h [o4825] ∧ Exa Z h o4825 cS ∧ Fld Z h o4825 cS "value" "[B" (.ref bF) ∧ Fld Z h o4825 cS "coder" "B" (.int kF) ∧ Old Z n0 h ∧ Arv Z h bF k_bF .byte zF (Y zsF) (.int i0)) := by
 refine MetH.mkQ (tabs := tables_1) (a0 := a0) (ls0 := #[rv o4825, rv o4826]) (plainFor_of_name pn_java_lang_String) hw Z0 (fun m => by first | (simp [entryFrame, mkF, argsToLocals, Value.category]; done) | rfl) ?_
 intro p e s m below meth c T Q' G' vm k1 hQ hG C X hS Rc hso
 have Kp : Keep h0 h0 [o4825] := Keep.refl _ _
 have H_o4825 : Safe Z EL1 vm h0 o4825 := hso _ (by simp)
 refine s_aloadN 1 C X d2_0 rfl rfl ?_
 refine s_aloadN 2 C X d2_1 rfl rfl ?_
 refine s_iconst 3 C X d2_2 kc_iconst_0 ?_
 refine s_aloadN 4 C X d2_3 rfl rfl ?_
 refine s_arraylength 5 C X d2_4 A_o4826 ?_
 refine s_aconstNull 6 C X d2_5 ?_
 refine s_hcallC 9 [.ref o4826, .int i0, .int i2, .null] [] 0 C X hS Rc.2 (own_EL hw) Rc.1.1 d2_6 rfl (mW 15 rfl) (mW 16 rfl) (mW 11 rfl) (mW 18 rfl) (rm_a79 l Z a0 hw cs yF yF_8 o4825 o4826 k_o4826 _ n0 X.sz Od S_cs S_ad S_hi S_lo E_o4825 F_o4825_a F_o4825_k A_o4826 hv_cs hvU hvU_9 g_o4825 ne_o4825_o4826) (lenOf pd___CIILjava_lang_Void__V rfl) rfl rfl rfl (soS ⟨E_o4825.lt, H_o4825⟩ so0) (fun T v hh vm k1 C X hS Nk Rn q => ?_)
 obtain ⟨bF, kF, k_bF, zF, zsF, rfl, hvT, E_o4825, F_o4825_a, F_o4825_k, Kc, Od, A_bF⟩ := q
 have Rc := Rc.call Rn Nk
 have Kp := Kp.trans Kc (allS (Or.inl (by simp)) all0)
 refine rc (st' := []) rfl ?_
 refine s_return C X d2_9 rfl ?_ (FGH hG hS Rc C (own_EL hw))
 exact hQ _ _ ⟨bF, kF, k_bF, zF, zsF, rfl, hvT, Kp, E_o4825, F_o4825_a, F_o4825_k, Od, A_bF⟩
theorem rm_a81 (hw : Hw a0 Z) (cs : Int32) (fm : Value) (o4825 : Addr) (bF : Addr) (kF : Int32) (k_bF : ClassId) (zF : Int32) (zsF : List Int32) (xs : List Int32) (h0 : Heap) (n0 : Nat) (Z0 : n0 ≤ h0.size) (S_cs : Sta Z Z.heap cS cC "Z" (.int cs)) (S_fm : Sta Z Z.heap cP cM cF fm) (S_ad : Sta Z Z.heap cU "$assertionsDisabled" "Z" (.int i1)) (S_hi : Sta Z Z.heap cU "HI_BYTE_SHIFT" "I" (.int i0)) (S_lo : Sta Z Z.heap cU "LO_BYTE_SHIFT" "I" (.int i8)) (E_o4825 : Exa Z h0 o4825 cS) (F_o4825_a : Fld Z h0 o4825 cS "value" "[B" (.ref bF)) (F_o4825_k : Fld Z h0 o4825 cS "coder" "B" (.int kF)) (Od : Old Z n0 h0) (A_bF : Arv Z h0 bF k_bF .byte zF (Y zsF) (.int i0)) (hv_cs : ¬ cs = i0) (hv_fm : fm.isRef = true) (hvS : own_T xs kF zF zsF) (hvL : xs.length = 2) :
  MetH l Z EL1 [] (⟨"com/example/tinsel_tally/tinseltally/Blanks", "strip", "(Ljava/lang/String;)Ljava/lang/String;"⟩ : MethodName) prog_3_method_2_code 3 (some (.object cS)) (rM 7 3 16 119) [] #[.ref o4825] h0 n0 (fun v h => ∃ (bFq : Addr) (eFt : Int32) (kFq : Int32) (k_bFq : ClassId) (lFq : Int32) (rFq : Addr) (sFt : Int32) (zFq : Int32) (zsFq : List Int32), v = some (.ref rFq) ∧ own_S xs sFt eFt ∧ lFq.toInt = eFt.toInt - sFt.toInt ∧ own_T (sl xs sFt.toNatClampNeg lFq.toNatClampNeg) kFq zFq zsFq ∧ Keep h0 h [] ∧ Old Z n0 h ∧ Exa Z h rFq cS ∧ Fld Z h rFq cS "coder" "B" (.int kFq) ∧ Fld Z h rFq cS "value" "[B" (.ref bFq) ∧ Arv Z h bFq k_bFq .byte zFq (Y zsFq) (.int i0)) := by
 refine MetH.mkQ (tabs := tables_1) (a0 := a0) (ls0 := #[rv o4825, un, un]) (plainFor_of_name pn_com_example_tinsel_tally_tinseltally_Blanks) hw Z0 (fun m => by first | (simp [entryFrame, mkF, argsToLocals, Value.category]; done) | rfl) ?_
 intro p e s m below meth c T Q' G' vm k1 hQ hG C X hS Rc hso
 have Kp : Keep h0 h0 [] := Keep.refl _ _
 refine s_iconst 1 C X d5_0 kc_iconst_0 ?_
 refine s_istoreN 2 C X (l' := #[rv o4825, iv i0, un]) d5_1 rfl ?_
 refine s_iloadN 3 C X d5_2 rfl ?_
 refine s_aloadN 4 C X d5_3 rfl rfl ?_
 refine s_callV 7 [] [.int i0] 1 C X d5_4 (mW 34 rfl) (mW 35 rfl) (nF C (mW 37 rfl)) (mW 37 rfl) (mW 36 rfl) (mW 11 rfl) (mW 38 rfl) E_o4825 (rm_a20 l Z a0 hw cs o4825 bF kF k_bF zF zsF xs _ n0 X.sz S_cs E_o4825 F_o4825_a F_o4825_k Od A_bF hv_cs hvS) (lenOf pd___I rfl) rfl rfl rfl (fun T v hh X q => ?_)
 obtain ⟨rfl, Kc, Od⟩ := q
 have Rc := Rc.keep Kc so0
 have E_o4825 := E_o4825.keep Kc
 have F_o4825_a := F_o4825_a.keep Kc nin0
 have F_o4825_k := F_o4825_k.keep Kc nin0
 have A_bF := A_bF.keep Kc nin0
 have Kp := Kp.trans Kc all0
 refine rc (st' := [(.int (zF >>> (kF &&& 31))), .int i0]) rfl ?_
 refine rc (st' := [.int i2, .int i0]) (by rw [own_lenN hvS hvL (L := i2) (by decide)]) ?_
 refine s_icmp_ge 27 10 C X d5_7 (fun c => absurd (by decide : i0 < i2) c) (fun _ => ?_)
 refine s_aloadN 11 C X d5_10 rfl rfl ?_
 refine s_iloadN 12 C X d5_11 rfl ?_
 obtain ⟨ix4923, e_ix4923⟩ : ∃ zz_ : Int32, zz_ = i0 := ⟨_, rfl⟩
 refine rc (st' := [.int ix4923, .ref o4825]) (by subst e_ix4923; rfl) ?_
 have hvx_ix4923 : own_ix xs ix4923 := by rw [e_ix4923]; exact ⟨by decide, by rw [hvL]; decide⟩
 refine s_callV 15 [.int ix4923] [] 0 C X d5_12 (mW 73 rfl) (mW 74 rfl) (nF C (mW 76 rfl)) (mW 76 rfl) (mW 75 rfl) (mW 11 rfl) (mW 77 rfl) E_o4825 (rm_a31 l Z a0 hw cs fm o4825 bF kF k_bF zF zsF xs ix4923 _ n0 X.sz S_cs S_fm S_ad S_hi S_lo E_o4825 F_o4825_a F_o4825_k A_bF Od hv_cs hv_fm hvS hvx_ix4923) (lenOf pd__I_C rfl) rfl rfl rfl (fun T v hh X q => ?_)
 obtain ⟨rfl, Kc, Od⟩ := q
 have Rc := Rc.keep Kc so0
 have E_o4825 := E_o4825.keep Kc
 have F_o4825_a := F_o4825_a.keep Kc nin0
 have F_o4825_k := F_o4825_k.keep Kc nin0
 have A_bF := A_bF.keep Kc nin0
 have Kp := Kp.trans Kc all0
 refine rc (st' := [(.int (xs.getD (ix4923).toNatClampNeg 0))]) rfl ?_
 refine rc (st' := [(.int (xs.getD 0 0))]) (by rw [show (xs.getD (ix4923).toNatClampNeg 0) = (xs.getD 0 0) from by rw [e_ix4923]; rfl]) ?_
 refine s_callS 18 [(.int (xs.getD 0 0))] [] 0 C X d5_15 (mW 93 rfl) (mW 94 rfl) (mW 32 rfl) (mW 95 rfl) (rm_isBlank l Z a0 hw ((xs.getD 0 0)) _ n0 X.sz) (lenOf pd__C_Z rfl) rfl rfl rfl (fun T v h2 X q => ?_)
 obtain ⟨⟨rfl, b4949⟩ | ⟨rfl, b4949⟩, hE⟩ := q
 ·rw [hE] at X
  refine rc (st' := [.int i1]) rfl ?_
  refine s_if_eq 27 21 C X d5_18 (fun c => absurd c (by decide)) (fun _ => ?_)
  refine s_iinc 24 C X (l' := #[rv o4825, iv i1, un]) d5_21 kc_iconst_1 rfl rfl ?_
  refine s_goto 2 C X d5_24 ?_
  refine s_iloadN 3 C X d5_2 rfl ?_
  refine s_aloadN 4 C X d5_3 rfl rfl ?_
  refine s_callV 7 [] [.int i1] 1 C X d5_4 (mW 34 rfl) (mW 35 rfl) (nF C (mW 37 rfl)) (mW 37 rfl) (mW 36 rfl) (mW 11 rfl) (mW 38 rfl) E_o4825 (rm_a20 l Z a0 hw cs o4825 bF kF k_bF zF zsF xs _ n0 X.sz S_cs E_o4825 F_o4825_a F_o4825_k Od A_bF hv_cs hvS) (lenOf pd___I rfl) rfl rfl rfl (fun T v hh X q => ?_)
  obtain ⟨rfl, Kc, Od⟩ := q
  have Rc := Rc.keep Kc so0
  have E_o4825 := E_o4825.keep Kc
  have F_o4825_a := F_o4825_a.keep Kc nin0
  have F_o4825_k := F_o4825_k.keep Kc nin0
  have A_bF := A_bF.keep Kc nin0
  have Kp := Kp.trans Kc all0
  refine rc (st' := [(.int (zF >>> (kF &&& 31))), .int i1]) rfl ?_
  refine rc (st' := [.int i2, .int i1]) (by rw [own_lenN hvS hvL (L := i2) (by decide)]) ?_
  refine s_icmp_ge 27 10 C X d5_7 (fun c => absurd (by decide : i1 < i2) c) (fun _ => ?_)
  refine s_aloadN 11 C X d5_10 rfl rfl ?_
  refine s_iloadN 12 C X d5_11 rfl ?_
  obtain ⟨ix4955, e_ix4955⟩ : ∃ zz_ : Int32, zz_ = i1 := ⟨_, rfl⟩
  refine rc (st' := [.int ix4955, .ref o4825]) (by subst e_ix4955; rfl) ?_
  have hvx_ix4955 : own_ix xs ix4955 := by rw [e_ix4955]; exact ⟨by decide, by rw [hvL]; decide⟩
  refine s_callV 15 [.int ix4955] [] 0 C X d5_12 (mW 73 rfl) (mW 74 rfl) (nF C (mW 76 rfl)) (mW 76 rfl) (mW 75 rfl) (mW 11 rfl) (mW 77 rfl) E_o4825 (rm_a31 l Z a0 hw cs fm o4825 bF kF k_bF zF zsF xs ix4955 _ n0 X.sz S_cs S_fm S_ad S_hi S_lo E_o4825 F_o4825_a F_o4825_k A_bF Od hv_cs hv_fm hvS hvx_ix4955) (lenOf pd__I_C rfl) rfl rfl rfl (fun T v hh X q => ?_)
  obtain ⟨rfl, Kc, Od⟩ := q
  have Rc := Rc.keep Kc so0
  have E_o4825 := E_o4825.keep Kc
  have F_o4825_a := F_o4825_a.keep Kc nin0
  have F_o4825_k := F_o4825_k.keep Kc nin0
  have A_bF := A_bF.keep Kc nin0
  have Kp := Kp.trans Kc all0
  refine rc (st' := [(.int (xs.getD (ix4955).toNatClampNeg 0))]) rfl ?_
  refine rc (st' := [(.int (xs.getD 1 0))]) (by rw [show (xs.getD (ix4955).toNatClampNeg 0) = (xs.getD 1 0) from by rw [e_ix4955]; rfl]) ?_
  refine s_callS 18 [(.int (xs.getD 1 0))] [] 0 C X d5_15 (mW 93 rfl) (mW 94 rfl) (mW 32 rfl) (mW 95 rfl) (rm_isBlank l Z a0 hw ((xs.getD 1 0)) _ n0 X.sz) (lenOf pd__C_Z rfl) rfl rfl rfl (fun T v h5 X q => ?_)
  obtain ⟨⟨rfl, b4981⟩ | ⟨rfl, b4981⟩, hE⟩ := q
  ·rw [hE] at X
   refine rc (st' := [.int i1]) rfl ?_
   refine s_if_eq 27 21 C X d5_18 (fun c => absurd c (by decide)) (fun _ => ?_)
   refine s_iinc 24 C X (l' := #[rv o4825, iv i2, un]) d5_21 kc_iconst_1 rfl rfl ?_
   refine s_goto 2 C X d5_24 ?_
   refine s_iloadN 3 C X d5_2 rfl ?_
   refine s_aloadN 4 C X d5_3 rfl rfl ?_
   refine s_callV 7 [] [.int i2] 1 C X d5_4 (mW 34 rfl) (mW 35 rfl) (nF C (mW 37 rfl)) (mW 37 rfl) (mW 36 rfl) (mW 11 rfl) (mW 38 rfl) E_o4825 (rm_a20 l Z a0 hw cs o4825 bF kF k_bF zF zsF xs _ n0 X.sz S_cs E_o4825 F_o4825_a F_o4825_k Od A_bF hv_cs hvS) (lenOf pd___I rfl) rfl rfl rfl (fun T v hh X q => ?_)
   obtain ⟨rfl, Kc, Od⟩ := q
   have Rc := Rc.keep Kc so0
   have E_o4825 := E_o4825.keep Kc
   have F_o4825_a := F_o4825_a.keep Kc nin0
   have F_o4825_k := F_o4825_k.keep Kc nin0
   have A_bF := A_bF.keep Kc nin0
   have Kp := Kp.trans Kc all0
   refine rc (st' := [(.int (zF >>> (kF &&& 31))), .int i2]) rfl ?_
   refine rc (st' := [.int i2, .int i2]) (by rw [own_lenN hvS hvL (L := i2) (by decide)]) ?_
   refine s_icmp_ge 27 10 C X d5_7 (fun _ => ?_) (fun c => absurd c (by decide))
   refine s_aloadN 28 C X d5_27 rfl rfl ?_
   refine s_callV 31 [] [] 0 C X d5_28 (mW 34 rfl) (mW 35 rfl) (nF C (mW 37 rfl)) (mW 37 rfl) (mW 36 rfl) (mW 11 rfl) (mW 38 rfl) E_o4825 (rm_a20 l Z a0 hw cs o4825 bF kF k_bF zF zsF xs _ n0 X.sz S_cs E_o4825 F_o4825_a F_o4825_k Od A_bF hv_cs hvS) (lenOf pd___I rfl) rfl rfl rfl (fun T v hh X q => ?_)
   obtain ⟨rfl, Kc, Od⟩ := q
   have Rc := Rc.keep Kc so0
   have E_o4825 := E_o4825.keep Kc
   have F_o4825_a := F_o4825_a.keep Kc nin0
   have F_o4825_k := F_o4825_k.keep Kc nin0
   have A_bF := A_bF.keep Kc nin0
   have Kp := Kp.trans Kc all0
   refine rc (st' := [(.int (zF >>> (kF &&& 31)))]) rfl ?_
   refine rc (st' := [.int i2]) (by rw [own_lenN hvS hvL (L := i2) (by decide)]) ?_
   refine s_istoreN 32 C X (l' := #[rv o4825, iv i2, iv i2]) d5_31 rfl ?_
   refine s_iloadN 33 C X d5_32 rfl ?_
   refine s_iloadN 34 C X d5_33 rfl ?_
   refine s_icmp_le 56 37 C X d5_34 (fun _ => ?_) (fun c => absurd c (by decide))
   refine s_aloadN 57 C X d5_56 rfl rfl ?_
   refine s_iloadN 58 C X d5_57 rfl ?_
   refine s_iloadN 59 C X d5_58 rfl ?_
   obtain ⟨ev4991, e_ev4991⟩ : ∃ zz_ : Int32, zz_ = i2 := ⟨_, rfl⟩
   refine rc (st' := [.int ev4991, .int i2, .ref o4825]) (by subst e_ev4991; rfl) ?_
   obtain ⟨sv4992, e_sv4992⟩ : ∃ zz_ : Int32, zz_ = i2 := ⟨_, rfl⟩
   refine rc (st' := [.int ev4991, .int sv4992, .ref o4825]) (by subst e_sv4992; rfl) ?_
   have hvse : own_se xs sv4992 ev4991 := by rw [e_sv4992, e_ev4991]; exact ⟨by decide, by decide, by rw [hvL]; decide⟩
   refine s_hcallV 62 [.int sv4992, .int ev4991] [] 0 C X hS Rc.2 (own_EL hw) Rc.1.1 d5_59 (mW 45 rfl) (mW 46 rfl) (nF C (mW 48 rfl)) (mW 48 rfl) (mW 47 rfl) (mW 11 rfl) (mW 49 rfl) E_o4825 (rm_a50 l Z a0 hw cs fm o4825 bF kF k_bF zF zsF xs ev4991 sv4992 _ n0 X.sz S_cs S_fm S_ad S_hi S_lo E_o4825 F_o4825_a F_o4825_k A_bF Od hv_cs hv_fm hvS hvse) (lenOf pd__II_Ljava_lang_String_ rfl) rfl rfl rfl so0 (fun T v hh vm k1 C X hS Nk Rn q => ?_)
   obtain ⟨bFq, kFq, k_bFq, lFq, rFq, zFq, zsFq, rfl, hvle, hvR, Kc, Od, E_rFq, F_rFq_k, F_rFq_a, A_bFq⟩ := q
   have Rc := Rc.call Rn Nk
   have Kp := Kp.trans Kc all0
   refine rc (st' := [.ref rFq]) rfl ?_
   refine s_areturn C X d5_62 rfl rfl rfl ?_ (FGH hG hS Rc C (own_EL hw))
   obtain ⟨sFt, e_sFt⟩ : ∃ z : Int32, z = sv4992 := ⟨_, rfl⟩
   obtain ⟨eFt, e_eFt⟩ : ∃ z : Int32, z = ev4991 := ⟨_, rfl⟩
   have js : sFt.toInt = 2 := by rw [e_sFt, e_sv4992]; decide
   have je : eFt.toInt = 2 := by rw [e_eFt, e_ev4991]; decide
   have jn := hvL
   have hvS : own_S xs sFt eFt := by
    refine ⟨⟨by omega, by omega, by omega⟩, fun i hi => ?_, fun i hi hj => ?_, ?_⟩
    ·have : i = 0 ∨ i = 1 := by omega
     rcases this with rfl | rfl
     ·exact b4949
     ·exact b4981
    ·omega
    ·exact Or.inr ⟨by omega, by omega⟩
   have hvl : lFq.toInt = eFt.toInt - sFt.toInt := by rw [e_sFt, e_eFt]; exact hvle
   have hvR : own_T (sl xs sFt.toNatClampNeg lFq.toNatClampNeg) kFq zFq zsFq := by rw [e_sFt]; exact hvR
   exact hQ _ _ ⟨bFq, eFt, kFq, k_bFq, lFq, rFq, sFt, zFq, zsFq, rfl, hvS, hvl, hvR, Kp, Od, E_rFq, F_rFq_k, F_rFq_a, A_bFq⟩
  ·rw [hE] at X
   refine rc (st' := [.int i0]) rfl ?_
   refine s_if_eq 27 21 C X d5_18 (fun _ => ?_) (fun c => absurd (by decide : i0 = i0) c)
   refine s_aloadN 28 C X d5_27 rfl rfl ?_
   refine s_callV 31 [] [] 0 C X d5_28 (mW 34 rfl) (mW 35 rfl) (nF C (mW 37 rfl)) (mW 37 rfl) (mW 36 rfl) (mW 11 rfl) (mW 38 rfl) E_o4825 (rm_a20 l Z a0 hw cs o4825 bF kF k_bF zF zsF xs _ n0 X.sz S_cs E_o4825 F_o4825_a F_o4825_k Od A_bF hv_cs hvS) (lenOf pd___I rfl) rfl rfl rfl (fun T v hh X q => ?_)
   obtain ⟨rfl, Kc, Od⟩ := q
   have Rc := Rc.keep Kc so0
   have E_o4825 := E_o4825.keep Kc
   have F_o4825_a := F_o4825_a.keep Kc nin0
   have F_o4825_k := F_o4825_k.keep Kc nin0
   have A_bF := A_bF.keep Kc nin0
   have Kp := Kp.trans Kc all0
   refine rc (st' := [(.int (zF >>> (kF &&& 31)))]) rfl ?_
   refine rc (st' := [.int i2]) (by rw [own_lenN hvS hvL (L := i2) (by decide)]) ?_
   refine s_istoreN 32 C X (l' := #[rv o4825, iv i1, iv i2]) d5_31 rfl ?_
   refine s_iloadN 33 C X d5_32 rfl ?_
   refine s_iloadN 34 C X d5_33 rfl ?_
   refine s_icmp_le 56 37 C X d5_34 (fun c => absurd (by decide : i1 < i2) c) (fun _ => ?_)
   refine s_aloadN 38 C X d5_37 rfl rfl ?_
   refine s_iloadN 39 C X d5_38 rfl ?_
   refine s_iconst 40 C X d5_39 kc_iconst_1 ?_
   refine s_isub 41 C X d5_40 ?_
   refine rc (st' := [.int i1, .ref o4825]) (by rw [kf_13]) ?_
   obtain ⟨ix5206, e_ix5206⟩ : ∃ zz_ : Int32, zz_ = i1 := ⟨_, rfl⟩
   refine rc (st' := [.int ix5206, .ref o4825]) (by subst e_ix5206; rfl) ?_
   have hvx_ix5206 : own_ix xs ix5206 := by rw [e_ix5206]; exact ⟨by decide, by rw [hvL]; decide⟩
   refine s_callV 44 [.int ix5206] [] 0 C X d5_41 (mW 73 rfl) (mW 74 rfl) (nF C (mW 76 rfl)) (mW 76 rfl) (mW 75 rfl) (mW 11 rfl) (mW 77 rfl) E_o4825 (rm_a31 l Z a0 hw cs fm o4825 bF kF k_bF zF zsF xs ix5206 _ n0 X.sz S_cs S_fm S_ad S_hi S_lo E_o4825 F_o4825_a F_o4825_k A_bF Od hv_cs hv_fm hvS hvx_ix5206) (lenOf pd__I_C rfl) rfl rfl rfl (fun T v hh X q => ?_)
   obtain ⟨rfl, Kc, Od⟩ := q
   have Rc := Rc.keep Kc so0
   have E_o4825 := E_o4825.keep Kc
   have F_o4825_a := F_o4825_a.keep Kc nin0
   have F_o4825_k := F_o4825_k.keep Kc nin0
   have A_bF := A_bF.keep Kc nin0
   have Kp := Kp.trans Kc all0
   refine rc (st' := [(.int (xs.getD (ix5206).toNatClampNeg 0))]) rfl ?_
   refine rc (st' := [(.int (xs.getD 1 0))]) (by rw [show (xs.getD (ix5206).toNatClampNeg 0) = (xs.getD 1 0) from by rw [e_ix5206]; rfl]) ?_
   refine s_callS 47 [(.int (xs.getD 1 0))] [] 0 C X d5_44 (mW 93 rfl) (mW 94 rfl) (mW 32 rfl) (mW 95 rfl) (rm_isBlank l Z a0 hw ((xs.getD 1 0)) _ n0 X.sz) (lenOf pd__C_Z rfl) rfl rfl rfl (fun T v h11 X q => ?_)
   obtain ⟨⟨rfl, b5232⟩ | ⟨rfl, b5232⟩, hE⟩ := q
   ·rw [hE] at X
    exact absurd b5232 b4981
   ·rw [hE] at X
    refine rc (st' := [.int i0]) rfl ?_
    refine s_if_eq 56 50 C X d5_47 (fun _ => ?_) (fun c => absurd (by decide : i0 = i0) c)
    refine s_aloadN 57 C X d5_56 rfl rfl ?_
    refine s_iloadN 58 C X d5_57 rfl ?_
    refine s_iloadN 59 C X d5_58 rfl ?_
    obtain ⟨ev5234, e_ev5234⟩ : ∃ zz_ : Int32, zz_ = i2 := ⟨_, rfl⟩
    refine rc (st' := [.int ev5234, .int i1, .ref o4825]) (by subst e_ev5234; rfl) ?_
    obtain ⟨sv5235, e_sv5235⟩ : ∃ zz_ : Int32, zz_ = i1 := ⟨_, rfl⟩
    refine rc (st' := [.int ev5234, .int sv5235, .ref o4825]) (by subst e_sv5235; rfl) ?_
    have hvse : own_se xs sv5235 ev5234 := by rw [e_sv5235, e_ev5234]; exact ⟨by decide, by decide, by rw [hvL]; decide⟩
    refine s_hcallV 62 [.int sv5235, .int ev5234] [] 0 C X hS Rc.2 (own_EL hw) Rc.1.1 d5_59 (mW 45 rfl) (mW 46 rfl) (nF C (mW 48 rfl)) (mW 48 rfl) (mW 47 rfl) (mW 11 rfl) (mW 49 rfl) E_o4825 (rm_a50 l Z a0 hw cs fm o4825 bF kF k_bF zF zsF xs ev5234 sv5235 _ n0 X.sz S_cs S_fm S_ad S_hi S_lo E_o4825 F_o4825_a F_o4825_k A_bF Od hv_cs hv_fm hvS hvse) (lenOf pd__II_Ljava_lang_String_ rfl) rfl rfl rfl so0 (fun T v hh vm k1 C X hS Nk Rn q => ?_)
    obtain ⟨bFq, kFq, k_bFq, lFq, rFq, zFq, zsFq, rfl, hvle, hvR, Kc, Od, E_rFq, F_rFq_k, F_rFq_a, A_bFq⟩ := q
    have Rc := Rc.call Rn Nk
    have Kp := Kp.trans Kc all0
    refine rc (st' := [.ref rFq]) rfl ?_
    refine s_areturn C X d5_62 rfl rfl rfl ?_ (FGH hG hS Rc C (own_EL hw))
    obtain ⟨sFt, e_sFt⟩ : ∃ z : Int32, z = sv5235 := ⟨_, rfl⟩
    obtain ⟨eFt, e_eFt⟩ : ∃ z : Int32, z = ev5234 := ⟨_, rfl⟩
    have js : sFt.toInt = 1 := by rw [e_sFt, e_sv5235]; decide
    have je : eFt.toInt = 2 := by rw [e_eFt, e_ev5234]; decide
    have jn := hvL
    have hvS : own_S xs sFt eFt := by
     refine ⟨⟨by omega, by omega, by omega⟩, fun i hi => ?_, fun i hi hj => ?_, ?_⟩
     ·have : i = 0 := by omega
      rcases this with rfl
      ·exact b4949
     ·omega
     ·have k1 : sFt.toNatClampNeg = 1 := own_tn (k := 1) js
      rw [k1, je]
      exact Or.inl ⟨by omega, by omega, b4981, b4981⟩
    have hvl : lFq.toInt = eFt.toInt - sFt.toInt := by rw [e_sFt, e_eFt]; exact hvle
    have hvR : own_T (sl xs sFt.toNatClampNeg lFq.toNatClampNeg) kFq zFq zsFq := by rw [e_sFt]; exact hvR
    exact hQ _ _ ⟨bFq, eFt, kFq, k_bFq, lFq, rFq, sFt, zFq, zsFq, rfl, hvS, hvl, hvR, Kp, Od, E_rFq, F_rFq_k, F_rFq_a, A_bFq⟩
 ·rw [hE] at X
  refine rc (st' := [.int i0]) rfl ?_
  refine s_if_eq 27 21 C X d5_18 (fun _ => ?_) (fun c => absurd (by decide : i0 = i0) c)
  refine s_aloadN 28 C X d5_27 rfl rfl ?_
  refine s_callV 31 [] [] 0 C X d5_28 (mW 34 rfl) (mW 35 rfl) (nF C (mW 37 rfl)) (mW 37 rfl) (mW 36 rfl) (mW 11 rfl) (mW 38 rfl) E_o4825 (rm_a20 l Z a0 hw cs o4825 bF kF k_bF zF zsF xs _ n0 X.sz S_cs E_o4825 F_o4825_a F_o4825_k Od A_bF hv_cs hvS) (lenOf pd___I rfl) rfl rfl rfl (fun T v hh X q => ?_)
  obtain ⟨rfl, Kc, Od⟩ := q
  have Rc := Rc.keep Kc so0
  have E_o4825 := E_o4825.keep Kc
  have F_o4825_a := F_o4825_a.keep Kc nin0
  have F_o4825_k := F_o4825_k.keep Kc nin0
  have A_bF := A_bF.keep Kc nin0
  have Kp := Kp.trans Kc all0
  refine rc (st' := [(.int (zF >>> (kF &&& 31)))]) rfl ?_
  refine rc (st' := [.int i2]) (by rw [own_lenN hvS hvL (L := i2) (by decide)]) ?_
  refine s_istoreN 32 C X (l' := #[rv o4825, iv i0, iv i2]) d5_31 rfl ?_
  refine s_iloadN 33 C X d5_32 rfl ?_
  refine s_iloadN 34 C X d5_33 rfl ?_
  refine s_icmp_le 56 37 C X d5_34 (fun c => absurd (by decide : i0 < i2) c) (fun _ => ?_)
  refine s_aloadN 38 C X d5_37 rfl rfl ?_
  refine s_iloadN 39 C X d5_38 rfl ?_
  refine s_iconst 40 C X d5_39 kc_iconst_1 ?_
  refine s_isub 41 C X d5_40 ?_
  refine rc (st' := [.int i1, .ref o4825]) (by rw [kf_13]) ?_
  obtain ⟨ix5449, e_ix5449⟩ : ∃ zz_ : Int32, zz_ = i1 := ⟨_, rfl⟩
  refine rc (st' := [.int ix5449, .ref o4825]) (by subst e_ix5449; rfl) ?_
  have hvx_ix5449 : own_ix xs ix5449 := by rw [e_ix5449]; exact ⟨by decide, by rw [hvL]; decide⟩
  refine s_callV 44 [.int ix5449] [] 0 C X d5_41 (mW 73 rfl) (mW 74 rfl) (nF C (mW 76 rfl)) (mW 76 rfl) (mW 75 rfl) (mW 11 rfl) (mW 77 rfl) E_o4825 (rm_a31 l Z a0 hw cs fm o4825 bF kF k_bF zF zsF xs ix5449 _ n0 X.sz S_cs S_fm S_ad S_hi S_lo E_o4825 F_o4825_a F_o4825_k A_bF Od hv_cs hv_fm hvS hvx_ix5449) (lenOf pd__I_C rfl) rfl rfl rfl (fun T v hh X q => ?_)
  obtain ⟨rfl, Kc, Od⟩ := q
  have Rc := Rc.keep Kc so0
  have E_o4825 := E_o4825.keep Kc
  have F_o4825_a := F_o4825_a.keep Kc nin0
  have F_o4825_k := F_o4825_k.keep Kc nin0
  have A_bF := A_bF.keep Kc nin0
  have Kp := Kp.trans Kc all0
  refine rc (st' := [(.int (xs.getD (ix5449).toNatClampNeg 0))]) rfl ?_
  refine rc (st' := [(.int (xs.getD 1 0))]) (by rw [show (xs.getD (ix5449).toNatClampNeg 0) = (xs.getD 1 0) from by rw [e_ix5449]; rfl]) ?_
  refine s_callS 47 [(.int (xs.getD 1 0))] [] 0 C X d5_44 (mW 93 rfl) (mW 94 rfl) (mW 32 rfl) (mW 95 rfl) (rm_isBlank l Z a0 hw ((xs.getD 1 0)) _ n0 X.sz) (lenOf pd__C_Z rfl) rfl rfl rfl (fun T v h15 X q => ?_)
  obtain ⟨⟨rfl, b5475⟩ | ⟨rfl, b5475⟩, hE⟩ := q
  ·rw [hE] at X
   refine rc (st' := [.int i1]) rfl ?_
   refine s_if_eq 56 50 C X d5_47 (fun c => absurd c (by decide)) (fun _ => ?_)
   refine s_iinc 53 C X (l' := #[rv o4825, iv i0, iv i1]) d5_50 kc_iconst_m1 rfl rfl ?_
   refine s_goto 32 C X d5_53 ?_
   refine s_iloadN 33 C X d5_32 rfl ?_
   refine s_iloadN 34 C X d5_33 rfl ?_
   refine s_icmp_le 56 37 C X d5_34 (fun c => absurd (by decide : i0 < i1) c) (fun _ => ?_)
   refine s_aloadN 38 C X d5_37 rfl rfl ?_
   refine s_iloadN 39 C X d5_38 rfl ?_
   refine s_iconst 40 C X d5_39 kc_iconst_1 ?_
   refine s_isub 41 C X d5_40 ?_
   refine rc (st' := [.int i0, .ref o4825]) (by rw [kf_14]) ?_
   obtain ⟨ix5478, e_ix5478⟩ : ∃ zz_ : Int32, zz_ = i0 := ⟨_, rfl⟩
   refine rc (st' := [.int ix5478, .ref o4825]) (by subst e_ix5478; rfl) ?_
   have hvx_ix5478 : own_ix xs ix5478 := by rw [e_ix5478]; exact ⟨by decide, by rw [hvL]; decide⟩
   refine s_callV 44 [.int ix5478] [] 0 C X d5_41 (mW 73 rfl) (mW 74 rfl) (nF C (mW 76 rfl)) (mW 76 rfl) (mW 75 rfl) (mW 11 rfl) (mW 77 rfl) E_o4825 (rm_a31 l Z a0 hw cs fm o4825 bF kF k_bF zF zsF xs ix5478 _ n0 X.sz S_cs S_fm S_ad S_hi S_lo E_o4825 F_o4825_a F_o4825_k A_bF Od hv_cs hv_fm hvS hvx_ix5478) (lenOf pd__I_C rfl) rfl rfl rfl (fun T v hh X q => ?_)
   obtain ⟨rfl, Kc, Od⟩ := q
   have Rc := Rc.keep Kc so0
   have E_o4825 := E_o4825.keep Kc
   have F_o4825_a := F_o4825_a.keep Kc nin0
   have F_o4825_k := F_o4825_k.keep Kc nin0
   have A_bF := A_bF.keep Kc nin0
   have Kp := Kp.trans Kc all0
   refine rc (st' := [(.int (xs.getD (ix5478).toNatClampNeg 0))]) rfl ?_
   refine rc (st' := [(.int (xs.getD 0 0))]) (by rw [show (xs.getD (ix5478).toNatClampNeg 0) = (xs.getD 0 0) from by rw [e_ix5478]; rfl]) ?_
   refine s_callS 47 [(.int (xs.getD 0 0))] [] 0 C X d5_44 (mW 93 rfl) (mW 94 rfl) (mW 32 rfl) (mW 95 rfl) (rm_isBlank l Z a0 hw ((xs.getD 0 0)) _ n0 X.sz) (lenOf pd__C_Z rfl) rfl rfl rfl (fun T v h17 X q => ?_)
   obtain ⟨⟨rfl, b5504⟩ | ⟨rfl, b5504⟩, hE⟩ := q
   ·rw [hE] at X
    exact absurd b5504 b4949
   ·rw [hE] at X
    refine rc (st' := [.int i0]) rfl ?_
    refine s_if_eq 56 50 C X d5_47 (fun _ => ?_) (fun c => absurd (by decide : i0 = i0) c)
    refine s_aloadN 57 C X d5_56 rfl rfl ?_
    refine s_iloadN 58 C X d5_57 rfl ?_
    refine s_iloadN 59 C X d5_58 rfl ?_
    obtain ⟨ev5506, e_ev5506⟩ : ∃ zz_ : Int32, zz_ = i1 := ⟨_, rfl⟩
    refine rc (st' := [.int ev5506, .int i0, .ref o4825]) (by subst e_ev5506; rfl) ?_
    obtain ⟨sv5507, e_sv5507⟩ : ∃ zz_ : Int32, zz_ = i0 := ⟨_, rfl⟩
    refine rc (st' := [.int ev5506, .int sv5507, .ref o4825]) (by subst e_sv5507; rfl) ?_
    have hvse : own_se xs sv5507 ev5506 := by rw [e_sv5507, e_ev5506]; exact ⟨by decide, by decide, by rw [hvL]; decide⟩
    refine s_hcallV 62 [.int sv5507, .int ev5506] [] 0 C X hS Rc.2 (own_EL hw) Rc.1.1 d5_59 (mW 45 rfl) (mW 46 rfl) (nF C (mW 48 rfl)) (mW 48 rfl) (mW 47 rfl) (mW 11 rfl) (mW 49 rfl) E_o4825 (rm_a50 l Z a0 hw cs fm o4825 bF kF k_bF zF zsF xs ev5506 sv5507 _ n0 X.sz S_cs S_fm S_ad S_hi S_lo E_o4825 F_o4825_a F_o4825_k A_bF Od hv_cs hv_fm hvS hvse) (lenOf pd__II_Ljava_lang_String_ rfl) rfl rfl rfl so0 (fun T v hh vm k1 C X hS Nk Rn q => ?_)
    obtain ⟨bFq, kFq, k_bFq, lFq, rFq, zFq, zsFq, rfl, hvle, hvR, Kc, Od, E_rFq, F_rFq_k, F_rFq_a, A_bFq⟩ := q
    have Rc := Rc.call Rn Nk
    have Kp := Kp.trans Kc all0
    refine rc (st' := [.ref rFq]) rfl ?_
    refine s_areturn C X d5_62 rfl rfl rfl ?_ (FGH hG hS Rc C (own_EL hw))
    obtain ⟨sFt, e_sFt⟩ : ∃ z : Int32, z = sv5507 := ⟨_, rfl⟩
    obtain ⟨eFt, e_eFt⟩ : ∃ z : Int32, z = ev5506 := ⟨_, rfl⟩
    have js : sFt.toInt = 0 := by rw [e_sFt, e_sv5507]; decide
    have je : eFt.toInt = 1 := by rw [e_eFt, e_ev5506]; decide
    have jn := hvL
    have hvS : own_S xs sFt eFt := by
     refine ⟨⟨by omega, by omega, by omega⟩, fun i hi => ?_, fun i hi hj => ?_, ?_⟩
     ·omega
     ·have : i = 1 := by omega
      rcases this with rfl
      ·exact b5475
     ·have k1 : sFt.toNatClampNeg = 0 := own_tn (k := 0) js
      rw [k1, je]
      exact Or.inl ⟨by omega, by omega, b4949, b4949⟩
    have hvl : lFq.toInt = eFt.toInt - sFt.toInt := by rw [e_sFt, e_eFt]; exact hvle
    have hvR : own_T (sl xs sFt.toNatClampNeg lFq.toNatClampNeg) kFq zFq zsFq := by rw [e_sFt]; exact hvR
    exact hQ _ _ ⟨bFq, eFt, kFq, k_bFq, lFq, rFq, sFt, zFq, zsFq, rfl, hvS, hvl, hvR, Kp, Od, E_rFq, F_rFq_k, F_rFq_a, A_bFq⟩
  ·rw [hE] at X
   refine rc (st' := [.int i0]) rfl ?_
   refine s_if_eq 56 50 C X d5_47 (fun _ => ?_) (fun c => absurd (by decide : i0 = i0) c)
   refine s_aloadN 57 C X d5_56 rfl rfl ?_
   refine s_iloadN 58 C X d5_57 rfl ?_
   refine s_iloadN 59 C X d5_58 rfl ?_
   obtain ⟨ev5717, e_ev5717⟩ : ∃ zz_ : Int32, zz_ = i2 := ⟨_, rfl⟩
   refine rc (st' := [.int ev5717, .int i0, .ref o4825]) (by subst e_ev5717; rfl) ?_
   obtain ⟨sv5718, e_sv5718⟩ : ∃ zz_ : Int32, zz_ = i0 := ⟨_, rfl⟩
   refine rc (st' := [.int ev5717, .int sv5718, .ref o4825]) (by subst e_sv5718; rfl) ?_
   have hvse : own_se xs sv5718 ev5717 := by rw [e_sv5718, e_ev5717]; exact ⟨by decide, by decide, by rw [hvL]; decide⟩
   refine s_hcallV 62 [.int sv5718, .int ev5717] [] 0 C X hS Rc.2 (own_EL hw) Rc.1.1 d5_59 (mW 45 rfl) (mW 46 rfl) (nF C (mW 48 rfl)) (mW 48 rfl) (mW 47 rfl) (mW 11 rfl) (mW 49 rfl) E_o4825 (rm_a50 l Z a0 hw cs fm o4825 bF kF k_bF zF zsF xs ev5717 sv5718 _ n0 X.sz S_cs S_fm S_ad S_hi S_lo E_o4825 F_o4825_a F_o4825_k A_bF Od hv_cs hv_fm hvS hvse) (lenOf pd__II_Ljava_lang_String_ rfl) rfl rfl rfl so0 (fun T v hh vm k1 C X hS Nk Rn q => ?_)
   obtain ⟨bFq, kFq, k_bFq, lFq, rFq, zFq, zsFq, rfl, hvle, hvR, Kc, Od, E_rFq, F_rFq_k, F_rFq_a, A_bFq⟩ := q
   have Rc := Rc.call Rn Nk
   have Kp := Kp.trans Kc all0
   refine rc (st' := [.ref rFq]) rfl ?_
   refine s_areturn C X d5_62 rfl rfl rfl ?_ (FGH hG hS Rc C (own_EL hw))
   obtain ⟨sFt, e_sFt⟩ : ∃ z : Int32, z = sv5718 := ⟨_, rfl⟩
   obtain ⟨eFt, e_eFt⟩ : ∃ z : Int32, z = ev5717 := ⟨_, rfl⟩
   have js : sFt.toInt = 0 := by rw [e_sFt, e_sv5718]; decide
   have je : eFt.toInt = 2 := by rw [e_eFt, e_ev5717]; decide
   have jn := hvL
   have hvS : own_S xs sFt eFt := by
    refine ⟨⟨by omega, by omega, by omega⟩, fun i hi => ?_, fun i hi hj => ?_, ?_⟩
    ·omega
    ·omega
    ·have k1 : sFt.toNatClampNeg = 0 := own_tn (k := 0) js
     rw [k1, je]
     exact Or.inl ⟨by omega, by omega, b4949, b5475⟩
   have hvl : lFq.toInt = eFt.toInt - sFt.toInt := by rw [e_sFt, e_eFt]; exact hvle
   have hvR : own_T (sl xs sFt.toNatClampNeg lFq.toNatClampNeg) kFq zFq zsFq := by rw [e_sFt]; exact hvR
   exact hQ _ _ ⟨bFq, eFt, kFq, k_bFq, lFq, rFq, sFt, zFq, zsFq, rfl, hvS, hvl, hvR, Kp, Od, E_rFq, F_rFq_k, F_rFq_a, A_bFq⟩
theorem rm_a82 (hw : Hw a0 Z) (yF : Int32) (o5929 : Addr) (k_o5929 : ClassId) (o5932 : Addr) (k_o5932 : ClassId) (h0 : Heap) (n0 : Nat) (Z0 : n0 ≤ h0.size) (A_o5929 : Arv Z h0 o5929 k_o5929 .char i1 [.int yF] (.int i0)) (A_o5932 : Arv Z h0 o5932 k_o5932 .byte i1 [.int i0] (.int i0)) (ne_o5929_o5932 : o5929 ≠ o5932) (g_o5932 : n0 ≤ o5932) :
  Met l Z (⟨cU, "compress", "([CI[BII)I"⟩ : MethodName) jdk_52_method_21_code 7 (some .int) (rM 0 0 0 0) [] #[.ref o5929, .int i0, .ref o5932, .int i0, .int i1] h0 n0 (fun v h => (v = some (.int i1) ∧ ¬ i255 < yF ∧ Arv Z h o5932 k_o5932 .byte i1 [(.int (bv yF))] (.int i0) ∧ Keep h0 h [o5932]) ∨ (v = some (.int i0) ∧ i255 < yF ∧ Arv Z h o5932 k_o5932 .byte i1 [.int i0] (.int i0) ∧ Keep h0 h [o5932])) := by
 refine Met.mkQ (tabs := tables_1) (a0 := a0) (ls0 := #[rv o5929, iv i0, rv o5932, iv i0, iv i1, un, un]) (plainFor_of_name pn_java_lang_StringUTF16) hw Z0 (fun m => by first | (simp [entryFrame, mkF, argsToLocals, Value.category]; done) | rfl) ?_
 intro p e s m below meth c T Q' G' hQ hG C X
 have Kp : Keep h0 h0 [o5932] := Keep.refl _ _
 refine s_iconst 1 C X d12_0 kc_iconst_0 ?_
 refine s_istore 3 C X (l' := #[rv o5929, iv i0, rv o5932, iv i0, iv i1, iv i0, un]) d12_1 rfl ?_
 refine s_iload 5 C X d12_3 rfl ?_
 refine s_iload 7 C X d12_5 rfl ?_
 refine s_icmp_ge 44 10 C X d12_7 (fun c => absurd (by decide : i0 < i1) c) (fun _ => ?_)
 refine s_aloadN 11 C X d12_10 rfl rfl ?_
 refine s_iloadN 12 C X d12_11 rfl ?_
 refine s_caload 13 C X d12_12 A_o5929 ⟨by decide, by decide⟩ (v := (.int yF)) rfl ?_
 refine s_istore 15 C X (l' := #[rv o5929, iv i0, rv o5932, iv i0, iv i1, iv i0, iv yF]) d12_13 rfl ?_
 refine s_iload 17 C X d12_15 rfl ?_
 refine s_sipush 20 C X d12_17 kc_sipush_255 ?_
 refine s_icmp_le 26 23 C X d12_20 (fun c20_5934 => ?_) (fun c20_5934 => ?_)
 ·have t_c20_5934 : ¬ ((255 : Int) < (yF).toInt) := fun q => c20_5934 (Int32.lt_iff_toInt_lt.mpr q)
  refine s_aloadN 27 C X d12_26 rfl rfl ?_
  refine s_iloadN 28 C X d12_27 rfl ?_
  refine s_iload 30 C X d12_28 rfl ?_
  refine s_i2b 31 C X d12_30 ?_
  refine s_bastore 32 0 C X d12_31 A_o5932 g_o5932 ⟨by decide, by decide⟩ rfl (Nat.le_of_ble_eq_true rfl) (fun T hh X W A_o5932 => ?_)
  have A_o5932 : Arv Z _ o5932 k_o5932 .byte i1 [(.int (nar .byte (yF).toInt8.toInt32))] (.int i0) := A_o5932
  have Kp := Kp.wr W (Or.inl (by simp))
  have A_o5932 : Arv Z _ o5932 k_o5932 .byte i1 [(.int (bv yF))] (.int i0) := A_o5932
  refine s_iinc 35 C X (l' := #[rv o5929, iv i1, rv o5932, iv i0, iv i1, iv i0, iv yF]) d12_32 kc_iconst_1 rfl rfl ?_
  refine s_iinc 38 C X (l' := #[rv o5929, iv i1, rv o5932, iv i1, iv i1, iv i0, iv yF]) d12_35 kc_iconst_1 rfl rfl ?_
  refine s_iinc 41 C X (l' := #[rv o5929, iv i1, rv o5932, iv i1, iv i1, iv i1, iv yF]) d12_38 kc_iconst_1 rfl rfl ?_
  refine s_goto 3 C X d12_41 ?_
  refine s_iload 5 C X d12_3 rfl ?_
  refine s_iload 7 C X d12_5 rfl ?_
  refine s_icmp_ge 44 10 C X d12_7 (fun _ => ?_) (fun c => absurd c (by decide))
  refine s_iload 46 C X d12_44 rfl ?_
  refine s_ireturn C X d12_46 rfl ?_ (FG hG (by decide) (by decide))
  exact hQ _ _ (Or.inl ⟨rfl, c20_5934, A_o5932, Kp⟩)
 refine s_iload 25 C X d12_23 rfl ?_
 refine s_ireturn C X d12_25 rfl ?_ (FG hG (by decide) (by decide))
 exact hQ _ _ (Or.inr ⟨rfl, c20_5934, A_o5932, Kp⟩)
theorem rm_a83 (hw : Hw a0 Z)  (h0 : Heap) (n0 : Nat) (Z0 : n0 ≤ h0.size)  :
  Met l Z (⟨cU, "newBytesLength", "(I)I"⟩ : MethodName) jdk_52_method_3_code 1 (some .int) (rM 0 0 0 0) [] #[.int i1] h0 n0 (fun v h => v = some (.int i2) ∧ Keep h0 h []) := by
 refine Met.mkQ (tabs := tables_1) (a0 := a0) (ls0 := #[iv i1]) (plainFor_of_name pn_java_lang_StringUTF16) hw Z0 (fun m => by first | (simp [entryFrame, mkF, argsToLocals, Value.category]; done) | rfl) ?_
 intro p e s m below meth c T Q' G' hQ hG C X
 have Kp : Keep h0 h0 [] := Keep.refl _ _
 refine s_iloadN 1 C X d29_0 rfl ?_
 refine s_if_ge 12 4 C X d29_1 (fun _ => ?_) (fun c => absurd c (by decide))
 refine s_iloadN 13 C X d29_12 rfl ?_
 refine s_ldcInt 15 C X d29_13 (mW 131 rfl) ?_
 refine s_icmp_lt 55 18 C X d29_15 (fun _ => ?_) (fun c => absurd (by decide : i1 < (1073741823 : Int32)) c)
 refine s_iloadN 56 C X d29_55 rfl ?_
 refine s_iconst 57 C X d29_56 kc_iconst_1 ?_
 refine s_ishl 58 C X d29_57 ?_
 refine rc (st' := [.int i2]) (by rw [kf_2]) ?_
 refine s_ireturn C X d29_58 rfl ?_ (FG hG (by decide) (by decide))
 exact hQ _ _ ⟨rfl, Kp⟩
theorem rm_a84 (hw : Hw a0 Z)  (h0 : Heap) (n0 : Nat) (Z0 : n0 ≤ h0.size)  :
  Met l Z (⟨cU, "newBytesFor", "(I)[B"⟩ : MethodName) jdk_52_method_2_code 1 (some (.array .byte)) (rM 1 1 2 12) [] #[.int i1] h0 n0 (fun v h => ∃ (k_o5942 : ClassId) (o5942 : Addr), v = some (.ref o5942) ∧ Keep h0 h [] ∧ Arv Z h o5942 k_o5942 .byte i2 [.int i0, .int i0] (.int i0) ∧ h0.size ≤ o5942 ∧ n0 ≤ o5942) := by
 refine Met.mkQ (tabs := tables_1) (a0 := a0) (ls0 := #[iv i1]) (plainFor_of_name pn_java_lang_StringUTF16) hw Z0 (fun m => by first | (simp [entryFrame, mkF, argsToLocals, Value.category]; done) | rfl) ?_
 intro p e s m below meth c T Q' G' hQ hG C X
 have Kp : Keep h0 h0 [] := Keep.refl _ _
 refine s_iloadN 1 C X d28_0 rfl ?_
 refine s_callS 4 [.int i1] [] 0 C X d28_1 (mW 128 rfl) (mW 129 rfl) (mW 62 rfl) (mW 130 rfl) (rm_a83 l Z a0 hw  _ n0 X.sz ) (lenOf pd__I_I rfl) rfl rfl rfl (fun T v hh X q => ?_)
 obtain ⟨rfl, Kc⟩ := q
 have Kp := Kp.trans Kc all0
 refine rc (st' := [.int i2]) rfl ?_
 refine s_newarray 6 2 C X d28_4 (mW 23 rfl) (by decide) (by decide) (fun T hh o5942 k_o5942 hb_o5942 X E A_o5942 g_o5942 => ?_)
 have sz_o5942 : h0.size ≤ o5942 := Nat.le_trans Kp.1 (Nat.le_of_eq hb_o5942)
 have Kp := Kp.ext E
 have A_o5942 : Arv Z _ o5942 k_o5942 .byte i2 [.int i0, .int i0] (.int i0) := A_o5942.pad (pad_rep [] _ 2)
 refine s_areturn C X d28_6 rfl rfl rfl ?_ (FG hG (by decide) (by decide))
 exact hQ _ _ ⟨k_o5942, o5942, rfl, Kp, A_o5942, sz_o5942, g_o5942⟩
theorem rm_a85 (hw : Hw a0 Z) (yF : Int32) (k_o5942 : ClassId) (o5942 : Addr) (h0 : Heap) (n0 : Nat) (Z0 : n0 ≤ h0.size) (Od : Old Z n0 h0) (S_ad : Sta Z Z.heap cU "$assertionsDisabled" "Z" (.int i1)) (S_hi : Sta Z Z.heap cU "HI_BYTE_SHIFT" "I" (.int i0)) (S_lo : Sta Z Z.heap cU "LO_BYTE_SHIFT" "I" (.int i8)) (A_o5942 : Arv Z h0 o5942 k_o5942 .byte i2 [.int i0, .int i0] (.int i0)) (g_o5942 : n0 ≤ o5942) :
  Met l Z (⟨cU, "putChar", "([BII)V"⟩ : MethodName) jdk_52_method_4_code 3 none (rM 0 0 0 0) [] #[.ref o5942, .int i0, .int yF] h0 n0 (fun v h => v = none ∧ Old Z n0 h ∧ Arv Z h o5942 k_o5942 .byte i2 [(.int (lo yF)), (.int (hi yF))] (.int i0) ∧ Keep h0 h [o5942]) := by
 refine Met.mkQ (tabs := tables_1) (a0 := a0) (ls0 := #[rv o5942, iv i0, iv yF]) (plainFor_of_name pn_java_lang_StringUTF16) hw Z0 (fun m => by first | (simp [entryFrame, mkF, argsToLocals, Value.category]; done) | rfl) ?_
 intro p e s m below meth c T Q' G' hQ hG C X
 have Kp : Keep h0 h0 [o5942] := Keep.refl _ _
 refine s_getstatic 3 C X (host := "") d30_0 (Or.inl (mW 135 rfl)) Via.refl (S_ad.ext Od.2) (fun T X => ?_)
 refine s_if_ne 28 6 C X d30_3 (fun _ => ?_) (fun c => absurd c (by decide))
 refine s_iloadN 29 C X d30_28 rfl ?_
 refine s_iconst 30 C X d30_29 kc_iconst_1 ?_
 refine s_ishl 31 C X d30_30 ?_
 refine rc (st' := [.int i0]) (by rw [kf_1]) ?_
 refine s_istoreN 32 C X (l' := #[rv o5942, iv i0, iv yF]) d30_31 rfl ?_
 refine s_aloadN 33 C X d30_32 rfl rfl ?_
 refine s_iloadN 34 C X d30_33 rfl ?_
 refine s_iinc 37 C X (l' := #[rv o5942, iv i1, iv yF]) d30_34 kc_iconst_1 rfl rfl ?_
 refine s_iloadN 38 C X d30_37 rfl ?_
 refine s_getstatic 41 C X (host := "") d30_38 (Or.inl (mW 136 rfl)) Via.refl (S_hi.ext Od.2) (fun T X => ?_)
 refine s_ishr 42 C X d30_41 ?_
 refine s_i2b 43 C X d30_42 ?_
 refine s_bastore 44 0 C X d30_43 A_o5942 g_o5942 ⟨by decide, by decide⟩ rfl (Nat.le_of_ble_eq_true rfl) (fun T hh X W A_o5942 => ?_)
 have A_o5942 : Arv Z _ o5942 k_o5942 .byte i2 [(.int (nar .byte ((yF >>> (i0 &&& 31))).toInt8.toInt32)), .int i0] (.int i0) := A_o5942
 have Od := Od.wr W g_o5942
 have Kp := Kp.wr W (Or.inl (by simp))
 have A_o5942 : Arv Z _ o5942 k_o5942 .byte i2 [(.int (lo yF)), .int i0] (.int i0) := A_o5942
 refine s_aloadN 45 C X d30_44 rfl rfl ?_
 refine s_iloadN 46 C X d30_45 rfl ?_
 refine s_iloadN 47 C X d30_46 rfl ?_
 refine s_getstatic 50 C X (host := "") d30_47 (Or.inl (mW 137 rfl)) Via.refl (S_lo.ext Od.2) (fun T X => ?_)
 refine s_ishr 51 C X d30_50 ?_
 refine s_i2b 52 C X d30_51 ?_
 refine s_bastore 53 1 C X d30_52 A_o5942 g_o5942 ⟨by decide, by decide⟩ rfl (Nat.le_of_ble_eq_true rfl) (fun T hh X W A_o5942 => ?_)
 have A_o5942 : Arv Z _ o5942 k_o5942 .byte i2 [(.int (lo yF)), (.int (nar .byte ((yF >>> (i8 &&& 31))).toInt8.toInt32))] (.int i0) := A_o5942
 have Od := Od.wr W g_o5942
 have Kp := Kp.wr W (Or.inl (by simp))
 have A_o5942 : Arv Z _ o5942 k_o5942 .byte i2 [(.int (lo yF)), (.int (hi yF))] (.int i0) := A_o5942
 refine s_return C X d30_53 rfl ?_ (FG hG (by decide) (by decide))
 exact hQ _ _ ⟨rfl, Od, A_o5942, Kp⟩
theorem rm_a86 (hw : Hw a0 Z) (yF : Int32) (o5929 : Addr) (k_o5929 : ClassId) (h0 : Heap) (n0 : Nat) (Z0 : n0 ≤ h0.size) (Od : Old Z n0 h0) (S_ad : Sta Z Z.heap cU "$assertionsDisabled" "Z" (.int i1)) (S_hi : Sta Z Z.heap cU "HI_BYTE_SHIFT" "I" (.int i0)) (S_lo : Sta Z Z.heap cU "LO_BYTE_SHIFT" "I" (.int i8)) (A_o5929 : Arv Z h0 o5929 k_o5929 .char i1 [.int yF] (.int i0)) :
  Met l Z (⟨cU, "toBytes", "([CII)[B"⟩ : MethodName) jdk_52_method_14_code 5 (some (.array .byte)) (rM 2 1 2 24) [] #[.ref o5929, .int i0, .int i1] h0 n0 (fun v h => ∃ (k_o5942 : ClassId) (o5942 : Addr), v = some (.ref o5942) ∧ Keep h0 h [] ∧ Old Z n0 h ∧ Arv Z h o5942 k_o5942 .byte i2 [(.int (lo yF)), (.int (hi yF))] (.int i0) ∧ h0.size ≤ o5942 ∧ n0 ≤ o5942) := by
 refine Met.mkQ (tabs := tables_1) (a0 := a0) (ls0 := #[rv o5929, iv i0, iv i1, un, un]) (plainFor_of_name pn_java_lang_StringUTF16) hw Z0 (fun m => by first | (simp [entryFrame, mkF, argsToLocals, Value.category]; done) | rfl) ?_
 intro p e s m below meth c T Q' G' hQ hG C X
 have Kp : Keep h0 h0 [] := Keep.refl _ _
 refine s_iloadN 1 C X d27_0 rfl ?_
 refine s_callS 4 [.int i1] [] 0 C X d27_1 (mW 125 rfl) (mW 126 rfl) (mW 62 rfl) (mW 127 rfl) (rm_a84 l Z a0 hw  _ n0 X.sz ) (lenOf pd__I__B rfl) rfl rfl rfl (fun T v hh X q => ?_)
 obtain ⟨k_o5942, o5942, rfl, Kc, A_o5942, sz_o5942', g_o5942⟩ := q
 have sz_o5942 : h0.size ≤ o5942 := Nat.le_trans Kp.1 sz_o5942'
 have Od := Od.keep Kc all0
 have A_o5929 := A_o5929.keep Kc nin0
 have Kp := Kp.trans Kc all0
 refine rc (st' := [.ref o5942]) rfl ?_
 refine s_astoreN 5 C X (l' := #[rv o5929, iv i0, iv i1, rv o5942, un]) d27_4 rfl rfl ?_
 refine s_iconst 6 C X d27_5 kc_iconst_0 ?_
 refine s_istore 8 C X (l' := #[rv o5929, iv i0, iv i1, rv o5942, iv i0]) d27_6 rfl ?_
 refine s_iload 10 C X d27_8 rfl ?_
 refine s_iloadN 11 C X d27_10 rfl ?_
 refine s_icmp_ge 32 14 C X d27_11 (fun c => absurd (by decide : i0 < i1) c) (fun _ => ?_)
 refine s_aloadN 15 C X d27_14 rfl rfl ?_
 refine s_iload 17 C X d27_15 rfl ?_
 refine s_aloadN 18 C X d27_17 rfl rfl ?_
 refine s_iloadN 19 C X d27_18 rfl ?_
 refine s_caload 20 C X d27_19 A_o5929 ⟨by decide, by decide⟩ (v := (.int yF)) rfl ?_
 refine s_callS 23 [.ref o5942, .int i0, .int yF] [] 0 C X d27_20 (mW 132 rfl) (mW 133 rfl) (mW 62 rfl) (mW 134 rfl) (rm_a85 l Z a0 hw yF k_o5942 o5942 _ n0 X.sz Od S_ad S_hi S_lo A_o5942 g_o5942) (lenOf pd___BII_V rfl) rfl rfl rfl (fun T v hh X q => ?_)
 obtain ⟨rfl, Od, A_o5942, Kc⟩ := q
 have Kp := Kp.trans Kc (allS (Or.inr sz_o5942) all0)
 refine rc (st' := []) rfl ?_
 refine s_iinc 26 C X (l' := #[rv o5929, iv i1, iv i1, rv o5942, iv i0]) d27_23 kc_iconst_1 rfl rfl ?_
 refine s_iinc 29 C X (l' := #[rv o5929, iv i1, iv i1, rv o5942, iv i1]) d27_26 kc_iconst_1 rfl rfl ?_
 refine s_goto 8 C X d27_29 ?_
 refine s_iload 10 C X d27_8 rfl ?_
 refine s_iloadN 11 C X d27_10 rfl ?_
 refine s_icmp_ge 32 14 C X d27_11 (fun _ => ?_) (fun c => absurd c (by decide))
 refine s_aloadN 33 C X d27_32 rfl rfl ?_
 refine s_areturn C X d27_33 rfl rfl rfl ?_ (FG hG (by decide) (by decide))
 exact hQ _ _ ⟨k_o5942, o5942, rfl, Kp, Od, A_o5942, sz_o5942, g_o5942⟩
theorem rm_a87 (hw : Hw a0 Z) (yF : Int32) (k_o5942 : ClassId) (o5942 : Addr) (h0 : Heap) (n0 : Nat) (Z0 : n0 ≤ h0.size) (S_ad : Sta Z Z.heap cU "$assertionsDisabled" "Z" (.int i1)) (S_hi : Sta Z Z.heap cU "HI_BYTE_SHIFT" "I" (.int i0)) (S_lo : Sta Z Z.heap cU "LO_BYTE_SHIFT" "I" (.int i8)) (Od : Old Z n0 h0) (A_o5942 : Arv Z h0 o5942 k_o5942 .byte i2 [(.int (lo yF)), (.int (hi yF))] (.int i0)) (hvU : own_U yF) :
  Met l Z (⟨cU, "getChar", "([BI)C"⟩ : MethodName) jdk_52_method_5_code 2 (some .char) (rM 0 0 0 0) [] #[.ref o5942, .int i0] h0 n0 (fun v h => v = some (.int yF) ∧ Old Z n0 h ∧ Keep h0 h []) := by
 refine Met.mkQ (tabs := tables_1) (a0 := a0) (ls0 := #[rv o5942, iv i0]) (plainFor_of_name pn_java_lang_StringUTF16) hw Z0 (fun m => by first | (simp [entryFrame, mkF, argsToLocals, Value.category]; done) | rfl) ?_
 intro p e s m below meth c T Q' G' hQ hG C X
 have Kp : Keep h0 h0 [] := Keep.refl _ _
 refine s_getstatic 3 C X (host := "") d31_0 (Or.inl (mW 135 rfl)) Via.refl (S_ad.ext Od.2) (fun T X => ?_)
 refine s_if_ne 28 6 C X d31_3 (fun _ => ?_) (fun c => absurd c (by decide))
 refine s_iloadN 29 C X d31_28 rfl ?_
 refine s_iconst 30 C X d31_29 kc_iconst_1 ?_
 refine s_ishl 31 C X d31_30 ?_
 refine rc (st' := [.int i0]) (by rw [kf_1]) ?_
 refine s_istoreN 32 C X (l' := #[rv o5942, iv i0]) d31_31 rfl ?_
 refine s_aloadN 33 C X d31_32 rfl rfl ?_
 refine s_iloadN 34 C X d31_33 rfl ?_
 refine s_iinc 37 C X (l' := #[rv o5942, iv i1]) d31_34 kc_iconst_1 rfl rfl ?_
 refine s_baload 38 C X d31_37 A_o5942 ⟨by decide, by decide⟩ (v := (.int (lo yF))) rfl ?_
 refine s_sipush 41 C X d31_38 kc_sipush_255 ?_
 refine s_iand 42 C X d31_41 ?_
 refine s_getstatic 45 C X (host := "") d31_42 (Or.inl (mW 136 rfl)) Via.refl (S_hi.ext Od.2) (fun T X => ?_)
 refine s_ishl 46 C X d31_45 ?_
 refine s_aloadN 47 C X d31_46 rfl rfl ?_
 refine s_iloadN 48 C X d31_47 rfl ?_
 refine s_baload 49 C X d31_48 A_o5942 ⟨by decide, by decide⟩ (v := (.int (hi yF))) rfl ?_
 refine s_sipush 52 C X d31_49 kc_sipush_255 ?_
 refine s_iand 53 C X d31_52 ?_
 refine s_getstatic 56 C X (host := "") d31_53 (Or.inl (mW 137 rfl)) Via.refl (S_lo.ext Od.2) (fun T X => ?_)
 refine s_ishl 57 C X d31_56 ?_
 refine s_ior 58 C X d31_57 ?_
 refine s_i2c 59 C X d31_58 ?_
 refine rc (st' := [.int yF]) (by rw [show (((((lo yF) &&& i255) <<< (i0 &&& 31)) ||| (((hi yF) &&& i255) <<< (i8 &&& 31)))).toUInt32.toUInt16.toUInt32.toInt32 = yF from own_get hvU]) ?_
 refine s_nreturn C X d31_59 rfl (by simp) (own_nU hvU) ?_ (FG hG (by decide) (by decide))
 exact hQ _ _ ⟨rfl, Od, Kp⟩
theorem rm_a88 (hw : Hw a0 Z) (yF : Int32) (o5929 : Addr) (k_o5929 : ClassId) (h0 : Heap) (n0 : Nat) (Z0 : n0 ≤ h0.size) (Od : Old Z n0 h0) (S_ad : Sta Z Z.heap cU "$assertionsDisabled" "Z" (.int i1)) (S_hi : Sta Z Z.heap cU "HI_BYTE_SHIFT" "I" (.int i0)) (S_lo : Sta Z Z.heap cU "LO_BYTE_SHIFT" "I" (.int i8)) (A_o5929 : Arv Z h0 o5929 k_o5929 .char i1 [.int yF] (.int i0)) (hvU : own_U yF) :
  Met l Z (⟨cU, "compress", "([CII)[B"⟩ : MethodName) jdk_52_method_16_code 6 (some (.array .byte)) (rM 3 2 3 40) [] #[.ref o5929, .int i0, .int i1] h0 n0 (fun v h => (∃ (bFc : Addr) (k_bFc : ClassId), v = some (.ref bFc) ∧ own_B yF ∧ Old Z n0 h ∧ Keep h0 h [] ∧ Arv Z h bFc k_bFc .byte i1 [(.int (bv yF))] (.int i0)) ∨ (∃ (bFc : Addr) (k_bFc : ClassId), v = some (.ref bFc) ∧ Keep h0 h [] ∧ Old Z n0 h ∧ Arv Z h bFc k_bFc .byte i2 [(.int (lo yF)), (.int (hi yF))] (.int i0))) := by
 refine Met.mkQ (tabs := tables_1) (a0 := a0) (ls0 := #[rv o5929, iv i0, iv i1, un, un, un]) (plainFor_of_name pn_java_lang_StringUTF16) hw Z0 (fun m => by first | (simp [entryFrame, mkF, argsToLocals, Value.category]; done) | rfl) ?_
 intro p e s m below meth c T Q' G' hQ hG C X
 have Kp : Keep h0 h0 [] := Keep.refl _ _
 refine s_iloadN 1 C X d11_0 rfl ?_
 refine s_newarray 3 1 C X d11_1 (mW 23 rfl) (by decide) (by decide) (fun T hh o5932 k_o5932 hb_o5932 X E A_o5932 g_o5932 => ?_)
 have ne_o5929_o5932 : o5929 ≠ o5932 := Nat.ne_of_lt (Nat.lt_of_lt_of_le A_o5929.lt (Nat.le_of_eq hb_o5932))
 have sz_o5932 : h0.size ≤ o5932 := Nat.le_trans Kp.1 (Nat.le_of_eq hb_o5932)
 have Od := Od.ext E
 have A_o5929 := A_o5929.ext E
 have Kp := Kp.ext E
 have A_o5932 : Arv Z _ o5932 k_o5932 .byte i1 [.int i0] (.int i0) := A_o5932.pad (pad_rep [] _ 1)
 refine s_astoreN 4 C X (l' := #[rv o5929, iv i0, iv i1, rv o5932, un, un]) d11_3 rfl rfl ?_
 refine s_aloadN 5 C X d11_4 rfl rfl ?_
 refine s_iloadN 6 C X d11_5 rfl ?_
 refine s_aloadN 7 C X d11_6 rfl rfl ?_
 refine s_iconst 8 C X d11_7 kc_iconst_0 ?_
 refine s_iloadN 9 C X d11_8 rfl ?_
 refine s_callS 12 [.ref o5929, .int i0, .ref o5932, .int i0, .int i1] [] 0 C X d11_9 (mW 64 rfl) (mW 65 rfl) (mW 62 rfl) (mW 66 rfl) (rm_a82 l Z a0 hw yF o5929 k_o5929 o5932 k_o5932 _ n0 X.sz A_o5929 A_o5932 ne_o5929_o5932 g_o5932) (lenOf pd___CI_BII_I rfl) rfl rfl rfl (fun T v hh X q => ?_)
 obtain ⟨rfl, c20_5934, A_o5932, Kc⟩ | ⟨rfl, c20_5934, A_o5932, Kc⟩ := q
 ·have Od := Od.keep Kc (allS g_o5932 all0)
  have Kp := Kp.trans Kc (allS (Or.inr sz_o5932) all0)
  refine rc (st' := [.int i1]) rfl ?_
  refine s_istore 14 C X (l' := #[rv o5929, iv i0, iv i1, rv o5932, iv i1, un]) d11_12 rfl ?_
  refine s_iload 16 C X d11_14 rfl ?_
  refine s_iloadN 17 C X d11_16 rfl ?_
  refine s_icmp_eq 57 20 C X d11_17 (fun _ => ?_) (fun c => absurd (by decide : i1 = i1) c)
  refine s_aloadN 58 C X d11_57 rfl rfl ?_
  refine s_areturn C X d11_58 rfl rfl rfl ?_ (FG hG (by decide) (by decide))
  obtain ⟨bFc, e_bFc⟩ : ∃ z : Addr, z = o5932 := ⟨_, rfl⟩
  obtain ⟨k_bFc, e_k⟩ : ∃ z : ClassId, z = k_o5932 := ⟨_, rfl⟩
  show Q' (some (.ref o5932)) _
  rw [← e_bFc]
  have A_bFc : Arv Z hh bFc k_bFc .byte i1 [(.int (bv yF))] (.int i0) := by rw [e_bFc, e_k]; exact A_o5932
  have hvB0 : own_B yF := own_BB hvU c20_5934
  exact hQ _ _ (Or.inl ⟨bFc, k_bFc, rfl, hvB0, Od, Kp, A_bFc⟩)
 ·have Od := Od.keep Kc (allS g_o5932 all0)
  have A_o5929 := A_o5929.keep Kc (ninS ne_o5929_o5932 nin0)
  have Kp := Kp.trans Kc (allS (Or.inr sz_o5932) all0)
  refine rc (st' := [.int i0]) rfl ?_
  refine s_istore 14 C X (l' := #[rv o5929, iv i0, iv i1, rv o5932, iv i0, un]) d11_12 rfl ?_
  refine s_iload 16 C X d11_14 rfl ?_
  refine s_iloadN 17 C X d11_16 rfl ?_
  refine s_icmp_eq 57 20 C X d11_17 (fun c => absurd c (by decide)) (fun _ => ?_)
  refine s_aloadN 21 C X d11_20 rfl rfl ?_
  refine s_iloadN 22 C X d11_21 rfl ?_
  refine s_iloadN 23 C X d11_22 rfl ?_
  refine s_callS 26 [.ref o5929, .int i0, .int i1] [] 0 C X d11_23 (mW 122 rfl) (mW 123 rfl) (mW 62 rfl) (mW 124 rfl) (rm_a86 l Z a0 hw yF o5929 k_o5929 _ n0 X.sz Od S_ad S_hi S_lo A_o5929) (lenOf pd___CII__B rfl) rfl rfl rfl (fun T v hh X q => ?_)
  obtain ⟨k_o5942, o5942, rfl, Kc, Od, A_o5942, sz_o5942', g_o5942⟩ := q
  have Kp := Kp.trans Kc all0
  refine rc (st' := [.ref o5942]) rfl ?_
  refine s_astore 28 C X (l' := #[rv o5929, iv i0, iv i1, rv o5932, iv i0, rv o5942]) d11_26 rfl rfl ?_
  refine s_aload 30 C X d11_28 rfl rfl ?_
  refine s_iload 32 C X d11_30 rfl ?_
  refine s_callS 35 [.ref o5942, .int i0] [] 0 C X d11_32 (mW 138 rfl) (mW 139 rfl) (mW 62 rfl) (mW 140 rfl) (rm_a87 l Z a0 hw yF k_o5942 o5942 _ n0 X.sz S_ad S_hi S_lo Od A_o5942 hvU) (lenOf pd___BI_C rfl) rfl rfl rfl (fun T v hh X q => ?_)
  obtain ⟨rfl, Od, Kc⟩ := q
  have Kp := Kp.trans Kc all0
  have A_o5942 := A_o5942.keep Kc nin0
  refine rc (st' := [.int yF]) rfl ?_
  refine s_sipush 38 C X d11_35 kc_sipush_255 ?_
  refine s_icmp_gt 54 41 C X d11_38 (fun c38_5951 => ?_) (fun c => absurd c20_5934 c)
  refine s_aload 56 C X d11_54 rfl rfl ?_
  refine s_areturn C X d11_56 rfl rfl rfl ?_ (FG hG (by decide) (by decide))
  obtain ⟨bFc, e_bFc⟩ : ∃ z : Addr, z = o5942 := ⟨_, rfl⟩
  obtain ⟨k_bFc, e_k⟩ : ∃ z : ClassId, z = k_o5942 := ⟨_, rfl⟩
  show Q' (some (.ref o5942)) _
  rw [← e_bFc]
  have A_bFc : Arv Z hh bFc k_bFc .byte i2 [(.int (lo yF)), (.int (hi yF))] (.int i0) := by rw [e_bFc, e_k]; exact A_o5942
  exact hQ _ _ (Or.inr ⟨bFc, k_bFc, rfl, Kp, Od, A_bFc⟩)
theorem rm_a89 (hw : Hw a0 Z) (yF : Int32) (bFc : Addr) (k_bFc : ClassId) (h0 : Heap) (n0 : Nat) (Z0 : n0 ≤ h0.size) (A_bFc : Arv Z h0 bFc k_bFc .byte i1 [(.int (bv yF))] (.int i0)) :
  Met l Z (⟨cU, "coderFromArrayLen", "([BI)B"⟩ : MethodName) jdk_52_method_15_code 2 (some .byte) (rM 0 0 0 0) [] #[.ref bFc, .int i1] h0 n0 (fun v h => v = some (.int i0) ∧ Keep h0 h []) := by
 refine Met.mkQ (tabs := tables_1) (a0 := a0) (ls0 := #[rv bFc, iv i1]) (plainFor_of_name pn_java_lang_StringUTF16) hw Z0 (fun m => by first | (simp [entryFrame, mkF, argsToLocals, Value.category]; done) | rfl) ?_
 intro p e s m below meth c T Q' G' hQ hG C X
 have Kp : Keep h0 h0 [] := Keep.refl _ _
 refine s_iloadN 1 C X d13_0 rfl ?_
 refine s_aloadN 2 C X d13_1 rfl rfl ?_
 refine s_arraylength 3 C X d13_2 A_bFc ?_
 refine s_isub 4 C X d13_3 ?_
 refine rc (st' := [.int i0]) (by rw [kf_14]) ?_
 refine s_bipush 6 C X d13_4 kc_bipush_31 ?_
 refine s_iushr 7 C X d13_6 ?_
 refine rc (st' := [.int i0]) (by rw [kf_6]) ?_
 refine s_i2b 8 C X d13_7 ?_
 refine rc (st' := [.int i0]) (by rw [kf_7]) ?_
 refine s_nreturn C X d13_8 rfl (by simp) rfl ?_ (FG hG (by decide) (by decide))
 exact hQ _ _ ⟨rfl, Kp⟩
theorem rm_a90 (hw : Hw a0 Z) (yF : Int32) (bFc : Addr) (k_bFc : ClassId) (h0 : Heap) (n0 : Nat) (Z0 : n0 ≤ h0.size) (A_bFc : Arv Z h0 bFc k_bFc .byte i2 [(.int (lo yF)), (.int (hi yF))] (.int i0)) :
  Met l Z (⟨cU, "coderFromArrayLen", "([BI)B"⟩ : MethodName) jdk_52_method_15_code 2 (some .byte) (rM 0 0 0 0) [] #[.ref bFc, .int i1] h0 n0 (fun v h => v = some (.int i1) ∧ Keep h0 h []) := by
 refine Met.mkQ (tabs := tables_1) (a0 := a0) (ls0 := #[rv bFc, iv i1]) (plainFor_of_name pn_java_lang_StringUTF16) hw Z0 (fun m => by first | (simp [entryFrame, mkF, argsToLocals, Value.category]; done) | rfl) ?_
 intro p e s m below meth c T Q' G' hQ hG C X
 have Kp : Keep h0 h0 [] := Keep.refl _ _
 refine s_iloadN 1 C X d13_0 rfl ?_
 refine s_aloadN 2 C X d13_1 rfl rfl ?_
 refine s_arraylength 3 C X d13_2 A_bFc ?_
 refine s_isub 4 C X d13_3 ?_
 refine rc (st' := [.int im1]) (by rw [kf_21]) ?_
 refine s_bipush 6 C X d13_4 kc_bipush_31 ?_
 refine s_iushr 7 C X d13_6 ?_
 refine rc (st' := [.int i1]) (by rw [kf_22]) ?_
 refine s_i2b 8 C X d13_7 ?_
 refine rc (st' := [.int i1]) (by rw [kf_10]) ?_
 refine s_nreturn C X d13_8 rfl (by simp) rfl ?_ (FG hG (by decide) (by decide))
 exact hQ _ _ ⟨rfl, Kp⟩
theorem rm_a91 (hw : Hw a0 Z) (cs : Int32) (yF : Int32) (o5928 : Addr) (o5929 : Addr) (k_o5929 : ClassId) (h0 : Heap) (n0 : Nat) (Z0 : n0 ≤ h0.size) (Od : Old Z n0 h0) (S_cs : Sta Z Z.heap cS cC "Z" (.int cs)) (S_ad : Sta Z Z.heap cU "$assertionsDisabled" "Z" (.int i1)) (S_hi : Sta Z Z.heap cU "HI_BYTE_SHIFT" "I" (.int i0)) (S_lo : Sta Z Z.heap cU "LO_BYTE_SHIFT" "I" (.int i8)) (E_o5928 : Exa Z h0 o5928 cS) (F_o5928_a : Fld Z h0 o5928 cS "value" "[B" .null) (F_o5928_k : Fld Z h0 o5928 cS "coder" "B" (.int i0)) (A_o5929 : Arv Z h0 o5929 k_o5929 .char i1 [.int yF] (.int i0)) (hv_cs : ¬ cs = i0) (hvU : own_U yF) (g_o5928 : n0 ≤ o5928) (ne_o5928_o5929 : o5928 ≠ o5929) :
  MetH l Z EL1 [o5928] (⟨cS, "<init>", "([CIILjava/lang/Void;)V"⟩ : MethodName) jdk_42_method_149_code 6 none (rM 4 2 3 57) [] #[.ref o5928, .ref o5929, .int i0, .int i1, .null] h0 n0 (fun v h => ∃ (bF : Addr) (kF : Int32) (k_bF : ClassId) (zF : Int32) (zsF : List Int32), v = none ∧ own_T [yF] kF zF zsF ∧ Exa Z h o5928 cS ∧ Fld Z h o5928 cS "value" "[B" (.ref bF) ∧ Fld Z h o5928 cS "coder" "B" (.int kF) ∧ Keep h0 h [o5928] ∧ Old Z n0 h ∧ Arv Z h bF k_bF .byte zF (Y zsF) (.int i0)) := by
 refine MetH.mkQ (tabs := tables_1) (a0 := a0) (ls0 := #[rv o5928, rv o5929, iv i0, iv i1, .val .null, un]) (plainFor_of_name pn_java_lang_String) hw Z0 (fun m => by first | (simp [entryFrame, mkF, argsToLocals, Value.category]; done) | rfl) ?_
 intro p e s m below meth c T Q' G' vm k1 hQ hG C X hS Rc hso
 have Kp : Keep h0 h0 [o5928] := Keep.refl _ _
 have H_o5928 : Safe Z EL1 vm h0 o5928 := hso _ (by simp)
 refine s_aloadN 1 C X d3_0 rfl rfl ?_
 refine s_objInit 4 C X d3_1 (mW 19 rfl) (mW 20 rfl) (mW 21 rfl) rfl (W := 0) rfl (by decide) (fun T X => ?_)
 refine s_iloadN 5 C X d3_4 rfl ?_
 refine s_if_ne 27 8 C X d3_5 (fun _ => ?_) (fun c => absurd c (by decide))
 refine s_getstatic 30 C X (host := "") d3_27 (Or.inl (mW 44 rfl)) Via.refl (S_cs.ext Od.2) (fun T X => ?_)
 refine s_if_eq 58 33 C X d3_30 (fun c => absurd c hv_cs) (fun c30_5931 => ?_)
 refine s_aloadN 34 C X d3_33 rfl rfl ?_
 refine s_iloadN 35 C X d3_34 rfl ?_
 refine s_iloadN 36 C X d3_35 rfl ?_
 refine s_callS 39 [.ref o5929, .int i0, .int i1] [] 0 C X d3_36 (mW 60 rfl) (mW 61 rfl) (mW 62 rfl) (mW 63 rfl) (rm_a88 l Z a0 hw yF o5929 k_o5929 _ n0 X.sz Od S_ad S_hi S_lo A_o5929 hvU) (lenOf pd___CII__B rfl) rfl rfl rfl (fun T v hh X q => ?_)
 obtain ⟨bFc, k_bFc, rfl, hvB0, Od, Kc, A_bFc⟩ | ⟨bFc, k_bFc, rfl, Kc, Od, A_bFc⟩ := q
 ·have H_o5928 := Safe.keep Kc so0 Rc.1.1 H_o5928
  have Rc := Rc.keep Kc so0
  have E_o5928 := E_o5928.keep Kc
  have F_o5928_a := F_o5928_a.keep Kc nin0
  have F_o5928_k := F_o5928_k.keep Kc nin0
  have Kp := Kp.trans Kc all0
  refine rc (st' := [.ref bFc]) rfl ?_
  refine s_astore 41 C X (l' := #[rv o5928, rv o5929, iv i0, iv i1, .val .null, rv bFc]) d3_39 rfl rfl ?_
  refine s_aloadN 42 C X d3_41 rfl rfl ?_
  refine s_aload 44 C X d3_42 rfl rfl ?_
  refine s_iloadN 45 C X d3_44 rfl ?_
  refine s_callS 48 [.ref bFc, .int i1] [.ref o5928] 1 C X d3_45 (mW 67 rfl) (mW 68 rfl) (mW 62 rfl) (mW 69 rfl) (rm_a89 l Z a0 hw yF bFc k_bFc _ n0 X.sz A_bFc) (lenOf pd___BI_B rfl) rfl rfl rfl (fun T v hh X q => ?_)
  obtain ⟨rfl, Kc⟩ := q
  have H_o5928 := Safe.keep Kc so0 Rc.1.1 H_o5928
  have Rc := Rc.keep Kc so0
  have E_o5928 := E_o5928.keep Kc
  have F_o5928_a := F_o5928_a.keep Kc nin0
  have F_o5928_k := F_o5928_k.keep Kc nin0
  have Kp := Kp.trans Kc all0
  have Od := Od.keep Kc all0
  have A_bFc := A_bFc.keep Kc nin0
  refine rc (st' := [.int i0, .ref o5928]) rfl ?_
  refine s_putfieldN 51 C X d3_48 (mW 29 rfl) Via.refl F_o5928_k E_o5928 (Or.inr ⟨(mW 25 rfl), rfl, rfl⟩) (mW 10 rfl) (ty := .byte) (by decide) rfl rfl g_o5928 (fun T hh X W => ?_)
  have ne_bFc_o5928 : bFc ≠ o5928 := own_aen A_bFc E_o5928 (hw _ (mW 10 rfl))
  have Sf : Safe Z EL1 vm _ o5928 := H_o5928
  have H_o5928 := Safe.wr W Sf Rc.1.1 H_o5928
  have Rc := Rc.wr W Sf
  have E_o5928 := E_o5928.wr W
  have F_o5928_a := oth F_o5928_a W (Or.inr (hw _ (mW 24 rfl))) (Or.inr (hw _ (mW 25 rfl))) (by decide)
  have F_o5928_k := F_o5928_k.same W
  have Kp := Kp.wr W (Or.inl (by simp))
  have Od := Od.wr W g_o5928
  have A_bFc := A_bFc.other W ne_bFc_o5928
  refine s_aloadN 52 C X d3_51 rfl rfl ?_
  refine s_aload 54 C X d3_52 rfl rfl ?_
  refine s_putfield 57 C X (host := "") d3_54 (Or.inl (mW 28 rfl)) Via.refl F_o5928_a E_o5928 (Or.inr ⟨(mW 24 rfl), rfl, rfl⟩) (mW 10 rfl) (ty := (.array .byte)) (by decide) rfl rfl g_o5928 (fun T hh X W => ?_)
  have Sf : Safe Z EL1 vm _ o5928 := H_o5928
  have Rc := Rc.wr W Sf
  have E_o5928 := E_o5928.wr W
  have F_o5928_a := F_o5928_a.same W
  have F_o5928_k := oth F_o5928_k W (Or.inr (hw _ (mW 25 rfl))) (Or.inr (hw _ (mW 24 rfl))) (by decide)
  have Kp := Kp.wr W (Or.inl (by simp))
  have Od := Od.wr W g_o5928
  have A_bFc := A_bFc.other W ne_bFc_o5928
  refine s_return C X d3_57 rfl ?_ (FGH hG hS Rc C (own_EL hw))
  obtain ⟨bF, e_bF⟩ : ∃ z : Addr, z = bFc := ⟨_, rfl⟩
  obtain ⟨k_bF, e_k⟩ : ∃ z : ClassId, z = k_bFc := ⟨_, rfl⟩
  obtain ⟨kF, e_kF⟩ : ∃ z : Int32, z = i0 := ⟨_, rfl⟩
  obtain ⟨zF, e_zF⟩ : ∃ z : Int32, z = i1 := ⟨_, rfl⟩
  obtain ⟨zsF, e_zsF⟩ : ∃ z : List Int32, z = [(bv yF)] := ⟨_, rfl⟩
  rw [← e_bF] at F_o5928_a
  have F_o5928_k : Fld Z hh o5928 cS "coder" "B" (.int kF) := by rw [e_kF]; exact F_o5928_k
  have A_bF : Arv Z hh bF k_bF .byte zF (Y zsF) (.int i0) := by rw [e_bF, e_k, e_zF, e_zsF]; exact A_bFc
  have hvT : own_T [yF] kF zF zsF := by rw [e_kF, e_zF, e_zsF]; exact own_tL1 hvU hvB0
  exact hQ _ _ ⟨bF, kF, k_bF, zF, zsF, rfl, hvT, E_o5928, F_o5928_a, F_o5928_k, Kp, Od, A_bF⟩
 ·have H_o5928 := Safe.keep Kc so0 Rc.1.1 H_o5928
  have Rc := Rc.keep Kc so0
  have E_o5928 := E_o5928.keep Kc
  have F_o5928_a := F_o5928_a.keep Kc nin0
  have F_o5928_k := F_o5928_k.keep Kc nin0
  have Kp := Kp.trans Kc all0
  refine rc (st' := [.ref bFc]) rfl ?_
  refine s_astore 41 C X (l' := #[rv o5928, rv o5929, iv i0, iv i1, .val .null, rv bFc]) d3_39 rfl rfl ?_
  refine s_aloadN 42 C X d3_41 rfl rfl ?_
  refine s_aload 44 C X d3_42 rfl rfl ?_
  refine s_iloadN 45 C X d3_44 rfl ?_
  refine s_callS 48 [.ref bFc, .int i1] [.ref o5928] 1 C X d3_45 (mW 67 rfl) (mW 68 rfl) (mW 62 rfl) (mW 69 rfl) (rm_a90 l Z a0 hw yF bFc k_bFc _ n0 X.sz A_bFc) (lenOf pd___BI_B rfl) rfl rfl rfl (fun T v hh X q => ?_)
  obtain ⟨rfl, Kc⟩ := q
  have H_o5928 := Safe.keep Kc so0 Rc.1.1 H_o5928
  have Rc := Rc.keep Kc so0
  have E_o5928 := E_o5928.keep Kc
  have F_o5928_a := F_o5928_a.keep Kc nin0
  have F_o5928_k := F_o5928_k.keep Kc nin0
  have Kp := Kp.trans Kc all0
  have Od := Od.keep Kc all0
  have A_bFc := A_bFc.keep Kc nin0
  refine rc (st' := [.int i1, .ref o5928]) rfl ?_
  refine s_putfieldN 51 C X d3_48 (mW 29 rfl) Via.refl F_o5928_k E_o5928 (Or.inr ⟨(mW 25 rfl), rfl, rfl⟩) (mW 10 rfl) (ty := .byte) (by decide) rfl rfl g_o5928 (fun T hh X W => ?_)
  have ne_bFc_o5928 : bFc ≠ o5928 := own_aen A_bFc E_o5928 (hw _ (mW 10 rfl))
  have Sf : Safe Z EL1 vm _ o5928 := H_o5928
  have H_o5928 := Safe.wr W Sf Rc.1.1 H_o5928
  have Rc := Rc.wr W Sf
  have E_o5928 := E_o5928.wr W
  have F_o5928_a := oth F_o5928_a W (Or.inr (hw _ (mW 24 rfl))) (Or.inr (hw _ (mW 25 rfl))) (by decide)
  have F_o5928_k := F_o5928_k.same W
  have Kp := Kp.wr W (Or.inl (by simp))
  have Od := Od.wr W g_o5928
  have A_bFc := A_bFc.other W ne_bFc_o5928
  refine s_aloadN 52 C X d3_51 rfl rfl ?_
  refine s_aload 54 C X d3_52 rfl rfl ?_
  refine s_putfield 57 C X (host := "") d3_54 (Or.inl (mW 28 rfl)) Via.refl F_o5928_a E_o5928 (Or.inr ⟨(mW 24 rfl), rfl, rfl⟩) (mW 10 rfl) (ty := (.array .byte)) (by decide) rfl rfl g_o5928 (fun T hh X W => ?_)
  have Sf : Safe Z EL1 vm _ o5928 := H_o5928
  have Rc := Rc.wr W Sf
  have E_o5928 := E_o5928.wr W
  have F_o5928_a := F_o5928_a.same W
  have F_o5928_k := oth F_o5928_k W (Or.inr (hw _ (mW 25 rfl))) (Or.inr (hw _ (mW 24 rfl))) (by decide)
  have Kp := Kp.wr W (Or.inl (by simp))
  have Od := Od.wr W g_o5928
  have A_bFc := A_bFc.other W ne_bFc_o5928
  refine s_return C X d3_57 rfl ?_ (FGH hG hS Rc C (own_EL hw))
  obtain ⟨bF, e_bF⟩ : ∃ z : Addr, z = bFc := ⟨_, rfl⟩
  obtain ⟨k_bF, e_k⟩ : ∃ z : ClassId, z = k_bFc := ⟨_, rfl⟩
  obtain ⟨kF, e_kF⟩ : ∃ z : Int32, z = i1 := ⟨_, rfl⟩
  obtain ⟨zF, e_zF⟩ : ∃ z : Int32, z = i2 := ⟨_, rfl⟩
  obtain ⟨zsF, e_zsF⟩ : ∃ z : List Int32, z = [(lo yF), (hi yF)] := ⟨_, rfl⟩
  rw [← e_bF] at F_o5928_a
  have F_o5928_k : Fld Z hh o5928 cS "coder" "B" (.int kF) := by rw [e_kF]; exact F_o5928_k
  have A_bF : Arv Z hh bF k_bF .byte zF (Y zsF) (.int i0) := by rw [e_bF, e_k, e_zF, e_zsF]; exact A_bFc
  have hvT : own_T [yF] kF zF zsF := by rw [e_kF, e_zF, e_zsF]; exact own_tU1 hvU
  exact hQ _ _ ⟨bF, kF, k_bF, zF, zsF, rfl, hvT, E_o5928, F_o5928_a, F_o5928_k, Kp, Od, A_bF⟩
theorem rm_a92 (hw : Hw a0 Z) (cs : Int32) (yF : Int32) (o5928 : Addr) (o5929 : Addr) (k_o5929 : ClassId) (h0 : Heap) (n0 : Nat) (Z0 : n0 ≤ h0.size) (Od : Old Z n0 h0) (S_cs : Sta Z Z.heap cS cC "Z" (.int cs)) (S_ad : Sta Z Z.heap cU "$assertionsDisabled" "Z" (.int i1)) (S_hi : Sta Z Z.heap cU "HI_BYTE_SHIFT" "I" (.int i0)) (S_lo : Sta Z Z.heap cU "LO_BYTE_SHIFT" "I" (.int i8)) (E_o5928 : Exa Z h0 o5928 cS) (F_o5928_a : Fld Z h0 o5928 cS "value" "[B" .null) (F_o5928_k : Fld Z h0 o5928 cS "coder" "B" (.int i0)) (A_o5929 : Arv Z h0 o5929 k_o5929 .char i1 [.int yF] (.int i0)) (hv_cs : ¬ cs = i0) (hvU : own_U yF) (g_o5928 : n0 ≤ o5928) (ne_o5928_o5929 : o5928 ≠ o5929) :
  MetH l Z EL1 [o5928] (⟨cS, "<init>", "([C)V"⟩ : MethodName) jdk_42_method_3_code 2 none (rM 5 2 3 74) [] #[.ref o5928, .ref o5929] h0 n0 (fun v h => ∃ (bF : Addr) (kF : Int32) (k_bF : ClassId) (zF : Int32) (zsF : List Int32), v = none ∧ own_T [yF] kF zF zsF ∧ Keep h0 h [o5928] ∧ Exa Z h o5928 cS ∧ Fld Z h o5928 cS "value" "[B" (.ref bF) ∧ Fld Z h o5928 cS "coder" "B" (.int kF) ∧ Old Z n0 h ∧ Arv Z h bF k_bF .byte zF (Y zsF) (.int i0)) := by
 refine MetH.mkQ (tabs := tables_1) (a0 := a0) (ls0 := #[rv o5928, rv o5929]) (plainFor_of_name pn_java_lang_String) hw Z0 (fun m => by first | (simp [entryFrame, mkF, argsToLocals, Value.category]; done) | rfl) ?_
 intro p e s m below meth c T Q' G' vm k1 hQ hG C X hS Rc hso
 have Kp : Keep h0 h0 [o5928] := Keep.refl _ _
 have H_o5928 : Safe Z EL1 vm h0 o5928 := hso _ (by simp)
 refine s_aloadN 1 C X d2_0 rfl rfl ?_
 refine s_aloadN 2 C X d2_1 rfl rfl ?_
 refine s_iconst 3 C X d2_2 kc_iconst_0 ?_
 refine s_aloadN 4 C X d2_3 rfl rfl ?_
 refine s_arraylength 5 C X d2_4 A_o5929 ?_
 refine s_aconstNull 6 C X d2_5 ?_
 refine s_hcallC 9 [.ref o5929, .int i0, .int i1, .null] [] 0 C X hS Rc.2 (own_EL hw) Rc.1.1 d2_6 rfl (mW 15 rfl) (mW 16 rfl) (mW 11 rfl) (mW 18 rfl) (rm_a91 l Z a0 hw cs yF o5928 o5929 k_o5929 _ n0 X.sz Od S_cs S_ad S_hi S_lo E_o5928 F_o5928_a F_o5928_k A_o5929 hv_cs hvU g_o5928 ne_o5928_o5929) (lenOf pd___CIILjava_lang_Void__V rfl) rfl rfl rfl (soS ⟨E_o5928.lt, H_o5928⟩ so0) (fun T v hh vm k1 C X hS Nk Rn q => ?_)
 obtain ⟨bF, kF, k_bF, zF, zsF, rfl, hvT, E_o5928, F_o5928_a, F_o5928_k, Kc, Od, A_bF⟩ := q
 have Rc := Rc.call Rn Nk
 have Kp := Kp.trans Kc (allS (Or.inl (by simp)) all0)
 refine rc (st' := []) rfl ?_
 refine s_return C X d2_9 rfl ?_ (FGH hG hS Rc C (own_EL hw))
 exact hQ _ _ ⟨bF, kF, k_bF, zF, zsF, rfl, hvT, Kp, E_o5928, F_o5928_a, F_o5928_k, Od, A_bF⟩
theorem rm_a93 (hw : Hw a0 Z) (cs : Int32) (fm : Value) (o5928 : Addr) (bF : Addr) (kF : Int32) (k_bF : ClassId) (zF : Int32) (zsF : List Int32) (xs : List Int32) (h0 : Heap) (n0 : Nat) (Z0 : n0 ≤ h0.size) (S_cs : Sta Z Z.heap cS cC "Z" (.int cs)) (S_fm : Sta Z Z.heap cP cM cF fm) (S_ad : Sta Z Z.heap cU "$assertionsDisabled" "Z" (.int i1)) (S_hi : Sta Z Z.heap cU "HI_BYTE_SHIFT" "I" (.int i0)) (S_lo : Sta Z Z.heap cU "LO_BYTE_SHIFT" "I" (.int i8)) (E_o5928 : Exa Z h0 o5928 cS) (F_o5928_a : Fld Z h0 o5928 cS "value" "[B" (.ref bF)) (F_o5928_k : Fld Z h0 o5928 cS "coder" "B" (.int kF)) (Od : Old Z n0 h0) (A_bF : Arv Z h0 bF k_bF .byte zF (Y zsF) (.int i0)) (hv_cs : ¬ cs = i0) (hv_fm : fm.isRef = true) (hvS : own_T xs kF zF zsF) (hvL : xs.length = 1) :
  MetH l Z EL1 [] (⟨"com/example/tinsel_tally/tinseltally/Blanks", "strip", "(Ljava/lang/String;)Ljava/lang/String;"⟩ : MethodName) prog_3_method_2_code 3 (some (.object cS)) (rM 7 3 16 119) [] #[.ref o5928] h0 n0 (fun v h => ∃ (bFq : Addr) (eFt : Int32) (kFq : Int32) (k_bFq : ClassId) (lFq : Int32) (rFq : Addr) (sFt : Int32) (zFq : Int32) (zsFq : List Int32), v = some (.ref rFq) ∧ own_S xs sFt eFt ∧ lFq.toInt = eFt.toInt - sFt.toInt ∧ own_T (sl xs sFt.toNatClampNeg lFq.toNatClampNeg) kFq zFq zsFq ∧ Keep h0 h [] ∧ Old Z n0 h ∧ Exa Z h rFq cS ∧ Fld Z h rFq cS "coder" "B" (.int kFq) ∧ Fld Z h rFq cS "value" "[B" (.ref bFq) ∧ Arv Z h bFq k_bFq .byte zFq (Y zsFq) (.int i0)) := by
 refine MetH.mkQ (tabs := tables_1) (a0 := a0) (ls0 := #[rv o5928, un, un]) (plainFor_of_name pn_com_example_tinsel_tally_tinseltally_Blanks) hw Z0 (fun m => by first | (simp [entryFrame, mkF, argsToLocals, Value.category]; done) | rfl) ?_
 intro p e s m below meth c T Q' G' vm k1 hQ hG C X hS Rc hso
 have Kp : Keep h0 h0 [] := Keep.refl _ _
 refine s_iconst 1 C X d5_0 kc_iconst_0 ?_
 refine s_istoreN 2 C X (l' := #[rv o5928, iv i0, un]) d5_1 rfl ?_
 refine s_iloadN 3 C X d5_2 rfl ?_
 refine s_aloadN 4 C X d5_3 rfl rfl ?_
 refine s_callV 7 [] [.int i0] 1 C X d5_4 (mW 34 rfl) (mW 35 rfl) (nF C (mW 37 rfl)) (mW 37 rfl) (mW 36 rfl) (mW 11 rfl) (mW 38 rfl) E_o5928 (rm_a20 l Z a0 hw cs o5928 bF kF k_bF zF zsF xs _ n0 X.sz S_cs E_o5928 F_o5928_a F_o5928_k Od A_bF hv_cs hvS) (lenOf pd___I rfl) rfl rfl rfl (fun T v hh X q => ?_)
 obtain ⟨rfl, Kc, Od⟩ := q
 have Rc := Rc.keep Kc so0
 have E_o5928 := E_o5928.keep Kc
 have F_o5928_a := F_o5928_a.keep Kc nin0
 have F_o5928_k := F_o5928_k.keep Kc nin0
 have A_bF := A_bF.keep Kc nin0
 have Kp := Kp.trans Kc all0
 refine rc (st' := [(.int (zF >>> (kF &&& 31))), .int i0]) rfl ?_
 refine rc (st' := [.int i1, .int i0]) (by rw [own_lenN hvS hvL (L := i1) (by decide)]) ?_
 refine s_icmp_ge 27 10 C X d5_7 (fun c => absurd (by decide : i0 < i1) c) (fun _ => ?_)
 refine s_aloadN 11 C X d5_10 rfl rfl ?_
 refine s_iloadN 12 C X d5_11 rfl ?_
 obtain ⟨ix6004, e_ix6004⟩ : ∃ zz_ : Int32, zz_ = i0 := ⟨_, rfl⟩
 refine rc (st' := [.int ix6004, .ref o5928]) (by subst e_ix6004; rfl) ?_
 have hvx_ix6004 : own_ix xs ix6004 := by rw [e_ix6004]; exact ⟨by decide, by rw [hvL]; decide⟩
 refine s_callV 15 [.int ix6004] [] 0 C X d5_12 (mW 73 rfl) (mW 74 rfl) (nF C (mW 76 rfl)) (mW 76 rfl) (mW 75 rfl) (mW 11 rfl) (mW 77 rfl) E_o5928 (rm_a31 l Z a0 hw cs fm o5928 bF kF k_bF zF zsF xs ix6004 _ n0 X.sz S_cs S_fm S_ad S_hi S_lo E_o5928 F_o5928_a F_o5928_k A_bF Od hv_cs hv_fm hvS hvx_ix6004) (lenOf pd__I_C rfl) rfl rfl rfl (fun T v hh X q => ?_)
 obtain ⟨rfl, Kc, Od⟩ := q
 have Rc := Rc.keep Kc so0
 have E_o5928 := E_o5928.keep Kc
 have F_o5928_a := F_o5928_a.keep Kc nin0
 have F_o5928_k := F_o5928_k.keep Kc nin0
 have A_bF := A_bF.keep Kc nin0
 have Kp := Kp.trans Kc all0
 refine rc (st' := [(.int (xs.getD (ix6004).toNatClampNeg 0))]) rfl ?_
 refine rc (st' := [(.int (xs.getD 0 0))]) (by rw [show (xs.getD (ix6004).toNatClampNeg 0) = (xs.getD 0 0) from by rw [e_ix6004]; rfl]) ?_
 refine s_callS 18 [(.int (xs.getD 0 0))] [] 0 C X d5_15 (mW 93 rfl) (mW 94 rfl) (mW 32 rfl) (mW 95 rfl) (rm_isBlank l Z a0 hw ((xs.getD 0 0)) _ n0 X.sz) (lenOf pd__C_Z rfl) rfl rfl rfl (fun T v h2 X q => ?_)
 obtain ⟨⟨rfl, b6030⟩ | ⟨rfl, b6030⟩, hE⟩ := q
 ·rw [hE] at X
  refine rc (st' := [.int i1]) rfl ?_
  refine s_if_eq 27 21 C X d5_18 (fun c => absurd c (by decide)) (fun _ => ?_)
  refine s_iinc 24 C X (l' := #[rv o5928, iv i1, un]) d5_21 kc_iconst_1 rfl rfl ?_
  refine s_goto 2 C X d5_24 ?_
  refine s_iloadN 3 C X d5_2 rfl ?_
  refine s_aloadN 4 C X d5_3 rfl rfl ?_
  refine s_callV 7 [] [.int i1] 1 C X d5_4 (mW 34 rfl) (mW 35 rfl) (nF C (mW 37 rfl)) (mW 37 rfl) (mW 36 rfl) (mW 11 rfl) (mW 38 rfl) E_o5928 (rm_a20 l Z a0 hw cs o5928 bF kF k_bF zF zsF xs _ n0 X.sz S_cs E_o5928 F_o5928_a F_o5928_k Od A_bF hv_cs hvS) (lenOf pd___I rfl) rfl rfl rfl (fun T v hh X q => ?_)
  obtain ⟨rfl, Kc, Od⟩ := q
  have Rc := Rc.keep Kc so0
  have E_o5928 := E_o5928.keep Kc
  have F_o5928_a := F_o5928_a.keep Kc nin0
  have F_o5928_k := F_o5928_k.keep Kc nin0
  have A_bF := A_bF.keep Kc nin0
  have Kp := Kp.trans Kc all0
  refine rc (st' := [(.int (zF >>> (kF &&& 31))), .int i1]) rfl ?_
  refine rc (st' := [.int i1, .int i1]) (by rw [own_lenN hvS hvL (L := i1) (by decide)]) ?_
  refine s_icmp_ge 27 10 C X d5_7 (fun _ => ?_) (fun c => absurd c (by decide))
  refine s_aloadN 28 C X d5_27 rfl rfl ?_
  refine s_callV 31 [] [] 0 C X d5_28 (mW 34 rfl) (mW 35 rfl) (nF C (mW 37 rfl)) (mW 37 rfl) (mW 36 rfl) (mW 11 rfl) (mW 38 rfl) E_o5928 (rm_a20 l Z a0 hw cs o5928 bF kF k_bF zF zsF xs _ n0 X.sz S_cs E_o5928 F_o5928_a F_o5928_k Od A_bF hv_cs hvS) (lenOf pd___I rfl) rfl rfl rfl (fun T v hh X q => ?_)
  obtain ⟨rfl, Kc, Od⟩ := q
  have Rc := Rc.keep Kc so0
  have E_o5928 := E_o5928.keep Kc
  have F_o5928_a := F_o5928_a.keep Kc nin0
  have F_o5928_k := F_o5928_k.keep Kc nin0
  have A_bF := A_bF.keep Kc nin0
  have Kp := Kp.trans Kc all0
  refine rc (st' := [(.int (zF >>> (kF &&& 31)))]) rfl ?_
  refine rc (st' := [.int i1]) (by rw [own_lenN hvS hvL (L := i1) (by decide)]) ?_
  refine s_istoreN 32 C X (l' := #[rv o5928, iv i1, iv i1]) d5_31 rfl ?_
  refine s_iloadN 33 C X d5_32 rfl ?_
  refine s_iloadN 34 C X d5_33 rfl ?_
  refine s_icmp_le 56 37 C X d5_34 (fun _ => ?_) (fun c => absurd c (by decide))
  refine s_aloadN 57 C X d5_56 rfl rfl ?_
  refine s_iloadN 58 C X d5_57 rfl ?_
  refine s_iloadN 59 C X d5_58 rfl ?_
  obtain ⟨ev6040, e_ev6040⟩ : ∃ zz_ : Int32, zz_ = i1 := ⟨_, rfl⟩
  refine rc (st' := [.int ev6040, .int i1, .ref o5928]) (by subst e_ev6040; rfl) ?_
  obtain ⟨sv6041, e_sv6041⟩ : ∃ zz_ : Int32, zz_ = i1 := ⟨_, rfl⟩
  refine rc (st' := [.int ev6040, .int sv6041, .ref o5928]) (by subst e_sv6041; rfl) ?_
  have hvse : own_se xs sv6041 ev6040 := by rw [e_sv6041, e_ev6040]; exact ⟨by decide, by decide, by rw [hvL]; decide⟩
  refine s_hcallV 62 [.int sv6041, .int ev6040] [] 0 C X hS Rc.2 (own_EL hw) Rc.1.1 d5_59 (mW 45 rfl) (mW 46 rfl) (nF C (mW 48 rfl)) (mW 48 rfl) (mW 47 rfl) (mW 11 rfl) (mW 49 rfl) E_o5928 (rm_a50 l Z a0 hw cs fm o5928 bF kF k_bF zF zsF xs ev6040 sv6041 _ n0 X.sz S_cs S_fm S_ad S_hi S_lo E_o5928 F_o5928_a F_o5928_k A_bF Od hv_cs hv_fm hvS hvse) (lenOf pd__II_Ljava_lang_String_ rfl) rfl rfl rfl so0 (fun T v hh vm k1 C X hS Nk Rn q => ?_)
  obtain ⟨bFq, kFq, k_bFq, lFq, rFq, zFq, zsFq, rfl, hvle, hvR, Kc, Od, E_rFq, F_rFq_k, F_rFq_a, A_bFq⟩ := q
  have Rc := Rc.call Rn Nk
  have Kp := Kp.trans Kc all0
  refine rc (st' := [.ref rFq]) rfl ?_
  refine s_areturn C X d5_62 rfl rfl rfl ?_ (FGH hG hS Rc C (own_EL hw))
  obtain ⟨sFt, e_sFt⟩ : ∃ z : Int32, z = sv6041 := ⟨_, rfl⟩
  obtain ⟨eFt, e_eFt⟩ : ∃ z : Int32, z = ev6040 := ⟨_, rfl⟩
  have js : sFt.toInt = 1 := by rw [e_sFt, e_sv6041]; decide
  have je : eFt.toInt = 1 := by rw [e_eFt, e_ev6040]; decide
  have jn := hvL
  have hvS : own_S xs sFt eFt := by
   refine ⟨⟨by omega, by omega, by omega⟩, fun i hi => ?_, fun i hi hj => ?_, ?_⟩
   ·have : i = 0 := by omega
    rcases this with rfl
    ·exact b6030
   ·omega
   ·exact Or.inr ⟨by omega, by omega⟩
  have hvl : lFq.toInt = eFt.toInt - sFt.toInt := by rw [e_sFt, e_eFt]; exact hvle
  have hvR : own_T (sl xs sFt.toNatClampNeg lFq.toNatClampNeg) kFq zFq zsFq := by rw [e_sFt]; exact hvR
  exact hQ _ _ ⟨bFq, eFt, kFq, k_bFq, lFq, rFq, sFt, zFq, zsFq, rfl, hvS, hvl, hvR, Kp, Od, E_rFq, F_rFq_k, F_rFq_a, A_bFq⟩
 ·rw [hE] at X
  refine rc (st' := [.int i0]) rfl ?_
  refine s_if_eq 27 21 C X d5_18 (fun _ => ?_) (fun c => absurd (by decide : i0 = i0) c)
  refine s_aloadN 28 C X d5_27 rfl rfl ?_
  refine s_callV 31 [] [] 0 C X d5_28 (mW 34 rfl) (mW 35 rfl) (nF C (mW 37 rfl)) (mW 37 rfl) (mW 36 rfl) (mW 11 rfl) (mW 38 rfl) E_o5928 (rm_a20 l Z a0 hw cs o5928 bF kF k_bF zF zsF xs _ n0 X.sz S_cs E_o5928 F_o5928_a F_o5928_k Od A_bF hv_cs hvS) (lenOf pd___I rfl) rfl rfl rfl (fun T v hh X q => ?_)
  obtain ⟨rfl, Kc, Od⟩ := q
  have Rc := Rc.keep Kc so0
  have E_o5928 := E_o5928.keep Kc
  have F_o5928_a := F_o5928_a.keep Kc nin0
  have F_o5928_k := F_o5928_k.keep Kc nin0
  have A_bF := A_bF.keep Kc nin0
  have Kp := Kp.trans Kc all0
  refine rc (st' := [(.int (zF >>> (kF &&& 31)))]) rfl ?_
  refine rc (st' := [.int i1]) (by rw [own_lenN hvS hvL (L := i1) (by decide)]) ?_
  refine s_istoreN 32 C X (l' := #[rv o5928, iv i0, iv i1]) d5_31 rfl ?_
  refine s_iloadN 33 C X d5_32 rfl ?_
  refine s_iloadN 34 C X d5_33 rfl ?_
  refine s_icmp_le 56 37 C X d5_34 (fun c => absurd (by decide : i0 < i1) c) (fun _ => ?_)
  refine s_aloadN 38 C X d5_37 rfl rfl ?_
  refine s_iloadN 39 C X d5_38 rfl ?_
  refine s_iconst 40 C X d5_39 kc_iconst_1 ?_
  refine s_isub 41 C X d5_40 ?_
  refine rc (st' := [.int i0, .ref o5928]) (by rw [kf_14]) ?_
  obtain ⟨ix6255, e_ix6255⟩ : ∃ zz_ : Int32, zz_ = i0 := ⟨_, rfl⟩
  refine rc (st' := [.int ix6255, .ref o5928]) (by subst e_ix6255; rfl) ?_
  have hvx_ix6255 : own_ix xs ix6255 := by rw [e_ix6255]; exact ⟨by decide, by rw [hvL]; decide⟩
  refine s_callV 44 [.int ix6255] [] 0 C X d5_41 (mW 73 rfl) (mW 74 rfl) (nF C (mW 76 rfl)) (mW 76 rfl) (mW 75 rfl) (mW 11 rfl) (mW 77 rfl) E_o5928 (rm_a31 l Z a0 hw cs fm o5928 bF kF k_bF zF zsF xs ix6255 _ n0 X.sz S_cs S_fm S_ad S_hi S_lo E_o5928 F_o5928_a F_o5928_k A_bF Od hv_cs hv_fm hvS hvx_ix6255) (lenOf pd__I_C rfl) rfl rfl rfl (fun T v hh X q => ?_)
  obtain ⟨rfl, Kc, Od⟩ := q
  have Rc := Rc.keep Kc so0
  have E_o5928 := E_o5928.keep Kc
  have F_o5928_a := F_o5928_a.keep Kc nin0
  have F_o5928_k := F_o5928_k.keep Kc nin0
  have A_bF := A_bF.keep Kc nin0
  have Kp := Kp.trans Kc all0
  refine rc (st' := [(.int (xs.getD (ix6255).toNatClampNeg 0))]) rfl ?_
  refine rc (st' := [(.int (xs.getD 0 0))]) (by rw [show (xs.getD (ix6255).toNatClampNeg 0) = (xs.getD 0 0) from by rw [e_ix6255]; rfl]) ?_
  refine s_callS 47 [(.int (xs.getD 0 0))] [] 0 C X d5_44 (mW 93 rfl) (mW 94 rfl) (mW 32 rfl) (mW 95 rfl) (rm_isBlank l Z a0 hw ((xs.getD 0 0)) _ n0 X.sz) (lenOf pd__C_Z rfl) rfl rfl rfl (fun T v h8 X q => ?_)
  obtain ⟨⟨rfl, b6281⟩ | ⟨rfl, b6281⟩, hE⟩ := q
  ·rw [hE] at X
   exact absurd b6281 b6030
  ·rw [hE] at X
   refine rc (st' := [.int i0]) rfl ?_
   refine s_if_eq 56 50 C X d5_47 (fun _ => ?_) (fun c => absurd (by decide : i0 = i0) c)
   refine s_aloadN 57 C X d5_56 rfl rfl ?_
   refine s_iloadN 58 C X d5_57 rfl ?_
   refine s_iloadN 59 C X d5_58 rfl ?_
   obtain ⟨ev6283, e_ev6283⟩ : ∃ zz_ : Int32, zz_ = i1 := ⟨_, rfl⟩
   refine rc (st' := [.int ev6283, .int i0, .ref o5928]) (by subst e_ev6283; rfl) ?_
   obtain ⟨sv6284, e_sv6284⟩ : ∃ zz_ : Int32, zz_ = i0 := ⟨_, rfl⟩
   refine rc (st' := [.int ev6283, .int sv6284, .ref o5928]) (by subst e_sv6284; rfl) ?_
   have hvse : own_se xs sv6284 ev6283 := by rw [e_sv6284, e_ev6283]; exact ⟨by decide, by decide, by rw [hvL]; decide⟩
   refine s_hcallV 62 [.int sv6284, .int ev6283] [] 0 C X hS Rc.2 (own_EL hw) Rc.1.1 d5_59 (mW 45 rfl) (mW 46 rfl) (nF C (mW 48 rfl)) (mW 48 rfl) (mW 47 rfl) (mW 11 rfl) (mW 49 rfl) E_o5928 (rm_a50 l Z a0 hw cs fm o5928 bF kF k_bF zF zsF xs ev6283 sv6284 _ n0 X.sz S_cs S_fm S_ad S_hi S_lo E_o5928 F_o5928_a F_o5928_k A_bF Od hv_cs hv_fm hvS hvse) (lenOf pd__II_Ljava_lang_String_ rfl) rfl rfl rfl so0 (fun T v hh vm k1 C X hS Nk Rn q => ?_)
   obtain ⟨bFq, kFq, k_bFq, lFq, rFq, zFq, zsFq, rfl, hvle, hvR, Kc, Od, E_rFq, F_rFq_k, F_rFq_a, A_bFq⟩ := q
   have Rc := Rc.call Rn Nk
   have Kp := Kp.trans Kc all0
   refine rc (st' := [.ref rFq]) rfl ?_
   refine s_areturn C X d5_62 rfl rfl rfl ?_ (FGH hG hS Rc C (own_EL hw))
   obtain ⟨sFt, e_sFt⟩ : ∃ z : Int32, z = sv6284 := ⟨_, rfl⟩
   obtain ⟨eFt, e_eFt⟩ : ∃ z : Int32, z = ev6283 := ⟨_, rfl⟩
   have js : sFt.toInt = 0 := by rw [e_sFt, e_sv6284]; decide
   have je : eFt.toInt = 1 := by rw [e_eFt, e_ev6283]; decide
   have jn := hvL
   have hvS : own_S xs sFt eFt := by
    refine ⟨⟨by omega, by omega, by omega⟩, fun i hi => ?_, fun i hi hj => ?_, ?_⟩
    ·omega
    ·omega
    ·have k1 : sFt.toNatClampNeg = 0 := own_tn (k := 0) js
     rw [k1, je]
     exact Or.inl ⟨by omega, by omega, b6030, b6030⟩
   have hvl : lFq.toInt = eFt.toInt - sFt.toInt := by rw [e_sFt, e_eFt]; exact hvle
   have hvR : own_T (sl xs sFt.toNatClampNeg lFq.toNatClampNeg) kFq zFq zsFq := by rw [e_sFt]; exact hvR
   exact hQ _ _ ⟨bFq, eFt, kFq, k_bFq, lFq, rFq, sFt, zFq, zsFq, rfl, hvS, hvl, hvR, Kp, Od, E_rFq, F_rFq_k, F_rFq_a, A_bFq⟩
theorem rm_a94 (hw : Hw a0 Z) (o6494 : Addr) (o6495 : Addr) (h0 : Heap) (n0 : Nat) (Z0 : n0 ≤ h0.size) (E_o6494 : Exa Z h0 o6494 cS) (F_o6494_a : Fld Z h0 o6494 cS "value" "[B" .null) (F_o6494_k : Fld Z h0 o6494 cS "coder" "B" (.int i0)) (g_o6494 : n0 ≤ o6494) :
  MetH l Z EL1 [o6494] (⟨cS, "<init>", "([CIILjava/lang/Void;)V"⟩ : MethodName) jdk_42_method_149_code 6 none (rM 1 4 8 12) [] #[.ref o6494, .ref o6495, .int i0, .int i0, .null] h0 n0 (fun v h => ∃ (bF : Addr) (kF : Int32) (k_bF : ClassId) (zF : Int32) (zsF : List Int32), v = none ∧ own_T [] kF zF zsF ∧ Exa Z h o6494 cS ∧ Fld Z h o6494 cS "value" "[B" (.ref bF) ∧ Fld Z h o6494 cS "coder" "B" (.int kF) ∧ Keep h0 h [o6494] ∧ Arv Z h bF k_bF .byte zF (Y zsF) (.int i0)) := by
 refine MetH.mkQ (tabs := tables_1) (a0 := a0) (ls0 := #[rv o6494, rv o6495, iv i0, iv i0, .val .null, un]) (plainFor_of_name pn_java_lang_String) hw Z0 (fun m => by first | (simp [entryFrame, mkF, argsToLocals, Value.category]; done) | rfl) ?_
 intro p e s m below meth c T Q' G' vm k1 hQ hG C X hS Rc hso
 have Kp : Keep h0 h0 [o6494] := Keep.refl _ _
 have H_o6494 : Safe Z EL1 vm h0 o6494 := hso _ (by simp)
 refine s_aloadN 1 C X d3_0 rfl rfl ?_
 refine s_objInit 4 C X d3_1 (mW 19 rfl) (mW 20 rfl) (mW 21 rfl) rfl (W := 0) rfl (by decide) (fun T X => ?_)
 refine s_iloadN 5 C X d3_4 rfl ?_
 refine s_if_ne 27 8 C X d3_5 (fun c => absurd (by decide : i0 = i0) c) (fun _ => ?_)
 refine s_aloadN 9 C X d3_8 rfl rfl ?_
 refine s_ldcH 11 0 C X hS Rc.2 (own_EL hw) Rc.1.1 d3_9 (mW 22 rfl) (own_wS hw) (vs := []) (z := i0) (by decide) ⟨by decide, rfl⟩ (by decide) rfl (fun T hh t6497 b6498 k_b6498 vm k1 C X E hS Nk Rn E_t6497 F_t6497_k F_t6497_a A_b6498 nS => ?_)
 have H_o6494 := Rn.safe E_o6494.lt H_o6494
 have Rc := Rc.call Rn Nk
 have E_o6494 := E_o6494.ext E
 have F_o6494_a := F_o6494_a.ext E
 have F_o6494_k := F_o6494_k.ext E
 have Kp := Kp.ext E
 have ne_o6494_b6498 : o6494 ≠ b6498 := (nS o6494 H_o6494).2
 refine s_getfield 14 C X (host := "") d3_11 (Or.inl (mW 28 rfl)) Via.refl F_t6497_a (fun T X => ?_)
 refine s_putfield 17 C X (host := "") d3_14 (Or.inl (mW 28 rfl)) Via.refl F_o6494_a E_o6494 (Or.inr ⟨(mW 24 rfl), rfl, rfl⟩) (mW 10 rfl) (ty := (.array .byte)) (by decide) rfl rfl g_o6494 (fun T hh X W => ?_)
 have Sf : Safe Z EL1 vm _ o6494 := H_o6494
 have H_o6494 := Safe.wr W Sf Rc.1.1 H_o6494
 have Rc := Rc.wr W Sf
 have E_o6494 := E_o6494.wr W
 have F_o6494_a := F_o6494_a.same W
 have F_o6494_k := oth F_o6494_k W (Or.inr (hw _ (mW 25 rfl))) (Or.inr (hw _ (mW 24 rfl))) (by decide)
 have Kp := Kp.wr W (Or.inl (by simp))
 have A_b6498 := A_b6498.other W (Ne.symm ne_o6494_b6498)
 refine s_aloadN 18 C X d3_17 rfl rfl ?_
 refine s_ldcH 20 0 C X hS Rc.2 (own_EL hw) Rc.1.1 d3_18 (mW 22 rfl) (own_wS hw) (vs := []) (z := i0) (by decide) ⟨by decide, rfl⟩ (by decide) rfl (fun T hh t6499 b6500 k_b6500 vm k1 C X E hS Nk Rn E_t6499 F_t6499_k F_t6499_a A_b6500 nS => ?_)
 have H_o6494 := Rn.safe E_o6494.lt H_o6494
 have Rc := Rc.call Rn Nk
 have E_o6494 := E_o6494.ext E
 have F_o6494_a := F_o6494_a.ext E
 have F_o6494_k := F_o6494_k.ext E
 have Kp := Kp.ext E
 have A_b6498 := A_b6498.ext E
 refine s_getfield 23 C X (host := "") d3_20 (Or.inl (mW 29 rfl)) Via.refl F_t6499_k (fun T X => ?_)
 refine s_putfieldN 26 C X d3_23 (mW 29 rfl) Via.refl F_o6494_k E_o6494 (Or.inr ⟨(mW 25 rfl), rfl, rfl⟩) (mW 10 rfl) (ty := .byte) (by decide) rfl rfl g_o6494 (fun T hh X W => ?_)
 have Sf : Safe Z EL1 vm _ o6494 := H_o6494
 have Rc := Rc.wr W Sf
 have E_o6494 := E_o6494.wr W
 have F_o6494_a := oth F_o6494_a W (Or.inr (hw _ (mW 24 rfl))) (Or.inr (hw _ (mW 25 rfl))) (by decide)
 have F_o6494_k := F_o6494_k.same W
 have Kp := Kp.wr W (Or.inl (by simp))
 have A_b6498 := A_b6498.other W (Ne.symm ne_o6494_b6498)
 refine s_return C X d3_26 rfl ?_ (FGH hG hS Rc C (own_EL hw))
 obtain ⟨bF, e_bF⟩ : ∃ z : Addr, z = b6498 := ⟨_, rfl⟩
 obtain ⟨k_bF, e_k⟩ : ∃ z : ClassId, z = k_b6498 := ⟨_, rfl⟩
 obtain ⟨kF, e_kF⟩ : ∃ z : Int32, z = i0 := ⟨_, rfl⟩
 obtain ⟨zF, e_zF⟩ : ∃ z : Int32, z = i0 := ⟨_, rfl⟩
 obtain ⟨zsF, e_zsF⟩ : ∃ z : List Int32, z = [] := ⟨_, rfl⟩
 rw [← e_bF] at F_o6494_a
 have F_o6494_k : Fld Z hh o6494 cS "coder" "B" (.int kF) := by rw [e_kF]; exact F_o6494_k
 have A_bF : Arv Z hh bF k_bF .byte zF (Y zsF) (.int i0) := by rw [e_bF, e_k, e_zF, e_zsF]; exact A_b6498
 have hvT : own_T [] kF zF zsF := by rw [e_kF, e_zF, e_zsF]; exact own_tL0  
 exact hQ _ _ ⟨bF, kF, k_bF, zF, zsF, rfl, hvT, E_o6494, F_o6494_a, F_o6494_k, Kp, A_bF⟩
theorem rm_a95 (hw : Hw a0 Z) (o6494 : Addr) (o6495 : Addr) (k_o6495 : ClassId) (h0 : Heap) (n0 : Nat) (Z0 : n0 ≤ h0.size) (E_o6494 : Exa Z h0 o6494 cS) (F_o6494_a : Fld Z h0 o6494 cS "value" "[B" .null) (F_o6494_k : Fld Z h0 o6494 cS "coder" "B" (.int i0)) (A_o6495 : Arv Z h0 o6495 k_o6495 .char i0 [] (.int i0)) (g_o6494 : n0 ≤ o6494) (ne_o6494_o6495 : o6494 ≠ o6495) :
  MetH l Z EL1 [o6494] (⟨cS, "<init>", "([C)V"⟩ : MethodName) jdk_42_method_3_code 2 none (rM 2 4 8 29) [] #[.ref o6494, .ref o6495] h0 n0 (fun v h => ∃ (bF : Addr) (kF : Int32) (k_bF : ClassId) (zF : Int32) (zsF : List Int32), v = none ∧ own_T [] kF zF zsF ∧ Keep h0 h [o6494] ∧ Exa Z h o6494 cS ∧ Fld Z h o6494 cS "value" "[B" (.ref bF) ∧ Fld Z h o6494 cS "coder" "B" (.int kF) ∧ Arv Z h bF k_bF .byte zF (Y zsF) (.int i0)) := by
 refine MetH.mkQ (tabs := tables_1) (a0 := a0) (ls0 := #[rv o6494, rv o6495]) (plainFor_of_name pn_java_lang_String) hw Z0 (fun m => by first | (simp [entryFrame, mkF, argsToLocals, Value.category]; done) | rfl) ?_
 intro p e s m below meth c T Q' G' vm k1 hQ hG C X hS Rc hso
 have Kp : Keep h0 h0 [o6494] := Keep.refl _ _
 have H_o6494 : Safe Z EL1 vm h0 o6494 := hso _ (by simp)
 refine s_aloadN 1 C X d2_0 rfl rfl ?_
 refine s_aloadN 2 C X d2_1 rfl rfl ?_
 refine s_iconst 3 C X d2_2 kc_iconst_0 ?_
 refine s_aloadN 4 C X d2_3 rfl rfl ?_
 refine s_arraylength 5 C X d2_4 A_o6495 ?_
 refine s_aconstNull 6 C X d2_5 ?_
 refine s_hcallC 9 [.ref o6495, .int i0, .int i0, .null] [] 0 C X hS Rc.2 (own_EL hw) Rc.1.1 d2_6 rfl (mW 15 rfl) (mW 16 rfl) (mW 11 rfl) (mW 18 rfl) (rm_a94 l Z a0 hw o6494 o6495 _ n0 X.sz E_o6494 F_o6494_a F_o6494_k g_o6494) (lenOf pd___CIILjava_lang_Void__V rfl) rfl rfl rfl (soS ⟨E_o6494.lt, H_o6494⟩ so0) (fun T v hh vm k1 C X hS Nk Rn q => ?_)
 obtain ⟨bF, kF, k_bF, zF, zsF, rfl, hvT, E_o6494, F_o6494_a, F_o6494_k, Kc, A_bF⟩ := q
 have Rc := Rc.call Rn Nk
 have Kp := Kp.trans Kc (allS (Or.inl (by simp)) all0)
 refine rc (st' := []) rfl ?_
 refine s_return C X d2_9 rfl ?_ (FGH hG hS Rc C (own_EL hw))
 exact hQ _ _ ⟨bF, kF, k_bF, zF, zsF, rfl, hvT, Kp, E_o6494, F_o6494_a, F_o6494_k, A_bF⟩
theorem rm_a96 (hw : Hw a0 Z) (cs : Int32) (fm : Value) (o6494 : Addr) (bF : Addr) (kF : Int32) (k_bF : ClassId) (zF : Int32) (zsF : List Int32) (xs : List Int32) (h0 : Heap) (n0 : Nat) (Z0 : n0 ≤ h0.size) (Od : Old Z n0 h0) (S_cs : Sta Z Z.heap cS cC "Z" (.int cs)) (S_fm : Sta Z Z.heap cP cM cF fm) (S_ad : Sta Z Z.heap cU "$assertionsDisabled" "Z" (.int i1)) (S_hi : Sta Z Z.heap cU "HI_BYTE_SHIFT" "I" (.int i0)) (S_lo : Sta Z Z.heap cU "LO_BYTE_SHIFT" "I" (.int i8)) (E_o6494 : Exa Z h0 o6494 cS) (F_o6494_a : Fld Z h0 o6494 cS "value" "[B" (.ref bF)) (F_o6494_k : Fld Z h0 o6494 cS "coder" "B" (.int kF)) (A_bF : Arv Z h0 bF k_bF .byte zF (Y zsF) (.int i0)) (hv_cs : ¬ cs = i0) (hv_fm : fm.isRef = true) (hvS : own_T xs kF zF zsF) (hvL : xs.length = 0) :
  MetH l Z EL1 [] (⟨"com/example/tinsel_tally/tinseltally/Blanks", "strip", "(Ljava/lang/String;)Ljava/lang/String;"⟩ : MethodName) prog_3_method_2_code 3 (some (.object cS)) (rM 7 3 16 119) [] #[.ref o6494] h0 n0 (fun v h => ∃ (bFq : Addr) (eFt : Int32) (kFq : Int32) (k_bFq : ClassId) (lFq : Int32) (rFq : Addr) (sFt : Int32) (zFq : Int32) (zsFq : List Int32), v = some (.ref rFq) ∧ own_S xs sFt eFt ∧ lFq.toInt = eFt.toInt - sFt.toInt ∧ own_T (sl xs sFt.toNatClampNeg lFq.toNatClampNeg) kFq zFq zsFq ∧ Keep h0 h [] ∧ Old Z n0 h ∧ Exa Z h rFq cS ∧ Fld Z h rFq cS "coder" "B" (.int kFq) ∧ Fld Z h rFq cS "value" "[B" (.ref bFq) ∧ Arv Z h bFq k_bFq .byte zFq (Y zsFq) (.int i0)) := by
 refine MetH.mkQ (tabs := tables_1) (a0 := a0) (ls0 := #[rv o6494, un, un]) (plainFor_of_name pn_com_example_tinsel_tally_tinseltally_Blanks) hw Z0 (fun m => by first | (simp [entryFrame, mkF, argsToLocals, Value.category]; done) | rfl) ?_
 intro p e s m below meth c T Q' G' vm k1 hQ hG C X hS Rc hso
 have Kp : Keep h0 h0 [] := Keep.refl _ _
 refine s_iconst 1 C X d5_0 kc_iconst_0 ?_
 refine s_istoreN 2 C X (l' := #[rv o6494, iv i0, un]) d5_1 rfl ?_
 refine s_iloadN 3 C X d5_2 rfl ?_
 refine s_aloadN 4 C X d5_3 rfl rfl ?_
 refine s_callV 7 [] [.int i0] 1 C X d5_4 (mW 34 rfl) (mW 35 rfl) (nF C (mW 37 rfl)) (mW 37 rfl) (mW 36 rfl) (mW 11 rfl) (mW 38 rfl) E_o6494 (rm_a20 l Z a0 hw cs o6494 bF kF k_bF zF zsF xs _ n0 X.sz S_cs E_o6494 F_o6494_a F_o6494_k Od A_bF hv_cs hvS) (lenOf pd___I rfl) rfl rfl rfl (fun T v hh X q => ?_)
 obtain ⟨rfl, Kc, Od⟩ := q
 have Rc := Rc.keep Kc so0
 have E_o6494 := E_o6494.keep Kc
 have F_o6494_a := F_o6494_a.keep Kc nin0
 have F_o6494_k := F_o6494_k.keep Kc nin0
 have A_bF := A_bF.keep Kc nin0
 have Kp := Kp.trans Kc all0
 refine rc (st' := [(.int (zF >>> (kF &&& 31))), .int i0]) rfl ?_
 refine rc (st' := [.int i0, .int i0]) (by rw [own_lenN hvS hvL (L := i0) (by decide)]) ?_
 refine s_icmp_ge 27 10 C X d5_7 (fun _ => ?_) (fun c => absurd c (by decide))
 refine s_aloadN 28 C X d5_27 rfl rfl ?_
 refine s_callV 31 [] [] 0 C X d5_28 (mW 34 rfl) (mW 35 rfl) (nF C (mW 37 rfl)) (mW 37 rfl) (mW 36 rfl) (mW 11 rfl) (mW 38 rfl) E_o6494 (rm_a20 l Z a0 hw cs o6494 bF kF k_bF zF zsF xs _ n0 X.sz S_cs E_o6494 F_o6494_a F_o6494_k Od A_bF hv_cs hvS) (lenOf pd___I rfl) rfl rfl rfl (fun T v hh X q => ?_)
 obtain ⟨rfl, Kc, Od⟩ := q
 have Rc := Rc.keep Kc so0
 have E_o6494 := E_o6494.keep Kc
 have F_o6494_a := F_o6494_a.keep Kc nin0
 have F_o6494_k := F_o6494_k.keep Kc nin0
 have A_bF := A_bF.keep Kc nin0
 have Kp := Kp.trans Kc all0
 refine rc (st' := [(.int (zF >>> (kF &&& 31)))]) rfl ?_
 refine rc (st' := [.int i0]) (by rw [own_lenN hvS hvL (L := i0) (by decide)]) ?_
 refine s_istoreN 32 C X (l' := #[rv o6494, iv i0, iv i0]) d5_31 rfl ?_
 refine s_iloadN 33 C X d5_32 rfl ?_
 refine s_iloadN 34 C X d5_33 rfl ?_
 refine s_icmp_le 56 37 C X d5_34 (fun _ => ?_) (fun c => absurd c (by decide))
 refine s_aloadN 57 C X d5_56 rfl rfl ?_
 refine s_iloadN 58 C X d5_57 rfl ?_
 refine s_iloadN 59 C X d5_58 rfl ?_
 obtain ⟨ev6554, e_ev6554⟩ : ∃ zz_ : Int32, zz_ = i0 := ⟨_, rfl⟩
 refine rc (st' := [.int ev6554, .int i0, .ref o6494]) (by subst e_ev6554; rfl) ?_
 obtain ⟨sv6555, e_sv6555⟩ : ∃ zz_ : Int32, zz_ = i0 := ⟨_, rfl⟩
 refine rc (st' := [.int ev6554, .int sv6555, .ref o6494]) (by subst e_sv6555; rfl) ?_
 have hvse : own_se xs sv6555 ev6554 := by rw [e_sv6555, e_ev6554]; exact ⟨by decide, by decide, by rw [hvL]; decide⟩
 refine s_hcallV 62 [.int sv6555, .int ev6554] [] 0 C X hS Rc.2 (own_EL hw) Rc.1.1 d5_59 (mW 45 rfl) (mW 46 rfl) (nF C (mW 48 rfl)) (mW 48 rfl) (mW 47 rfl) (mW 11 rfl) (mW 49 rfl) E_o6494 (rm_a50 l Z a0 hw cs fm o6494 bF kF k_bF zF zsF xs ev6554 sv6555 _ n0 X.sz S_cs S_fm S_ad S_hi S_lo E_o6494 F_o6494_a F_o6494_k A_bF Od hv_cs hv_fm hvS hvse) (lenOf pd__II_Ljava_lang_String_ rfl) rfl rfl rfl so0 (fun T v hh vm k1 C X hS Nk Rn q => ?_)
 obtain ⟨bFq, kFq, k_bFq, lFq, rFq, zFq, zsFq, rfl, hvle, hvR, Kc, Od, E_rFq, F_rFq_k, F_rFq_a, A_bFq⟩ := q
 have Rc := Rc.call Rn Nk
 have Kp := Kp.trans Kc all0
 refine rc (st' := [.ref rFq]) rfl ?_
 refine s_areturn C X d5_62 rfl rfl rfl ?_ (FGH hG hS Rc C (own_EL hw))
 obtain ⟨sFt, e_sFt⟩ : ∃ z : Int32, z = sv6555 := ⟨_, rfl⟩
 obtain ⟨eFt, e_eFt⟩ : ∃ z : Int32, z = ev6554 := ⟨_, rfl⟩
 have js : sFt.toInt = 0 := by rw [e_sFt, e_sv6555]; decide
 have je : eFt.toInt = 0 := by rw [e_eFt, e_ev6554]; decide
 have jn := hvL
 have hvS : own_S xs sFt eFt := by
  refine ⟨⟨by omega, by omega, by omega⟩, fun i hi => ?_, fun i hi hj => ?_, ?_⟩
  ·omega
  ·omega
  ·exact Or.inr ⟨by omega, by omega⟩
 have hvl : lFq.toInt = eFt.toInt - sFt.toInt := by rw [e_sFt, e_eFt]; exact hvle
 have hvR : own_T (sl xs sFt.toNatClampNeg lFq.toNatClampNeg) kFq zFq zsFq := by rw [e_sFt]; exact hvR
 exact hQ _ _ ⟨bFq, eFt, kFq, k_bFq, lFq, rFq, sFt, zFq, zsFq, rfl, hvS, hvl, hvR, Kp, Od, E_rFq, F_rFq_k, F_rFq_a, A_bFq⟩
theorem rm0 (hw : Hw a0 Z) (x0 x1 x2 x3 x4 cs : Int32) (fm : Value) (h0 : Heap) (n0 : Nat) (Z0 : n0 ≤ h0.size) (Od : Old Z n0 h0) (S_cs : Sta Z Z.heap cS cC "Z" (.int cs)) (S_fm : Sta Z Z.heap cP cM cF fm) (S_ad : Sta Z Z.heap cU "$assertionsDisabled" "Z" (.int i1)) (S_hi : Sta Z Z.heap cU "HI_BYTE_SHIFT" "I" (.int i0)) (S_lo : Sta Z Z.heap cU "LO_BYTE_SHIFT" "I" (.int i8)) (hv_cs : ¬ cs = i0) (hv_fm : fm.isRef = true) :
  MetH l Z EL1 [] x code maxLocals ret room_1 tables_1 #[.int x0, .int x1, .int x2, .int x3, .int x4] h0 n0 (fun v h => v = some (.int 1)) := by
 refine MetH.mkQ (tabs := tables_1) (a0 := a0) (ls0 := #[iv x0, iv x1, iv x2, iv x3, iv x4, un, un, un, un, un, un, un, un, un, un, un, un, un, un, un, un]) (plainFor_of_name pn_com_example_tinsel_tally_tinseltally_BlanksStripPinLaw) hw Z0 (fun m => by first | (simp [entryFrame, mkF, argsToLocals, Value.category, maxLocals]; done) | rfl) ?_
 intro p e s m below meth c T Q' G' vm k1 hQ hG C X hS Rc hso
 have Kp : Keep h0 h0 [] := Keep.refl _ _
 refine s_iloadN 1 C X at_0 rfl ?_
 refine s_ldcInt 3 C X at_1 (mW 0 rfl) ?_
 refine s_iand 4 C X at_3 ?_
 refine s_iconst 5 C X at_4 kc_iconst_5 ?_
 refine s_irem 6 C X at_5 (by decide) ?_
 obtain ⟨nv1, e_nv1⟩ : ∃ zz_ : Int32, zz_ = ((x0 &&& (2147483647 : Int32)) % i5) := ⟨_, rfl⟩
 refine rc (st' := [.int nv1]) (by subst e_nv1; rfl) ?_
 have hv_nv1 : own_N nv1 := by rw [e_nv1]; exact own_n _
 refine s_istore 8 C X (l' := #[iv x0, iv x1, iv x2, iv x3, iv x4, iv nv1, un, un, un, un, un, un, un, un, un, un, un, un, un, un, un]) at_6 rfl ?_
 refine s_iloadN 9 C X at_8 rfl ?_
 refine s_callS 12 [.int x1] [] 0 C X at_9 (mW 1 rfl) (mW 2 rfl) (mW 3 rfl) (mW 4 rfl) (rm_a1 l Z a0 hw (x1) _ n0 X.sz ) (lenOf pd__I_C rfl) rfl rfl rfl (fun T v hh X q => ?_)
 obtain ⟨yF, rfl, hvU, Kc⟩ := q
 have Rc := Rc.keep Kc so0
 have Od := Od.keep Kc all0
 have Kp := Kp.trans Kc all0
 refine rc (st' := [.int yF]) rfl ?_
 refine s_istore 14 C X (l' := #[iv x0, iv x1, iv x2, iv x3, iv x4, iv nv1, iv yF, un, un, un, un, un, un, un, un, un, un, un, un, un, un]) at_12 rfl ?_
 refine s_iloadN 15 C X at_14 rfl ?_
 refine s_callS 18 [.int x2] [] 0 C X at_15 (mW 1 rfl) (mW 2 rfl) (mW 3 rfl) (mW 4 rfl) (rm_a1 l Z a0 hw (x2) _ n0 X.sz ) (lenOf pd__I_C rfl) rfl rfl rfl (fun T v hh X q => ?_)
 obtain ⟨yF_8, rfl, hvU_9, Kc⟩ := q
 have Rc := Rc.keep Kc so0
 have Od := Od.keep Kc all0
 have Kp := Kp.trans Kc all0
 refine rc (st' := [.int yF_8]) rfl ?_
 refine s_istore 20 C X (l' := #[iv x0, iv x1, iv x2, iv x3, iv x4, iv nv1, iv yF, iv yF_8, un, un, un, un, un, un, un, un, un, un, un, un, un]) at_18 rfl ?_
 refine s_iloadN 21 C X at_20 rfl ?_
 refine s_callS 24 [.int x3] [] 0 C X at_21 (mW 1 rfl) (mW 2 rfl) (mW 3 rfl) (mW 4 rfl) (rm_a1 l Z a0 hw (x3) _ n0 X.sz ) (lenOf pd__I_C rfl) rfl rfl rfl (fun T v hh X q => ?_)
 obtain ⟨yF_13, rfl, hvU_14, Kc⟩ := q
 have Rc := Rc.keep Kc so0
 have Od := Od.keep Kc all0
 have Kp := Kp.trans Kc all0
 refine rc (st' := [.int yF_13]) rfl ?_
 refine s_istore 26 C X (l' := #[iv x0, iv x1, iv x2, iv x3, iv x4, iv nv1, iv yF, iv yF_8, iv yF_13, un, un, un, un, un, un, un, un, un, un, un, un]) at_24 rfl ?_
 refine s_iload 28 C X at_26 rfl ?_
 refine s_callS 31 [.int x4] [] 0 C X at_28 (mW 1 rfl) (mW 2 rfl) (mW 3 rfl) (mW 4 rfl) (rm_a1 l Z a0 hw (x4) _ n0 X.sz ) (lenOf pd__I_C rfl) rfl rfl rfl (fun T v hh X q => ?_)
 obtain ⟨yF_18, rfl, hvU_19, Kc⟩ := q
 have Rc := Rc.keep Kc so0
 have Od := Od.keep Kc all0
 have Kp := Kp.trans Kc all0
 refine rc (st' := [.int yF_18]) rfl ?_
 refine s_istore 33 C X (l' := #[iv x0, iv x1, iv x2, iv x3, iv x4, iv nv1, iv yF, iv yF_8, iv yF_13, iv yF_18, un, un, un, un, un, un, un, un, un, un, un]) at_31 rfl ?_
 refine s_iload 35 C X at_33 rfl ?_
 suffices J353 : ∀ (T : State) (hh : Heap) (vm : Vm) (k1 : Nat) (qJ10 qJ11 qJ12 qJ13 qJ14 qJ16 : Slot) (sJ : Int32) (mJ : Int32) (rJ : Addr) (bJ : Addr) (k_bJ : ClassId) (kJ : Int32) (zJ : Int32) (zsJ : List Int32) (ysJ : List Int32) (hvM : own_M sJ mJ ysJ [yF, yF_8, yF_13, yF_18]) (hvY : own_T ysJ kJ zJ zsJ) (C : Cx tables_1 a0 Z x.cls x.name code maxLocals ret p (s.setVm vm) m meth c) (X : St p l e room_1 (s.setVm vm) m #[.int x0, .int x1, .int x2, .int x3, .int x4] below meth c n0 T hh 24 260) (hS : s.Since vm k1) (Od : Old Z n0 hh) (Kp : Keep h0 hh []) (Rc : Rk Z EL1 s.vm h0 vm k1 hh) (E_rJ : Exa Z hh rJ cS) (F_rJ_k : Fld Z hh rJ cS "coder" "B" (.int kJ)) (F_rJ_a : Fld Z hh rJ cS "value" "[B" (.ref bJ)) (A_bJ : Arv Z hh bJ k_bJ .byte zJ (Y zsJ) (.int i0)), Run p e below n0 Q' G' m T 353 #[iv x0, iv x1, iv x2, iv x3, iv x4, iv nv1, iv yF, iv yF_8, iv yF_13, iv yF_18, qJ10, qJ11, qJ12, qJ13, qJ14, iv sJ, qJ16, iv mJ, un, un, un] [.ref rJ] by
  refine s_if_ne 53 38 C X at_35 (fun c35_20 => ?_) (fun c35_20 => ?_)
  ·have t_c35_20 : ¬ ((nv1).toInt = (0 : Int)) := fun q => c35_20 (Int32.toInt_inj.mp q)
   refine s_iload 55 C X at_53 rfl ?_
   refine s_iconst 56 C X at_55 kc_iconst_1 ?_
   refine s_icmp_ne 79 59 C X at_56 (fun c56_21 => ?_) (fun c56_21 => ?_)
   ·have t_c56_21 : ¬ ((nv1).toInt = (1 : Int)) := fun q => c56_21 (Int32.toInt_inj.mp q)
    refine s_iload 81 C X at_79 rfl ?_
    refine s_iconst 82 C X at_81 kc_iconst_2 ?_
    refine s_icmp_ne 110 85 C X at_82 (fun c82_22 => ?_) (fun c82_22 => ?_)
    ·have t_c82_22 : ¬ ((nv1).toInt = (2 : Int)) := fun q => c82_22 (Int32.toInt_inj.mp q)
     refine s_iload 112 C X at_110 rfl ?_
     refine s_iconst 113 C X at_112 kc_iconst_3 ?_
     refine s_icmp_ne 146 116 C X at_113 (fun c113_23 => ?_) (fun c113_23 => ?_)
     ·have t_c113_23 : ¬ ((nv1).toInt = (3 : Int)) := fun q => c113_23 (Int32.toInt_inj.mp q)
      refine s_new 149 C X at_146 (mW 9 rfl) (mW 10 rfl) (mW 11 rfl) (fun T hh o24 hb_o24 X E E_o24 D g_o24 => ?_)
      have H_o24 : Safe Z EL1 vm _ o24 := Safe.ext E Rc.1.1 (Safe.new (Nat.le_of_eq hb_o24))
      have Rc := Rc.ext E
      have sz_o24 : h0.size ≤ o24 := Nat.le_trans Kp.1 (Nat.le_of_eq hb_o24)
      have Od := Od.ext E
      have Kp := Kp.ext E
      have F_o24_a : Fld Z _ o24 cS "value" "[B" .null := D (Or.inr (hw _ (mW 24 rfl))) (ty := (.array .byte)) (by decide)
      have F_o24_k : Fld Z _ o24 cS "coder" "B" (.int i0) := D (Or.inr (hw _ (mW 25 rfl))) (ty := .byte) (by decide)
      refine s_dup 150 C X at_149 rfl ?_
      refine s_iconst 151 C X at_150 kc_iconst_4 ?_
      refine s_newarray 153 4 C X at_151 (mW 5 rfl) (by decide) (by decide) (fun T hh o25 k_o25 hb_o25 X E A_o25 g_o25 => ?_)
      have H_o24 := Safe.ext E Rc.1.1 H_o24
      have H_o25 : Safe Z EL1 vm _ o25 := Safe.ext E Rc.1.1 (Safe.new (Nat.le_of_eq hb_o25))
      have Rc := Rc.ext E
      have sz_o25 : h0.size ≤ o25 := Nat.le_trans Kp.1 (Nat.le_of_eq hb_o25)
      have ne_o24_o25 : o24 ≠ o25 := Nat.ne_of_lt (Nat.lt_of_lt_of_le E_o24.lt (Nat.le_of_eq hb_o25))
      have Od := Od.ext E
      have Kp := Kp.ext E
      have E_o24 := E_o24.ext E
      have F_o24_a := F_o24_a.ext E
      have F_o24_k := F_o24_k.ext E
      have A_o25 : Arv Z _ o25 k_o25 .char i4 [.int i0, .int i0, .int i0, .int i0] (.int i0) := A_o25.pad (pad_rep [] _ 4)
      refine s_dup 154 C X at_153 rfl ?_
      refine s_iconst 155 C X at_154 kc_iconst_0 ?_
      refine s_iload 157 C X at_155 rfl ?_
      have Sf : Safe Z EL1 vm _ o25 := H_o25
      refine s_castore 158 0 C X at_157 A_o25 g_o25 ⟨by decide, by decide⟩ rfl (Nat.le_of_ble_eq_true rfl) (fun T hh X W A_o25 => ?_)
      have A_o25 : Arv Z _ o25 k_o25 .char i4 [(.int (nar .char yF)), .int i0, .int i0, .int i0] (.int i0) := A_o25
      have H_o24 := Safe.wr W Sf Rc.1.1 H_o24
      have H_o25 := Safe.wr W Sf Rc.1.1 H_o25
      have Rc := Rc.wr W Sf
      have Od := Od.wr W g_o25
      have Kp := Kp.wr W (Or.inr sz_o25)
      have E_o24 := E_o24.wr W
      have F_o24_a := F_o24_a.other W (Or.inl ne_o24_o25)
      have F_o24_k := F_o24_k.other W (Or.inl ne_o24_o25)
      rw [own_nU hvU] at A_o25
      refine s_dup 159 C X at_158 rfl ?_
      refine s_iconst 160 C X at_159 kc_iconst_1 ?_
      refine s_iload 162 C X at_160 rfl ?_
      have Sf : Safe Z EL1 vm _ o25 := H_o25
      refine s_castore 163 1 C X at_162 A_o25 g_o25 ⟨by decide, by decide⟩ rfl (Nat.le_of_ble_eq_true rfl) (fun T hh X W A_o25 => ?_)
      have A_o25 : Arv Z _ o25 k_o25 .char i4 [.int yF, (.int (nar .char yF_8)), .int i0, .int i0] (.int i0) := A_o25
      have H_o24 := Safe.wr W Sf Rc.1.1 H_o24
      have H_o25 := Safe.wr W Sf Rc.1.1 H_o25
      have Rc := Rc.wr W Sf
      have Od := Od.wr W g_o25
      have Kp := Kp.wr W (Or.inr sz_o25)
      have E_o24 := E_o24.wr W
      have F_o24_a := F_o24_a.other W (Or.inl ne_o24_o25)
      have F_o24_k := F_o24_k.other W (Or.inl ne_o24_o25)
      rw [own_nU hvU_9] at A_o25
      refine s_dup 164 C X at_163 rfl ?_
      refine s_iconst 165 C X at_164 kc_iconst_2 ?_
      refine s_iload 167 C X at_165 rfl ?_
      have Sf : Safe Z EL1 vm _ o25 := H_o25
      refine s_castore 168 2 C X at_167 A_o25 g_o25 ⟨by decide, by decide⟩ rfl (Nat.le_of_ble_eq_true rfl) (fun T hh X W A_o25 => ?_)
      have A_o25 : Arv Z _ o25 k_o25 .char i4 [.int yF, .int yF_8, (.int (nar .char yF_13)), .int i0] (.int i0) := A_o25
      have H_o24 := Safe.wr W Sf Rc.1.1 H_o24
      have H_o25 := Safe.wr W Sf Rc.1.1 H_o25
      have Rc := Rc.wr W Sf
      have Od := Od.wr W g_o25
      have Kp := Kp.wr W (Or.inr sz_o25)
      have E_o24 := E_o24.wr W
      have F_o24_a := F_o24_a.other W (Or.inl ne_o24_o25)
      have F_o24_k := F_o24_k.other W (Or.inl ne_o24_o25)
      rw [own_nU hvU_14] at A_o25
      refine s_dup 169 C X at_168 rfl ?_
      refine s_iconst 170 C X at_169 kc_iconst_3 ?_
      refine s_iload 172 C X at_170 rfl ?_
      have Sf : Safe Z EL1 vm _ o25 := H_o25
      refine s_castore 173 3 C X at_172 A_o25 g_o25 ⟨by decide, by decide⟩ rfl (Nat.le_of_ble_eq_true rfl) (fun T hh X W A_o25 => ?_)
      have A_o25 : Arv Z _ o25 k_o25 .char i4 [.int yF, .int yF_8, .int yF_13, (.int (nar .char yF_18))] (.int i0) := A_o25
      have H_o24 := Safe.wr W Sf Rc.1.1 H_o24
      have Rc := Rc.wr W Sf
      have Od := Od.wr W g_o25
      have Kp := Kp.wr W (Or.inr sz_o25)
      have E_o24 := E_o24.wr W
      have F_o24_a := F_o24_a.other W (Or.inl ne_o24_o25)
      have F_o24_k := F_o24_k.other W (Or.inl ne_o24_o25)
      rw [own_nU hvU_19] at A_o25
      refine s_hcallC 176 [.ref o25] [.ref o24] 1 C X hS Rc.2 (own_EL hw) Rc.1.1 at_173 rfl (mW 12 rfl) (mW 13 rfl) (mW 11 rfl) (mW 14 rfl) (rm_a18 l Z a0 hw cs yF yF_8 yF_13 yF_18 o24 o25 k_o25 _ n0 X.sz Od S_cs S_ad S_hi S_lo E_o24 F_o24_a F_o24_k A_o25 hv_cs hvU hvU_9 hvU_14 hvU_19 g_o24 ne_o24_o25) (lenOf pd___C_V rfl) rfl rfl rfl (soS ⟨E_o24.lt, H_o24⟩ so0) (fun T v hh vm k1 C X hS Nk Rn q => ?_)
      obtain ⟨bF, kF, k_bF, zF, zsF, rfl, hvT, Kc, E_o24, F_o24_a, F_o24_k, Od, A_bF⟩ := q
      have Rc := Rc.call Rn Nk
      have Kp := Kp.trans Kc (allS (Or.inr sz_o24) all0)
      refine rc (st' := [.ref o24]) rfl ?_
      refine s_astore 178 C X (l' := #[iv x0, iv x1, iv x2, iv x3, iv x4, iv nv1, iv yF, iv yF_8, iv yF_13, iv yF_18, rv o24, un, un, un, un, un, un, un, un, un, un]) at_176 rfl rfl ?_
      obtain ⟨xs, e_xs⟩ : ∃ z : List Int32, z = [yF, yF_8, yF_13, yF_18] := ⟨_, rfl⟩
      have hvS : own_T xs kF zF zsF := by rw [e_xs]; exact hvT
      have hvL : xs.length = 4 := by rw [e_xs]; rfl
      refine s_iload 180 C X at_178 rfl ?_
      suffices J143 : ∀ (T : State) (hh : Heap) (vm : Vm) (k1 : Nat) (y142 : Int32) (D143 : ((¬ ((0 : Int) < (nv1).toInt)) ∧ y142 = i0) ∨ (((0 : Int) < (nv1).toInt) ∧ blankP (yF).toInt ∧ y142 = i0) ∨ (((0 : Int) < (nv1).toInt) ∧ ¬ blankP (yF).toInt ∧ y142 = i1)) (C : Cx tables_1 a0 Z x.cls x.name code maxLocals ret p (s.setVm vm) m meth c) (X : St p l e room_1 (s.setVm vm) m #[.int x0, .int x1, .int x2, .int x3, .int x4] below meth c n0 T hh 8 228) (hS : s.Since vm k1) (Kp : Keep h0 hh []) (Rc : Rk Z EL1 s.vm h0 vm k1 hh) (E_o24 : Exa Z hh o24 cS) (F_o24_a : Fld Z hh o24 cS "value" "[B" (.ref bF)) (F_o24_k : Fld Z hh o24 cS "coder" "B" (.int kF)) (Od : Old Z n0 hh) (A_bF : Arv Z hh bF k_bF .byte zF (Y zsF) (.int i0)), Run p e below n0 Q' G' m T 196 #[iv x0, iv x1, iv x2, iv x3, iv x4, iv nv1, iv yF, iv yF_8, iv yF_13, iv yF_18, rv o24, un, un, un, un, un, un, un, un, un, un] [.int y142] by
       refine s_if_le 195 183 C X at_180 (fun c180_137 => ?_) (fun c180_137 => ?_)
       ·have t_c180_137 : ¬ ((0 : Int) < (nv1).toInt) := fun q => c180_137 (Int32.lt_iff_toInt_lt.mpr q)
        refine s_iconst 196 C X at_195 kc_iconst_0 ?_
        exact J143 T _ _ _ (i0) ((Or.inl ⟨t_c180_137, rfl⟩)) C X hS Kp Rc E_o24 F_o24_a F_o24_k Od A_bF
       have t_c180_137 : (0 : Int) < (nv1).toInt := Int32.lt_iff_toInt_lt.mp c180_137
       refine s_iload 185 C X at_183 rfl ?_
       refine s_callS 188 [.int yF] [] 0 C X at_185 (mW 70 rfl) (mW 71 rfl) (mW 3 rfl) (mW 72 rfl) (rm_blank l Z a0 hw (yF) _ n0 X.sz) (lenOf pd__C_Z rfl) rfl rfl rfl (fun T v h13 X q => ?_)
       obtain ⟨⟨rfl, b138⟩ | ⟨rfl, b138⟩, hE⟩ := q
       ·rw [hE] at X
        refine rc (st' := [.int i1]) rfl ?_
        refine s_if_ne 195 191 C X at_188 (fun _ => ?_) (fun c => absurd c (by decide))
        refine s_iconst 196 C X at_195 kc_iconst_0 ?_
        exact J143 T _ _ _ (i0) (Or.inr (Or.inl ⟨t_c180_137, b138, rfl⟩)) C X hS Kp Rc E_o24 F_o24_a F_o24_k Od A_bF
       ·rw [hE] at X
        refine rc (st' := [.int i0]) rfl ?_
        refine s_if_ne 195 191 C X at_188 (fun c => absurd (by decide : i0 = i0) c) (fun _ => ?_)
        refine s_iconst 192 C X at_191 kc_iconst_1 ?_
        refine s_goto 196 C X at_192 ?_
        exact J143 T _ _ _ (i1) (Or.inr (Or.inr ⟨t_c180_137, b138, rfl⟩)) C X hS Kp Rc E_o24 F_o24_a F_o24_k Od A_bF
      intro T hh vm k1 y142 D143  C X hS Kp Rc E_o24 F_o24_a F_o24_k Od A_bF
      refine s_istore 198 C X (l' := #[iv x0, iv x1, iv x2, iv x3, iv x4, iv nv1, iv yF, iv yF_8, iv yF_13, iv yF_18, rv o24, iv y142, un, un, un, un, un, un, un, un, un]) at_196 rfl ?_
      refine s_iload 200 C X at_198 rfl ?_
      refine s_iconst 201 C X at_200 kc_iconst_1 ?_
      suffices J150 : ∀ (T : State) (hh : Heap) (vm : Vm) (k1 : Nat) (y149 : Int32) (D150 : ((¬ ((1 : Int) < (nv1).toInt)) ∧ y149 = i0) ∨ (((1 : Int) < (nv1).toInt) ∧ blankP (yF_8).toInt ∧ y149 = i0) ∨ (((1 : Int) < (nv1).toInt) ∧ ¬ blankP (yF_8).toInt ∧ y149 = i1)) (C : Cx tables_1 a0 Z x.cls x.name code maxLocals ret p (s.setVm vm) m meth c) (X : St p l e room_1 (s.setVm vm) m #[.int x0, .int x1, .int x2, .int x3, .int x4] below meth c n0 T hh 8 228) (hS : s.Since vm k1) (Kp : Keep h0 hh []) (Rc : Rk Z EL1 s.vm h0 vm k1 hh) (E_o24 : Exa Z hh o24 cS) (F_o24_a : Fld Z hh o24 cS "value" "[B" (.ref bF)) (F_o24_k : Fld Z hh o24 cS "coder" "B" (.int kF)) (Od : Old Z n0 hh) (A_bF : Arv Z hh bF k_bF .byte zF (Y zsF) (.int i0)), Run p e below n0 Q' G' m T 217 #[iv x0, iv x1, iv x2, iv x3, iv x4, iv nv1, iv yF, iv yF_8, iv yF_13, iv yF_18, rv o24, iv y142, un, un, un, un, un, un, un, un, un] [.int y149] by
       refine s_icmp_le 216 204 C X at_201 (fun c201_144 => ?_) (fun c201_144 => ?_)
       ·have t_c201_144 : ¬ ((1 : Int) < (nv1).toInt) := fun q => c201_144 (Int32.lt_iff_toInt_lt.mpr q)
        refine s_iconst 217 C X at_216 kc_iconst_0 ?_
        exact J150 T _ _ _ (i0) ((Or.inl ⟨t_c201_144, rfl⟩)) C X hS Kp Rc E_o24 F_o24_a F_o24_k Od A_bF
       have t_c201_144 : (1 : Int) < (nv1).toInt := Int32.lt_iff_toInt_lt.mp c201_144
       refine s_iload 206 C X at_204 rfl ?_
       refine s_callS 209 [.int yF_8] [] 0 C X at_206 (mW 70 rfl) (mW 71 rfl) (mW 3 rfl) (mW 72 rfl) (rm_blank l Z a0 hw (yF_8) _ n0 X.sz) (lenOf pd__C_Z rfl) rfl rfl rfl (fun T v h12 X q => ?_)
       obtain ⟨⟨rfl, b145⟩ | ⟨rfl, b145⟩, hE⟩ := q
       ·rw [hE] at X
        refine rc (st' := [.int i1]) rfl ?_
        refine s_if_ne 216 212 C X at_209 (fun _ => ?_) (fun c => absurd c (by decide))
        refine s_iconst 217 C X at_216 kc_iconst_0 ?_
        exact J150 T _ _ _ (i0) (Or.inr (Or.inl ⟨t_c201_144, b145, rfl⟩)) C X hS Kp Rc E_o24 F_o24_a F_o24_k Od A_bF
       ·rw [hE] at X
        refine rc (st' := [.int i0]) rfl ?_
        refine s_if_ne 216 212 C X at_209 (fun c => absurd (by decide : i0 = i0) c) (fun _ => ?_)
        refine s_iconst 213 C X at_212 kc_iconst_1 ?_
        refine s_goto 217 C X at_213 ?_
        exact J150 T _ _ _ (i1) (Or.inr (Or.inr ⟨t_c201_144, b145, rfl⟩)) C X hS Kp Rc E_o24 F_o24_a F_o24_k Od A_bF
      intro T hh vm k1 y149 D150  C X hS Kp Rc E_o24 F_o24_a F_o24_k Od A_bF
      refine s_istore 219 C X (l' := #[iv x0, iv x1, iv x2, iv x3, iv x4, iv nv1, iv yF, iv yF_8, iv yF_13, iv yF_18, rv o24, iv y142, iv y149, un, un, un, un, un, un, un, un]) at_217 rfl ?_
      refine s_iload 221 C X at_219 rfl ?_
      refine s_iconst 222 C X at_221 kc_iconst_2 ?_
      suffices J157 : ∀ (T : State) (hh : Heap) (vm : Vm) (k1 : Nat) (y156 : Int32) (D157 : ((¬ ((2 : Int) < (nv1).toInt)) ∧ y156 = i0) ∨ (((2 : Int) < (nv1).toInt) ∧ blankP (yF_13).toInt ∧ y156 = i0) ∨ (((2 : Int) < (nv1).toInt) ∧ ¬ blankP (yF_13).toInt ∧ y156 = i1)) (C : Cx tables_1 a0 Z x.cls x.name code maxLocals ret p (s.setVm vm) m meth c) (X : St p l e room_1 (s.setVm vm) m #[.int x0, .int x1, .int x2, .int x3, .int x4] below meth c n0 T hh 8 228) (hS : s.Since vm k1) (Kp : Keep h0 hh []) (Rc : Rk Z EL1 s.vm h0 vm k1 hh) (E_o24 : Exa Z hh o24 cS) (F_o24_a : Fld Z hh o24 cS "value" "[B" (.ref bF)) (F_o24_k : Fld Z hh o24 cS "coder" "B" (.int kF)) (Od : Old Z n0 hh) (A_bF : Arv Z hh bF k_bF .byte zF (Y zsF) (.int i0)), Run p e below n0 Q' G' m T 238 #[iv x0, iv x1, iv x2, iv x3, iv x4, iv nv1, iv yF, iv yF_8, iv yF_13, iv yF_18, rv o24, iv y142, iv y149, un, un, un, un, un, un, un, un] [.int y156] by
       refine s_icmp_le 237 225 C X at_222 (fun c222_151 => ?_) (fun c222_151 => ?_)
       ·have t_c222_151 : ¬ ((2 : Int) < (nv1).toInt) := fun q => c222_151 (Int32.lt_iff_toInt_lt.mpr q)
        refine s_iconst 238 C X at_237 kc_iconst_0 ?_
        exact J157 T _ _ _ (i0) ((Or.inl ⟨t_c222_151, rfl⟩)) C X hS Kp Rc E_o24 F_o24_a F_o24_k Od A_bF
       have t_c222_151 : (2 : Int) < (nv1).toInt := Int32.lt_iff_toInt_lt.mp c222_151
       refine s_iload 227 C X at_225 rfl ?_
       refine s_callS 230 [.int yF_13] [] 0 C X at_227 (mW 70 rfl) (mW 71 rfl) (mW 3 rfl) (mW 72 rfl) (rm_blank l Z a0 hw (yF_13) _ n0 X.sz) (lenOf pd__C_Z rfl) rfl rfl rfl (fun T v h11 X q => ?_)
       obtain ⟨⟨rfl, b152⟩ | ⟨rfl, b152⟩, hE⟩ := q
       ·rw [hE] at X
        refine rc (st' := [.int i1]) rfl ?_
        refine s_if_ne 237 233 C X at_230 (fun _ => ?_) (fun c => absurd c (by decide))
        refine s_iconst 238 C X at_237 kc_iconst_0 ?_
        exact J157 T _ _ _ (i0) (Or.inr (Or.inl ⟨t_c222_151, b152, rfl⟩)) C X hS Kp Rc E_o24 F_o24_a F_o24_k Od A_bF
       ·rw [hE] at X
        refine rc (st' := [.int i0]) rfl ?_
        refine s_if_ne 237 233 C X at_230 (fun c => absurd (by decide : i0 = i0) c) (fun _ => ?_)
        refine s_iconst 234 C X at_233 kc_iconst_1 ?_
        refine s_goto 238 C X at_234 ?_
        exact J157 T _ _ _ (i1) (Or.inr (Or.inr ⟨t_c222_151, b152, rfl⟩)) C X hS Kp Rc E_o24 F_o24_a F_o24_k Od A_bF
      intro T hh vm k1 y156 D157  C X hS Kp Rc E_o24 F_o24_a F_o24_k Od A_bF
      refine s_istore 240 C X (l' := #[iv x0, iv x1, iv x2, iv x3, iv x4, iv nv1, iv yF, iv yF_8, iv yF_13, iv yF_18, rv o24, iv y142, iv y149, iv y156, un, un, un, un, un, un, un]) at_238 rfl ?_
      refine s_iload 242 C X at_240 rfl ?_
      refine s_iconst 243 C X at_242 kc_iconst_3 ?_
      suffices J164 : ∀ (T : State) (hh : Heap) (vm : Vm) (k1 : Nat) (y163 : Int32) (D164 : ((¬ ((3 : Int) < (nv1).toInt)) ∧ y163 = i0) ∨ (((3 : Int) < (nv1).toInt) ∧ blankP (yF_18).toInt ∧ y163 = i0) ∨ (((3 : Int) < (nv1).toInt) ∧ ¬ blankP (yF_18).toInt ∧ y163 = i1)) (C : Cx tables_1 a0 Z x.cls x.name code maxLocals ret p (s.setVm vm) m meth c) (X : St p l e room_1 (s.setVm vm) m #[.int x0, .int x1, .int x2, .int x3, .int x4] below meth c n0 T hh 8 228) (hS : s.Since vm k1) (Kp : Keep h0 hh []) (Rc : Rk Z EL1 s.vm h0 vm k1 hh) (E_o24 : Exa Z hh o24 cS) (F_o24_a : Fld Z hh o24 cS "value" "[B" (.ref bF)) (F_o24_k : Fld Z hh o24 cS "coder" "B" (.int kF)) (Od : Old Z n0 hh) (A_bF : Arv Z hh bF k_bF .byte zF (Y zsF) (.int i0)), Run p e below n0 Q' G' m T 259 #[iv x0, iv x1, iv x2, iv x3, iv x4, iv nv1, iv yF, iv yF_8, iv yF_13, iv yF_18, rv o24, iv y142, iv y149, iv y156, un, un, un, un, un, un, un] [.int y163] by
       refine s_icmp_le 258 246 C X at_243 (fun c243_158 => ?_) (fun c243_158 => ?_)
       ·have t_c243_158 : ¬ ((3 : Int) < (nv1).toInt) := fun q => c243_158 (Int32.lt_iff_toInt_lt.mpr q)
        refine s_iconst 259 C X at_258 kc_iconst_0 ?_
        exact J164 T _ _ _ (i0) ((Or.inl ⟨t_c243_158, rfl⟩)) C X hS Kp Rc E_o24 F_o24_a F_o24_k Od A_bF
       have t_c243_158 : (3 : Int) < (nv1).toInt := Int32.lt_iff_toInt_lt.mp c243_158
       refine s_iload 248 C X at_246 rfl ?_
       refine s_callS 251 [.int yF_18] [] 0 C X at_248 (mW 70 rfl) (mW 71 rfl) (mW 3 rfl) (mW 72 rfl) (rm_blank l Z a0 hw (yF_18) _ n0 X.sz) (lenOf pd__C_Z rfl) rfl rfl rfl (fun T v h10 X q => ?_)
       obtain ⟨⟨rfl, b159⟩ | ⟨rfl, b159⟩, hE⟩ := q
       ·rw [hE] at X
        refine rc (st' := [.int i1]) rfl ?_
        refine s_if_ne 258 254 C X at_251 (fun _ => ?_) (fun c => absurd c (by decide))
        refine s_iconst 259 C X at_258 kc_iconst_0 ?_
        exact J164 T _ _ _ (i0) (Or.inr (Or.inl ⟨t_c243_158, b159, rfl⟩)) C X hS Kp Rc E_o24 F_o24_a F_o24_k Od A_bF
       ·rw [hE] at X
        refine rc (st' := [.int i0]) rfl ?_
        refine s_if_ne 258 254 C X at_251 (fun c => absurd (by decide : i0 = i0) c) (fun _ => ?_)
        refine s_iconst 255 C X at_254 kc_iconst_1 ?_
        refine s_goto 259 C X at_255 ?_
        exact J164 T _ _ _ (i1) (Or.inr (Or.inr ⟨t_c243_158, b159, rfl⟩)) C X hS Kp Rc E_o24 F_o24_a F_o24_k Od A_bF
      intro T hh vm k1 y163 D164  C X hS Kp Rc E_o24 F_o24_a F_o24_k Od A_bF
      refine s_istore 261 C X (l' := #[iv x0, iv x1, iv x2, iv x3, iv x4, iv nv1, iv yF, iv yF_8, iv yF_13, iv yF_18, rv o24, iv y142, iv y149, iv y156, iv y163, un, un, un, un, un, un]) at_259 rfl ?_
      refine s_iload 263 C X at_261 rfl ?_
      suffices J171 : ∀ (y170 : Int32) (D171 : (((y142).toInt = (0 : Int)) ∧ ((y149).toInt = (0 : Int)) ∧ ((y156).toInt = (0 : Int)) ∧ ((y163).toInt = (0 : Int)) ∧ y170 = nv1) ∨ (((y142).toInt = (0 : Int)) ∧ ((y149).toInt = (0 : Int)) ∧ ((y156).toInt = (0 : Int)) ∧ (¬ ((y163).toInt = (0 : Int))) ∧ y170 = i3) ∨ (((y142).toInt = (0 : Int)) ∧ ((y149).toInt = (0 : Int)) ∧ (¬ ((y156).toInt = (0 : Int))) ∧ y170 = i2) ∨ (((y142).toInt = (0 : Int)) ∧ (¬ ((y149).toInt = (0 : Int))) ∧ y170 = i1) ∨ ((¬ ((y142).toInt = (0 : Int))) ∧ y170 = i0)), Run p e below n0 Q' G' m T 299 #[iv x0, iv x1, iv x2, iv x3, iv x4, iv nv1, iv yF, iv yF_8, iv yF_13, iv yF_18, rv o24, iv y142, iv y149, iv y156, iv y163, un, un, un, un, un, un] [.int y170] by
       refine s_if_eq 270 266 C X at_263 (fun c263_165 => ?_) (fun c263_165 => ?_)
       ·have t_c263_165 : (y142).toInt = (0 : Int) := congrArg Int32.toInt c263_165
        refine s_iload 272 C X at_270 rfl ?_
        refine s_if_eq 279 275 C X at_272 (fun c272_166 => ?_) (fun c272_166 => ?_)
        ·have t_c272_166 : (y149).toInt = (0 : Int) := congrArg Int32.toInt c272_166
         refine s_iload 281 C X at_279 rfl ?_
         refine s_if_eq 288 284 C X at_281 (fun c281_167 => ?_) (fun c281_167 => ?_)
         ·have t_c281_167 : (y156).toInt = (0 : Int) := congrArg Int32.toInt c281_167
          refine s_iload 290 C X at_288 rfl ?_
          refine s_if_eq 297 293 C X at_290 (fun c290_168 => ?_) (fun c290_168 => ?_)
          ·have t_c290_168 : (y163).toInt = (0 : Int) := congrArg Int32.toInt c290_168
           refine s_iload 299 C X at_297 rfl ?_
           exact J171 (nv1) ((Or.inl ⟨t_c263_165, t_c272_166, t_c281_167, t_c290_168, rfl⟩))
          have t_c290_168 : ¬ ((y163).toInt = (0 : Int)) := fun q => c290_168 (Int32.toInt_inj.mp q)
          refine s_iconst 294 C X at_293 kc_iconst_3 ?_
          refine s_goto 299 C X at_294 ?_
          exact J171 (i3) (Or.inr (Or.inl ⟨t_c263_165, t_c272_166, t_c281_167, t_c290_168, rfl⟩))
         have t_c281_167 : ¬ ((y156).toInt = (0 : Int)) := fun q => c281_167 (Int32.toInt_inj.mp q)
         refine s_iconst 285 C X at_284 kc_iconst_2 ?_
         refine s_goto 299 C X at_285 ?_
         exact J171 (i2) (Or.inr (Or.inr (Or.inl ⟨t_c263_165, t_c272_166, t_c281_167, rfl⟩)))
        have t_c272_166 : ¬ ((y149).toInt = (0 : Int)) := fun q => c272_166 (Int32.toInt_inj.mp q)
        refine s_iconst 276 C X at_275 kc_iconst_1 ?_
        refine s_goto 299 C X at_276 ?_
        exact J171 (i1) (Or.inr (Or.inr (Or.inr (Or.inl ⟨t_c263_165, t_c272_166, rfl⟩))))
       have t_c263_165 : ¬ ((y142).toInt = (0 : Int)) := fun q => c263_165 (Int32.toInt_inj.mp q)
       refine s_iconst 267 C X at_266 kc_iconst_0 ?_
       refine s_goto 299 C X at_267 ?_
       exact J171 (i0) (Or.inr (Or.inr (Or.inr (Or.inr ⟨t_c263_165, rfl⟩))))
      intro y170 D171
      refine s_istore 301 C X (l' := #[iv x0, iv x1, iv x2, iv x3, iv x4, iv nv1, iv yF, iv yF_8, iv yF_13, iv yF_18, rv o24, iv y142, iv y149, iv y156, iv y163, iv y170, un, un, un, un, un]) at_299 rfl ?_
      refine s_iload 303 C X at_301 rfl ?_
      suffices J178 : ∀ (y177 : Int32) (D178 : (((y163).toInt = (0 : Int)) ∧ ((y156).toInt = (0 : Int)) ∧ ((y149).toInt = (0 : Int)) ∧ ((y142).toInt = (0 : Int)) ∧ y177 = nv1) ∨ (((y163).toInt = (0 : Int)) ∧ ((y156).toInt = (0 : Int)) ∧ ((y149).toInt = (0 : Int)) ∧ (¬ ((y142).toInt = (0 : Int))) ∧ y177 = i1) ∨ (((y163).toInt = (0 : Int)) ∧ ((y156).toInt = (0 : Int)) ∧ (¬ ((y149).toInt = (0 : Int))) ∧ y177 = i2) ∨ (((y163).toInt = (0 : Int)) ∧ (¬ ((y156).toInt = (0 : Int))) ∧ y177 = i3) ∨ ((¬ ((y163).toInt = (0 : Int))) ∧ y177 = i4)), Run p e below n0 Q' G' m T 339 #[iv x0, iv x1, iv x2, iv x3, iv x4, iv nv1, iv yF, iv yF_8, iv yF_13, iv yF_18, rv o24, iv y142, iv y149, iv y156, iv y163, iv y170, un, un, un, un, un] [.int y177] by
       refine s_if_eq 310 306 C X at_303 (fun c303_172 => ?_) (fun c303_172 => ?_)
       ·have t_c303_172 : (y163).toInt = (0 : Int) := congrArg Int32.toInt c303_172
        refine s_iload 312 C X at_310 rfl ?_
        refine s_if_eq 319 315 C X at_312 (fun c312_173 => ?_) (fun c312_173 => ?_)
        ·have t_c312_173 : (y156).toInt = (0 : Int) := congrArg Int32.toInt c312_173
         refine s_iload 321 C X at_319 rfl ?_
         refine s_if_eq 328 324 C X at_321 (fun c321_174 => ?_) (fun c321_174 => ?_)
         ·have t_c321_174 : (y149).toInt = (0 : Int) := congrArg Int32.toInt c321_174
          refine s_iload 330 C X at_328 rfl ?_
          refine s_if_eq 337 333 C X at_330 (fun c330_175 => ?_) (fun c330_175 => ?_)
          ·have t_c330_175 : (y142).toInt = (0 : Int) := congrArg Int32.toInt c330_175
           refine s_iload 339 C X at_337 rfl ?_
           exact J178 (nv1) ((Or.inl ⟨t_c303_172, t_c312_173, t_c321_174, t_c330_175, rfl⟩))
          have t_c330_175 : ¬ ((y142).toInt = (0 : Int)) := fun q => c330_175 (Int32.toInt_inj.mp q)
          refine s_iconst 334 C X at_333 kc_iconst_1 ?_
          refine s_goto 339 C X at_334 ?_
          exact J178 (i1) (Or.inr (Or.inl ⟨t_c303_172, t_c312_173, t_c321_174, t_c330_175, rfl⟩))
         have t_c321_174 : ¬ ((y149).toInt = (0 : Int)) := fun q => c321_174 (Int32.toInt_inj.mp q)
         refine s_iconst 325 C X at_324 kc_iconst_2 ?_
         refine s_goto 339 C X at_325 ?_
         exact J178 (i2) (Or.inr (Or.inr (Or.inl ⟨t_c303_172, t_c312_173, t_c321_174, rfl⟩)))
        have t_c312_173 : ¬ ((y156).toInt = (0 : Int)) := fun q => c312_173 (Int32.toInt_inj.mp q)
        refine s_iconst 316 C X at_315 kc_iconst_3 ?_
        refine s_goto 339 C X at_316 ?_
        exact J178 (i3) (Or.inr (Or.inr (Or.inr (Or.inl ⟨t_c303_172, t_c312_173, rfl⟩))))
       have t_c303_172 : ¬ ((y163).toInt = (0 : Int)) := fun q => c303_172 (Int32.toInt_inj.mp q)
       refine s_iconst 307 C X at_306 kc_iconst_4 ?_
       refine s_goto 339 C X at_307 ?_
       exact J178 (i4) (Or.inr (Or.inr (Or.inr (Or.inr ⟨t_c303_172, rfl⟩))))
      intro y177 D178
      refine s_istore 341 C X (l' := #[iv x0, iv x1, iv x2, iv x3, iv x4, iv nv1, iv yF, iv yF_8, iv yF_13, iv yF_18, rv o24, iv y142, iv y149, iv y156, iv y163, iv y170, iv y177, un, un, un, un]) at_339 rfl ?_
      refine s_iload 343 C X at_341 rfl ?_
      refine s_iload 345 C X at_343 rfl ?_
      refine s_isub 346 C X at_345 ?_
      obtain ⟨mv179, e_mv179⟩ : ∃ zz_ : Int32, zz_ = (y177 - y170) := ⟨_, rfl⟩
      refine rc (st' := [.int mv179]) (by subst e_mv179; rfl) ?_
      refine s_istore 348 C X (l' := #[iv x0, iv x1, iv x2, iv x3, iv x4, iv nv1, iv yF, iv yF_8, iv yF_13, iv yF_18, rv o24, iv y142, iv y149, iv y156, iv y163, iv y170, iv y177, iv mv179, un, un, un]) at_346 rfl ?_
      refine s_aload 350 C X at_348 rfl rfl ?_
      refine s_hcallS 353 [.ref o24] [] 0 C X hS Rc.2 (own_EL hw) Rc.1.1 at_350 (mW 30 rfl) (mW 31 rfl) (mW 32 rfl) (mW 33 rfl) (rm_a51 l Z a0 hw cs fm o24 bF kF k_bF zF zsF xs _ n0 X.sz S_cs S_fm S_ad S_hi S_lo E_o24 F_o24_a F_o24_k Od A_bF hv_cs hv_fm hvS hvL) (lenOf pd__Ljava_lang_String__Ljava_lang_String_ rfl) rfl rfl rfl so0 (fun T v hh vm k1 C X hS Nk Rn q => ?_)
      obtain ⟨bFq, eFt, kFq, k_bFq, lFq, rFq, sFt, zFq, zsFq, rfl, hvS, hvl, hvR, Kc, Od, E_rFq, F_rFq_k, F_rFq_a, A_bFq⟩ := q
      have Rc := Rc.call Rn Nk
      have Kp := Kp.trans Kc all0
      refine rc (st' := [.ref rFq]) rfl ?_
      have hM := own_main (xs := xs) (by rw [hvL]; exact own_n4 hv_nv1 c35_20 c56_21 c82_22 c113_23) (by rw [hvL]; decide) (by rw [e_xs]; exact own_h4 yF yF_8 yF_13 yF_18) D143 D150 D157 D164 D171 D178 hvS hvl e_mv179
      exact J353 T _ _ _ (rv o24) (iv y142) (iv y149) (iv y156) (iv y163) (iv y177) _ _ _ _ _ _ _ _ _ hM hvR C (X.mono (by decide) (by decide)) hS Od Kp Rc E_rFq F_rFq_k F_rFq_a A_bFq
     refine s_new 119 C X at_116 (mW 9 rfl) (mW 10 rfl) (mW 11 rfl) (fun T hh o2939 hb_o2939 X E E_o2939 D g_o2939 => ?_)
     have H_o2939 : Safe Z EL1 vm _ o2939 := Safe.ext E Rc.1.1 (Safe.new (Nat.le_of_eq hb_o2939))
     have Rc := Rc.ext E
     have sz_o2939 : h0.size ≤ o2939 := Nat.le_trans Kp.1 (Nat.le_of_eq hb_o2939)
     have Od := Od.ext E
     have Kp := Kp.ext E
     have F_o2939_a : Fld Z _ o2939 cS "value" "[B" .null := D (Or.inr (hw _ (mW 24 rfl))) (ty := (.array .byte)) (by decide)
     have F_o2939_k : Fld Z _ o2939 cS "coder" "B" (.int i0) := D (Or.inr (hw _ (mW 25 rfl))) (ty := .byte) (by decide)
     refine s_dup 120 C X at_119 rfl ?_
     refine s_iconst 121 C X at_120 kc_iconst_3 ?_
     refine s_newarray 123 3 C X at_121 (mW 5 rfl) (by decide) (by decide) (fun T hh o2940 k_o2940 hb_o2940 X E A_o2940 g_o2940 => ?_)
     have H_o2939 := Safe.ext E Rc.1.1 H_o2939
     have H_o2940 : Safe Z EL1 vm _ o2940 := Safe.ext E Rc.1.1 (Safe.new (Nat.le_of_eq hb_o2940))
     have Rc := Rc.ext E
     have sz_o2940 : h0.size ≤ o2940 := Nat.le_trans Kp.1 (Nat.le_of_eq hb_o2940)
     have ne_o2939_o2940 : o2939 ≠ o2940 := Nat.ne_of_lt (Nat.lt_of_lt_of_le E_o2939.lt (Nat.le_of_eq hb_o2940))
     have Od := Od.ext E
     have Kp := Kp.ext E
     have E_o2939 := E_o2939.ext E
     have F_o2939_a := F_o2939_a.ext E
     have F_o2939_k := F_o2939_k.ext E
     have A_o2940 : Arv Z _ o2940 k_o2940 .char i3 [.int i0, .int i0, .int i0] (.int i0) := A_o2940.pad (pad_rep [] _ 3)
     refine s_dup 124 C X at_123 rfl ?_
     refine s_iconst 125 C X at_124 kc_iconst_0 ?_
     refine s_iload 127 C X at_125 rfl ?_
     have Sf : Safe Z EL1 vm _ o2940 := H_o2940
     refine s_castore 128 0 C X at_127 A_o2940 g_o2940 ⟨by decide, by decide⟩ rfl (Nat.le_of_ble_eq_true rfl) (fun T hh X W A_o2940 => ?_)
     have A_o2940 : Arv Z _ o2940 k_o2940 .char i3 [(.int (nar .char yF)), .int i0, .int i0] (.int i0) := A_o2940
     have H_o2939 := Safe.wr W Sf Rc.1.1 H_o2939
     have H_o2940 := Safe.wr W Sf Rc.1.1 H_o2940
     have Rc := Rc.wr W Sf
     have Od := Od.wr W g_o2940
     have Kp := Kp.wr W (Or.inr sz_o2940)
     have E_o2939 := E_o2939.wr W
     have F_o2939_a := F_o2939_a.other W (Or.inl ne_o2939_o2940)
     have F_o2939_k := F_o2939_k.other W (Or.inl ne_o2939_o2940)
     rw [own_nU hvU] at A_o2940
     refine s_dup 129 C X at_128 rfl ?_
     refine s_iconst 130 C X at_129 kc_iconst_1 ?_
     refine s_iload 132 C X at_130 rfl ?_
     have Sf : Safe Z EL1 vm _ o2940 := H_o2940
     refine s_castore 133 1 C X at_132 A_o2940 g_o2940 ⟨by decide, by decide⟩ rfl (Nat.le_of_ble_eq_true rfl) (fun T hh X W A_o2940 => ?_)
     have A_o2940 : Arv Z _ o2940 k_o2940 .char i3 [.int yF, (.int (nar .char yF_8)), .int i0] (.int i0) := A_o2940
     have H_o2939 := Safe.wr W Sf Rc.1.1 H_o2939
     have H_o2940 := Safe.wr W Sf Rc.1.1 H_o2940
     have Rc := Rc.wr W Sf
     have Od := Od.wr W g_o2940
     have Kp := Kp.wr W (Or.inr sz_o2940)
     have E_o2939 := E_o2939.wr W
     have F_o2939_a := F_o2939_a.other W (Or.inl ne_o2939_o2940)
     have F_o2939_k := F_o2939_k.other W (Or.inl ne_o2939_o2940)
     rw [own_nU hvU_9] at A_o2940
     refine s_dup 134 C X at_133 rfl ?_
     refine s_iconst 135 C X at_134 kc_iconst_2 ?_
     refine s_iload 137 C X at_135 rfl ?_
     have Sf : Safe Z EL1 vm _ o2940 := H_o2940
     refine s_castore 138 2 C X at_137 A_o2940 g_o2940 ⟨by decide, by decide⟩ rfl (Nat.le_of_ble_eq_true rfl) (fun T hh X W A_o2940 => ?_)
     have A_o2940 : Arv Z _ o2940 k_o2940 .char i3 [.int yF, .int yF_8, (.int (nar .char yF_13))] (.int i0) := A_o2940
     have H_o2939 := Safe.wr W Sf Rc.1.1 H_o2939
     have Rc := Rc.wr W Sf
     have Od := Od.wr W g_o2940
     have Kp := Kp.wr W (Or.inr sz_o2940)
     have E_o2939 := E_o2939.wr W
     have F_o2939_a := F_o2939_a.other W (Or.inl ne_o2939_o2940)
     have F_o2939_k := F_o2939_k.other W (Or.inl ne_o2939_o2940)
     rw [own_nU hvU_14] at A_o2940
     refine s_hcallC 141 [.ref o2940] [.ref o2939] 1 C X hS Rc.2 (own_EL hw) Rc.1.1 at_138 rfl (mW 12 rfl) (mW 13 rfl) (mW 11 rfl) (mW 14 rfl) (rm_a66 l Z a0 hw cs yF yF_8 yF_13 o2939 o2940 k_o2940 _ n0 X.sz Od S_cs S_ad S_hi S_lo E_o2939 F_o2939_a F_o2939_k A_o2940 hv_cs hvU hvU_9 hvU_14 g_o2939 ne_o2939_o2940) (lenOf pd___C_V rfl) rfl rfl rfl (soS ⟨E_o2939.lt, H_o2939⟩ so0) (fun T v hh vm k1 C X hS Nk Rn q => ?_)
     obtain ⟨bF, kF, k_bF, zF, zsF, rfl, hvT, Kc, E_o2939, F_o2939_a, F_o2939_k, Od, A_bF⟩ := q
     have Rc := Rc.call Rn Nk
     have Kp := Kp.trans Kc (allS (Or.inr sz_o2939) all0)
     refine rc (st' := [.ref o2939]) rfl ?_
     refine s_astore 143 C X (l' := #[iv x0, iv x1, iv x2, iv x3, iv x4, iv nv1, iv yF, iv yF_8, iv yF_13, iv yF_18, rv o2939, un, un, un, un, un, un, un, un, un, un]) at_141 rfl rfl ?_
     refine s_goto 178 C X at_143 ?_
     obtain ⟨xs, e_xs⟩ : ∃ z : List Int32, z = [yF, yF_8, yF_13] := ⟨_, rfl⟩
     have hvS : own_T xs kF zF zsF := by rw [e_xs]; exact hvT
     have hvL : xs.length = 3 := by rw [e_xs]; rfl
     refine s_iload 180 C X at_178 rfl ?_
     suffices J3024 : ∀ (T : State) (hh : Heap) (vm : Vm) (k1 : Nat) (y3023 : Int32) (D3024 : ((¬ ((0 : Int) < (nv1).toInt)) ∧ y3023 = i0) ∨ (((0 : Int) < (nv1).toInt) ∧ blankP (yF).toInt ∧ y3023 = i0) ∨ (((0 : Int) < (nv1).toInt) ∧ ¬ blankP (yF).toInt ∧ y3023 = i1)) (C : Cx tables_1 a0 Z x.cls x.name code maxLocals ret p (s.setVm vm) m meth c) (X : St p l e room_1 (s.setVm vm) m #[.int x0, .int x1, .int x2, .int x3, .int x4] below meth c n0 T hh 8 224) (hS : s.Since vm k1) (Kp : Keep h0 hh []) (Rc : Rk Z EL1 s.vm h0 vm k1 hh) (E_o2939 : Exa Z hh o2939 cS) (F_o2939_a : Fld Z hh o2939 cS "value" "[B" (.ref bF)) (F_o2939_k : Fld Z hh o2939 cS "coder" "B" (.int kF)) (Od : Old Z n0 hh) (A_bF : Arv Z hh bF k_bF .byte zF (Y zsF) (.int i0)), Run p e below n0 Q' G' m T 196 #[iv x0, iv x1, iv x2, iv x3, iv x4, iv nv1, iv yF, iv yF_8, iv yF_13, iv yF_18, rv o2939, un, un, un, un, un, un, un, un, un, un] [.int y3023] by
      refine s_if_le 195 183 C X at_180 (fun c180_3018 => ?_) (fun c180_3018 => ?_)
      ·have t_c180_3018 : ¬ ((0 : Int) < (nv1).toInt) := fun q => c180_3018 (Int32.lt_iff_toInt_lt.mpr q)
       refine s_iconst 196 C X at_195 kc_iconst_0 ?_
       exact J3024 T _ _ _ (i0) ((Or.inl ⟨t_c180_3018, rfl⟩)) C X hS Kp Rc E_o2939 F_o2939_a F_o2939_k Od A_bF
      have t_c180_3018 : (0 : Int) < (nv1).toInt := Int32.lt_iff_toInt_lt.mp c180_3018
      refine s_iload 185 C X at_183 rfl ?_
      refine s_callS 188 [.int yF] [] 0 C X at_185 (mW 70 rfl) (mW 71 rfl) (mW 3 rfl) (mW 72 rfl) (rm_blank l Z a0 hw (yF) _ n0 X.sz) (lenOf pd__C_Z rfl) rfl rfl rfl (fun T v h23 X q => ?_)
      obtain ⟨⟨rfl, b3019⟩ | ⟨rfl, b3019⟩, hE⟩ := q
      ·rw [hE] at X
       refine rc (st' := [.int i1]) rfl ?_
       refine s_if_ne 195 191 C X at_188 (fun _ => ?_) (fun c => absurd c (by decide))
       refine s_iconst 196 C X at_195 kc_iconst_0 ?_
       exact J3024 T _ _ _ (i0) (Or.inr (Or.inl ⟨t_c180_3018, b3019, rfl⟩)) C X hS Kp Rc E_o2939 F_o2939_a F_o2939_k Od A_bF
      ·rw [hE] at X
       refine rc (st' := [.int i0]) rfl ?_
       refine s_if_ne 195 191 C X at_188 (fun c => absurd (by decide : i0 = i0) c) (fun _ => ?_)
       refine s_iconst 192 C X at_191 kc_iconst_1 ?_
       refine s_goto 196 C X at_192 ?_
       exact J3024 T _ _ _ (i1) (Or.inr (Or.inr ⟨t_c180_3018, b3019, rfl⟩)) C X hS Kp Rc E_o2939 F_o2939_a F_o2939_k Od A_bF
     intro T hh vm k1 y3023 D3024  C X hS Kp Rc E_o2939 F_o2939_a F_o2939_k Od A_bF
     refine s_istore 198 C X (l' := #[iv x0, iv x1, iv x2, iv x3, iv x4, iv nv1, iv yF, iv yF_8, iv yF_13, iv yF_18, rv o2939, iv y3023, un, un, un, un, un, un, un, un, un]) at_196 rfl ?_
     refine s_iload 200 C X at_198 rfl ?_
     refine s_iconst 201 C X at_200 kc_iconst_1 ?_
     suffices J3031 : ∀ (T : State) (hh : Heap) (vm : Vm) (k1 : Nat) (y3030 : Int32) (D3031 : ((¬ ((1 : Int) < (nv1).toInt)) ∧ y3030 = i0) ∨ (((1 : Int) < (nv1).toInt) ∧ blankP (yF_8).toInt ∧ y3030 = i0) ∨ (((1 : Int) < (nv1).toInt) ∧ ¬ blankP (yF_8).toInt ∧ y3030 = i1)) (C : Cx tables_1 a0 Z x.cls x.name code maxLocals ret p (s.setVm vm) m meth c) (X : St p l e room_1 (s.setVm vm) m #[.int x0, .int x1, .int x2, .int x3, .int x4] below meth c n0 T hh 8 224) (hS : s.Since vm k1) (Kp : Keep h0 hh []) (Rc : Rk Z EL1 s.vm h0 vm k1 hh) (E_o2939 : Exa Z hh o2939 cS) (F_o2939_a : Fld Z hh o2939 cS "value" "[B" (.ref bF)) (F_o2939_k : Fld Z hh o2939 cS "coder" "B" (.int kF)) (Od : Old Z n0 hh) (A_bF : Arv Z hh bF k_bF .byte zF (Y zsF) (.int i0)), Run p e below n0 Q' G' m T 217 #[iv x0, iv x1, iv x2, iv x3, iv x4, iv nv1, iv yF, iv yF_8, iv yF_13, iv yF_18, rv o2939, iv y3023, un, un, un, un, un, un, un, un, un] [.int y3030] by
      refine s_icmp_le 216 204 C X at_201 (fun c201_3025 => ?_) (fun c201_3025 => ?_)
      ·have t_c201_3025 : ¬ ((1 : Int) < (nv1).toInt) := fun q => c201_3025 (Int32.lt_iff_toInt_lt.mpr q)
       refine s_iconst 217 C X at_216 kc_iconst_0 ?_
       exact J3031 T _ _ _ (i0) ((Or.inl ⟨t_c201_3025, rfl⟩)) C X hS Kp Rc E_o2939 F_o2939_a F_o2939_k Od A_bF
      have t_c201_3025 : (1 : Int) < (nv1).toInt := Int32.lt_iff_toInt_lt.mp c201_3025
      refine s_iload 206 C X at_204 rfl ?_
      refine s_callS 209 [.int yF_8] [] 0 C X at_206 (mW 70 rfl) (mW 71 rfl) (mW 3 rfl) (mW 72 rfl) (rm_blank l Z a0 hw (yF_8) _ n0 X.sz) (lenOf pd__C_Z rfl) rfl rfl rfl (fun T v h22 X q => ?_)
      obtain ⟨⟨rfl, b3026⟩ | ⟨rfl, b3026⟩, hE⟩ := q
      ·rw [hE] at X
       refine rc (st' := [.int i1]) rfl ?_
       refine s_if_ne 216 212 C X at_209 (fun _ => ?_) (fun c => absurd c (by decide))
       refine s_iconst 217 C X at_216 kc_iconst_0 ?_
       exact J3031 T _ _ _ (i0) (Or.inr (Or.inl ⟨t_c201_3025, b3026, rfl⟩)) C X hS Kp Rc E_o2939 F_o2939_a F_o2939_k Od A_bF
      ·rw [hE] at X
       refine rc (st' := [.int i0]) rfl ?_
       refine s_if_ne 216 212 C X at_209 (fun c => absurd (by decide : i0 = i0) c) (fun _ => ?_)
       refine s_iconst 213 C X at_212 kc_iconst_1 ?_
       refine s_goto 217 C X at_213 ?_
       exact J3031 T _ _ _ (i1) (Or.inr (Or.inr ⟨t_c201_3025, b3026, rfl⟩)) C X hS Kp Rc E_o2939 F_o2939_a F_o2939_k Od A_bF
     intro T hh vm k1 y3030 D3031  C X hS Kp Rc E_o2939 F_o2939_a F_o2939_k Od A_bF
     refine s_istore 219 C X (l' := #[iv x0, iv x1, iv x2, iv x3, iv x4, iv nv1, iv yF, iv yF_8, iv yF_13, iv yF_18, rv o2939, iv y3023, iv y3030, un, un, un, un, un, un, un, un]) at_217 rfl ?_
     refine s_iload 221 C X at_219 rfl ?_
     refine s_iconst 222 C X at_221 kc_iconst_2 ?_
     suffices J3038 : ∀ (T : State) (hh : Heap) (vm : Vm) (k1 : Nat) (y3037 : Int32) (D3038 : ((¬ ((2 : Int) < (nv1).toInt)) ∧ y3037 = i0) ∨ (((2 : Int) < (nv1).toInt) ∧ blankP (yF_13).toInt ∧ y3037 = i0) ∨ (((2 : Int) < (nv1).toInt) ∧ ¬ blankP (yF_13).toInt ∧ y3037 = i1)) (C : Cx tables_1 a0 Z x.cls x.name code maxLocals ret p (s.setVm vm) m meth c) (X : St p l e room_1 (s.setVm vm) m #[.int x0, .int x1, .int x2, .int x3, .int x4] below meth c n0 T hh 8 224) (hS : s.Since vm k1) (Kp : Keep h0 hh []) (Rc : Rk Z EL1 s.vm h0 vm k1 hh) (E_o2939 : Exa Z hh o2939 cS) (F_o2939_a : Fld Z hh o2939 cS "value" "[B" (.ref bF)) (F_o2939_k : Fld Z hh o2939 cS "coder" "B" (.int kF)) (Od : Old Z n0 hh) (A_bF : Arv Z hh bF k_bF .byte zF (Y zsF) (.int i0)), Run p e below n0 Q' G' m T 238 #[iv x0, iv x1, iv x2, iv x3, iv x4, iv nv1, iv yF, iv yF_8, iv yF_13, iv yF_18, rv o2939, iv y3023, iv y3030, un, un, un, un, un, un, un, un] [.int y3037] by
      refine s_icmp_le 237 225 C X at_222 (fun c222_3032 => ?_) (fun c222_3032 => ?_)
      ·have t_c222_3032 : ¬ ((2 : Int) < (nv1).toInt) := fun q => c222_3032 (Int32.lt_iff_toInt_lt.mpr q)
       refine s_iconst 238 C X at_237 kc_iconst_0 ?_
       exact J3038 T _ _ _ (i0) ((Or.inl ⟨t_c222_3032, rfl⟩)) C X hS Kp Rc E_o2939 F_o2939_a F_o2939_k Od A_bF
      have t_c222_3032 : (2 : Int) < (nv1).toInt := Int32.lt_iff_toInt_lt.mp c222_3032
      refine s_iload 227 C X at_225 rfl ?_
      refine s_callS 230 [.int yF_13] [] 0 C X at_227 (mW 70 rfl) (mW 71 rfl) (mW 3 rfl) (mW 72 rfl) (rm_blank l Z a0 hw (yF_13) _ n0 X.sz) (lenOf pd__C_Z rfl) rfl rfl rfl (fun T v h21 X q => ?_)
      obtain ⟨⟨rfl, b3033⟩ | ⟨rfl, b3033⟩, hE⟩ := q
      ·rw [hE] at X
       refine rc (st' := [.int i1]) rfl ?_
       refine s_if_ne 237 233 C X at_230 (fun _ => ?_) (fun c => absurd c (by decide))
       refine s_iconst 238 C X at_237 kc_iconst_0 ?_
       exact J3038 T _ _ _ (i0) (Or.inr (Or.inl ⟨t_c222_3032, b3033, rfl⟩)) C X hS Kp Rc E_o2939 F_o2939_a F_o2939_k Od A_bF
      ·rw [hE] at X
       refine rc (st' := [.int i0]) rfl ?_
       refine s_if_ne 237 233 C X at_230 (fun c => absurd (by decide : i0 = i0) c) (fun _ => ?_)
       refine s_iconst 234 C X at_233 kc_iconst_1 ?_
       refine s_goto 238 C X at_234 ?_
       exact J3038 T _ _ _ (i1) (Or.inr (Or.inr ⟨t_c222_3032, b3033, rfl⟩)) C X hS Kp Rc E_o2939 F_o2939_a F_o2939_k Od A_bF
     intro T hh vm k1 y3037 D3038  C X hS Kp Rc E_o2939 F_o2939_a F_o2939_k Od A_bF
     refine s_istore 240 C X (l' := #[iv x0, iv x1, iv x2, iv x3, iv x4, iv nv1, iv yF, iv yF_8, iv yF_13, iv yF_18, rv o2939, iv y3023, iv y3030, iv y3037, un, un, un, un, un, un, un]) at_238 rfl ?_
     refine s_iload 242 C X at_240 rfl ?_
     refine s_iconst 243 C X at_242 kc_iconst_3 ?_
     suffices J3045 : ∀ (T : State) (hh : Heap) (vm : Vm) (k1 : Nat) (y3044 : Int32) (D3045 : ((¬ ((3 : Int) < (nv1).toInt)) ∧ y3044 = i0) ∨ (((3 : Int) < (nv1).toInt) ∧ blankP (yF_18).toInt ∧ y3044 = i0) ∨ (((3 : Int) < (nv1).toInt) ∧ ¬ blankP (yF_18).toInt ∧ y3044 = i1)) (C : Cx tables_1 a0 Z x.cls x.name code maxLocals ret p (s.setVm vm) m meth c) (X : St p l e room_1 (s.setVm vm) m #[.int x0, .int x1, .int x2, .int x3, .int x4] below meth c n0 T hh 8 224) (hS : s.Since vm k1) (Kp : Keep h0 hh []) (Rc : Rk Z EL1 s.vm h0 vm k1 hh) (E_o2939 : Exa Z hh o2939 cS) (F_o2939_a : Fld Z hh o2939 cS "value" "[B" (.ref bF)) (F_o2939_k : Fld Z hh o2939 cS "coder" "B" (.int kF)) (Od : Old Z n0 hh) (A_bF : Arv Z hh bF k_bF .byte zF (Y zsF) (.int i0)), Run p e below n0 Q' G' m T 259 #[iv x0, iv x1, iv x2, iv x3, iv x4, iv nv1, iv yF, iv yF_8, iv yF_13, iv yF_18, rv o2939, iv y3023, iv y3030, iv y3037, un, un, un, un, un, un, un] [.int y3044] by
      refine s_icmp_le 258 246 C X at_243 (fun c243_3039 => ?_) (fun c243_3039 => ?_)
      ·have t_c243_3039 : ¬ ((3 : Int) < (nv1).toInt) := fun q => c243_3039 (Int32.lt_iff_toInt_lt.mpr q)
       refine s_iconst 259 C X at_258 kc_iconst_0 ?_
       exact J3045 T _ _ _ (i0) ((Or.inl ⟨t_c243_3039, rfl⟩)) C X hS Kp Rc E_o2939 F_o2939_a F_o2939_k Od A_bF
      have t_c243_3039 : (3 : Int) < (nv1).toInt := Int32.lt_iff_toInt_lt.mp c243_3039
      refine s_iload 248 C X at_246 rfl ?_
      refine s_callS 251 [.int yF_18] [] 0 C X at_248 (mW 70 rfl) (mW 71 rfl) (mW 3 rfl) (mW 72 rfl) (rm_blank l Z a0 hw (yF_18) _ n0 X.sz) (lenOf pd__C_Z rfl) rfl rfl rfl (fun T v h20 X q => ?_)
      obtain ⟨⟨rfl, b3040⟩ | ⟨rfl, b3040⟩, hE⟩ := q
      ·rw [hE] at X
       refine rc (st' := [.int i1]) rfl ?_
       refine s_if_ne 258 254 C X at_251 (fun _ => ?_) (fun c => absurd c (by decide))
       refine s_iconst 259 C X at_258 kc_iconst_0 ?_
       exact J3045 T _ _ _ (i0) (Or.inr (Or.inl ⟨t_c243_3039, b3040, rfl⟩)) C X hS Kp Rc E_o2939 F_o2939_a F_o2939_k Od A_bF
      ·rw [hE] at X
       refine rc (st' := [.int i0]) rfl ?_
       refine s_if_ne 258 254 C X at_251 (fun c => absurd (by decide : i0 = i0) c) (fun _ => ?_)
       refine s_iconst 255 C X at_254 kc_iconst_1 ?_
       refine s_goto 259 C X at_255 ?_
       exact J3045 T _ _ _ (i1) (Or.inr (Or.inr ⟨t_c243_3039, b3040, rfl⟩)) C X hS Kp Rc E_o2939 F_o2939_a F_o2939_k Od A_bF
     intro T hh vm k1 y3044 D3045  C X hS Kp Rc E_o2939 F_o2939_a F_o2939_k Od A_bF
     refine s_istore 261 C X (l' := #[iv x0, iv x1, iv x2, iv x3, iv x4, iv nv1, iv yF, iv yF_8, iv yF_13, iv yF_18, rv o2939, iv y3023, iv y3030, iv y3037, iv y3044, un, un, un, un, un, un]) at_259 rfl ?_
     refine s_iload 263 C X at_261 rfl ?_
     suffices J3052 : ∀ (y3051 : Int32) (D3052 : (((y3023).toInt = (0 : Int)) ∧ ((y3030).toInt = (0 : Int)) ∧ ((y3037).toInt = (0 : Int)) ∧ ((y3044).toInt = (0 : Int)) ∧ y3051 = nv1) ∨ (((y3023).toInt = (0 : Int)) ∧ ((y3030).toInt = (0 : Int)) ∧ ((y3037).toInt = (0 : Int)) ∧ (¬ ((y3044).toInt = (0 : Int))) ∧ y3051 = i3) ∨ (((y3023).toInt = (0 : Int)) ∧ ((y3030).toInt = (0 : Int)) ∧ (¬ ((y3037).toInt = (0 : Int))) ∧ y3051 = i2) ∨ (((y3023).toInt = (0 : Int)) ∧ (¬ ((y3030).toInt = (0 : Int))) ∧ y3051 = i1) ∨ ((¬ ((y3023).toInt = (0 : Int))) ∧ y3051 = i0)), Run p e below n0 Q' G' m T 299 #[iv x0, iv x1, iv x2, iv x3, iv x4, iv nv1, iv yF, iv yF_8, iv yF_13, iv yF_18, rv o2939, iv y3023, iv y3030, iv y3037, iv y3044, un, un, un, un, un, un] [.int y3051] by
      refine s_if_eq 270 266 C X at_263 (fun c263_3046 => ?_) (fun c263_3046 => ?_)
      ·have t_c263_3046 : (y3023).toInt = (0 : Int) := congrArg Int32.toInt c263_3046
       refine s_iload 272 C X at_270 rfl ?_
       refine s_if_eq 279 275 C X at_272 (fun c272_3047 => ?_) (fun c272_3047 => ?_)
       ·have t_c272_3047 : (y3030).toInt = (0 : Int) := congrArg Int32.toInt c272_3047
        refine s_iload 281 C X at_279 rfl ?_
        refine s_if_eq 288 284 C X at_281 (fun c281_3048 => ?_) (fun c281_3048 => ?_)
        ·have t_c281_3048 : (y3037).toInt = (0 : Int) := congrArg Int32.toInt c281_3048
         refine s_iload 290 C X at_288 rfl ?_
         refine s_if_eq 297 293 C X at_290 (fun c290_3049 => ?_) (fun c290_3049 => ?_)
         ·have t_c290_3049 : (y3044).toInt = (0 : Int) := congrArg Int32.toInt c290_3049
          refine s_iload 299 C X at_297 rfl ?_
          exact J3052 (nv1) ((Or.inl ⟨t_c263_3046, t_c272_3047, t_c281_3048, t_c290_3049, rfl⟩))
         have t_c290_3049 : ¬ ((y3044).toInt = (0 : Int)) := fun q => c290_3049 (Int32.toInt_inj.mp q)
         refine s_iconst 294 C X at_293 kc_iconst_3 ?_
         refine s_goto 299 C X at_294 ?_
         exact J3052 (i3) (Or.inr (Or.inl ⟨t_c263_3046, t_c272_3047, t_c281_3048, t_c290_3049, rfl⟩))
        have t_c281_3048 : ¬ ((y3037).toInt = (0 : Int)) := fun q => c281_3048 (Int32.toInt_inj.mp q)
        refine s_iconst 285 C X at_284 kc_iconst_2 ?_
        refine s_goto 299 C X at_285 ?_
        exact J3052 (i2) (Or.inr (Or.inr (Or.inl ⟨t_c263_3046, t_c272_3047, t_c281_3048, rfl⟩)))
       have t_c272_3047 : ¬ ((y3030).toInt = (0 : Int)) := fun q => c272_3047 (Int32.toInt_inj.mp q)
       refine s_iconst 276 C X at_275 kc_iconst_1 ?_
       refine s_goto 299 C X at_276 ?_
       exact J3052 (i1) (Or.inr (Or.inr (Or.inr (Or.inl ⟨t_c263_3046, t_c272_3047, rfl⟩))))
      have t_c263_3046 : ¬ ((y3023).toInt = (0 : Int)) := fun q => c263_3046 (Int32.toInt_inj.mp q)
      refine s_iconst 267 C X at_266 kc_iconst_0 ?_
      refine s_goto 299 C X at_267 ?_
      exact J3052 (i0) (Or.inr (Or.inr (Or.inr (Or.inr ⟨t_c263_3046, rfl⟩))))
     intro y3051 D3052
     refine s_istore 301 C X (l' := #[iv x0, iv x1, iv x2, iv x3, iv x4, iv nv1, iv yF, iv yF_8, iv yF_13, iv yF_18, rv o2939, iv y3023, iv y3030, iv y3037, iv y3044, iv y3051, un, un, un, un, un]) at_299 rfl ?_
     refine s_iload 303 C X at_301 rfl ?_
     suffices J3059 : ∀ (y3058 : Int32) (D3059 : (((y3044).toInt = (0 : Int)) ∧ ((y3037).toInt = (0 : Int)) ∧ ((y3030).toInt = (0 : Int)) ∧ ((y3023).toInt = (0 : Int)) ∧ y3058 = nv1) ∨ (((y3044).toInt = (0 : Int)) ∧ ((y3037).toInt = (0 : Int)) ∧ ((y3030).toInt = (0 : Int)) ∧ (¬ ((y3023).toInt = (0 : Int))) ∧ y3058 = i1) ∨ (((y3044).toInt = (0 : Int)) ∧ ((y3037).toInt = (0 : Int)) ∧ (¬ ((y3030).toInt = (0 : Int))) ∧ y3058 = i2) ∨ (((y3044).toInt = (0 : Int)) ∧ (¬ ((y3037).toInt = (0 : Int))) ∧ y3058 = i3) ∨ ((¬ ((y3044).toInt = (0 : Int))) ∧ y3058 = i4)), Run p e below n0 Q' G' m T 339 #[iv x0, iv x1, iv x2, iv x3, iv x4, iv nv1, iv yF, iv yF_8, iv yF_13, iv yF_18, rv o2939, iv y3023, iv y3030, iv y3037, iv y3044, iv y3051, un, un, un, un, un] [.int y3058] by
      refine s_if_eq 310 306 C X at_303 (fun c303_3053 => ?_) (fun c303_3053 => ?_)
      ·have t_c303_3053 : (y3044).toInt = (0 : Int) := congrArg Int32.toInt c303_3053
       refine s_iload 312 C X at_310 rfl ?_
       refine s_if_eq 319 315 C X at_312 (fun c312_3054 => ?_) (fun c312_3054 => ?_)
       ·have t_c312_3054 : (y3037).toInt = (0 : Int) := congrArg Int32.toInt c312_3054
        refine s_iload 321 C X at_319 rfl ?_
        refine s_if_eq 328 324 C X at_321 (fun c321_3055 => ?_) (fun c321_3055 => ?_)
        ·have t_c321_3055 : (y3030).toInt = (0 : Int) := congrArg Int32.toInt c321_3055
         refine s_iload 330 C X at_328 rfl ?_
         refine s_if_eq 337 333 C X at_330 (fun c330_3056 => ?_) (fun c330_3056 => ?_)
         ·have t_c330_3056 : (y3023).toInt = (0 : Int) := congrArg Int32.toInt c330_3056
          refine s_iload 339 C X at_337 rfl ?_
          exact J3059 (nv1) ((Or.inl ⟨t_c303_3053, t_c312_3054, t_c321_3055, t_c330_3056, rfl⟩))
         have t_c330_3056 : ¬ ((y3023).toInt = (0 : Int)) := fun q => c330_3056 (Int32.toInt_inj.mp q)
         refine s_iconst 334 C X at_333 kc_iconst_1 ?_
         refine s_goto 339 C X at_334 ?_
         exact J3059 (i1) (Or.inr (Or.inl ⟨t_c303_3053, t_c312_3054, t_c321_3055, t_c330_3056, rfl⟩))
        have t_c321_3055 : ¬ ((y3030).toInt = (0 : Int)) := fun q => c321_3055 (Int32.toInt_inj.mp q)
        refine s_iconst 325 C X at_324 kc_iconst_2 ?_
        refine s_goto 339 C X at_325 ?_
        exact J3059 (i2) (Or.inr (Or.inr (Or.inl ⟨t_c303_3053, t_c312_3054, t_c321_3055, rfl⟩)))
       have t_c312_3054 : ¬ ((y3037).toInt = (0 : Int)) := fun q => c312_3054 (Int32.toInt_inj.mp q)
       refine s_iconst 316 C X at_315 kc_iconst_3 ?_
       refine s_goto 339 C X at_316 ?_
       exact J3059 (i3) (Or.inr (Or.inr (Or.inr (Or.inl ⟨t_c303_3053, t_c312_3054, rfl⟩))))
      have t_c303_3053 : ¬ ((y3044).toInt = (0 : Int)) := fun q => c303_3053 (Int32.toInt_inj.mp q)
      refine s_iconst 307 C X at_306 kc_iconst_4 ?_
      refine s_goto 339 C X at_307 ?_
      exact J3059 (i4) (Or.inr (Or.inr (Or.inr (Or.inr ⟨t_c303_3053, rfl⟩))))
     intro y3058 D3059
     refine s_istore 341 C X (l' := #[iv x0, iv x1, iv x2, iv x3, iv x4, iv nv1, iv yF, iv yF_8, iv yF_13, iv yF_18, rv o2939, iv y3023, iv y3030, iv y3037, iv y3044, iv y3051, iv y3058, un, un, un, un]) at_339 rfl ?_
     refine s_iload 343 C X at_341 rfl ?_
     refine s_iload 345 C X at_343 rfl ?_
     refine s_isub 346 C X at_345 ?_
     obtain ⟨mv3060, e_mv3060⟩ : ∃ zz_ : Int32, zz_ = (y3058 - y3051) := ⟨_, rfl⟩
     refine rc (st' := [.int mv3060]) (by subst e_mv3060; rfl) ?_
     refine s_istore 348 C X (l' := #[iv x0, iv x1, iv x2, iv x3, iv x4, iv nv1, iv yF, iv yF_8, iv yF_13, iv yF_18, rv o2939, iv y3023, iv y3030, iv y3037, iv y3044, iv y3051, iv y3058, iv mv3060, un, un, un]) at_346 rfl ?_
     refine s_aload 350 C X at_348 rfl rfl ?_
     refine s_hcallS 353 [.ref o2939] [] 0 C X hS Rc.2 (own_EL hw) Rc.1.1 at_350 (mW 30 rfl) (mW 31 rfl) (mW 32 rfl) (mW 33 rfl) (rm_a67 l Z a0 hw cs fm o2939 bF kF k_bF zF zsF xs _ n0 X.sz S_cs S_fm S_ad S_hi S_lo E_o2939 F_o2939_a F_o2939_k Od A_bF hv_cs hv_fm hvS hvL) (lenOf pd__Ljava_lang_String__Ljava_lang_String_ rfl) rfl rfl rfl so0 (fun T v hh vm k1 C X hS Nk Rn q => ?_)
     obtain ⟨bFq, eFt, kFq, k_bFq, lFq, rFq, sFt, zFq, zsFq, rfl, hvS, hvl, hvR, Kc, Od, E_rFq, F_rFq_k, F_rFq_a, A_bFq⟩ := q
     have Rc := Rc.call Rn Nk
     have Kp := Kp.trans Kc all0
     refine rc (st' := [.ref rFq]) rfl ?_
     have hM := own_main (xs := xs) (by rw [hvL, c113_23]; decide) (by rw [hvL]; decide) (by rw [e_xs]; exact own_h3 yF yF_8 yF_13 yF_18) D3024 D3031 D3038 D3045 D3052 D3059 hvS hvl e_mv3060
     exact J353 T _ _ _ (rv o2939) (iv y3023) (iv y3030) (iv y3037) (iv y3044) (iv y3058) _ _ _ _ _ _ _ _ _ hM hvR C (X.mono (by decide) (by decide)) hS Od Kp Rc E_rFq F_rFq_k F_rFq_a A_bFq
    refine s_new 88 C X at_85 (mW 9 rfl) (mW 10 rfl) (mW 11 rfl) (fun T hh o4825 hb_o4825 X E E_o4825 D g_o4825 => ?_)
    have H_o4825 : Safe Z EL1 vm _ o4825 := Safe.ext E Rc.1.1 (Safe.new (Nat.le_of_eq hb_o4825))
    have Rc := Rc.ext E
    have sz_o4825 : h0.size ≤ o4825 := Nat.le_trans Kp.1 (Nat.le_of_eq hb_o4825)
    have Od := Od.ext E
    have Kp := Kp.ext E
    have F_o4825_a : Fld Z _ o4825 cS "value" "[B" .null := D (Or.inr (hw _ (mW 24 rfl))) (ty := (.array .byte)) (by decide)
    have F_o4825_k : Fld Z _ o4825 cS "coder" "B" (.int i0) := D (Or.inr (hw _ (mW 25 rfl))) (ty := .byte) (by decide)
    refine s_dup 89 C X at_88 rfl ?_
    refine s_iconst 90 C X at_89 kc_iconst_2 ?_
    refine s_newarray 92 2 C X at_90 (mW 5 rfl) (by decide) (by decide) (fun T hh o4826 k_o4826 hb_o4826 X E A_o4826 g_o4826 => ?_)
    have H_o4825 := Safe.ext E Rc.1.1 H_o4825
    have H_o4826 : Safe Z EL1 vm _ o4826 := Safe.ext E Rc.1.1 (Safe.new (Nat.le_of_eq hb_o4826))
    have Rc := Rc.ext E
    have sz_o4826 : h0.size ≤ o4826 := Nat.le_trans Kp.1 (Nat.le_of_eq hb_o4826)
    have ne_o4825_o4826 : o4825 ≠ o4826 := Nat.ne_of_lt (Nat.lt_of_lt_of_le E_o4825.lt (Nat.le_of_eq hb_o4826))
    have Od := Od.ext E
    have Kp := Kp.ext E
    have E_o4825 := E_o4825.ext E
    have F_o4825_a := F_o4825_a.ext E
    have F_o4825_k := F_o4825_k.ext E
    have A_o4826 : Arv Z _ o4826 k_o4826 .char i2 [.int i0, .int i0] (.int i0) := A_o4826.pad (pad_rep [] _ 2)
    refine s_dup 93 C X at_92 rfl ?_
    refine s_iconst 94 C X at_93 kc_iconst_0 ?_
    refine s_iload 96 C X at_94 rfl ?_
    have Sf : Safe Z EL1 vm _ o4826 := H_o4826
    refine s_castore 97 0 C X at_96 A_o4826 g_o4826 ⟨by decide, by decide⟩ rfl (Nat.le_of_ble_eq_true rfl) (fun T hh X W A_o4826 => ?_)
    have A_o4826 : Arv Z _ o4826 k_o4826 .char i2 [(.int (nar .char yF)), .int i0] (.int i0) := A_o4826
    have H_o4825 := Safe.wr W Sf Rc.1.1 H_o4825
    have H_o4826 := Safe.wr W Sf Rc.1.1 H_o4826
    have Rc := Rc.wr W Sf
    have Od := Od.wr W g_o4826
    have Kp := Kp.wr W (Or.inr sz_o4826)
    have E_o4825 := E_o4825.wr W
    have F_o4825_a := F_o4825_a.other W (Or.inl ne_o4825_o4826)
    have F_o4825_k := F_o4825_k.other W (Or.inl ne_o4825_o4826)
    rw [own_nU hvU] at A_o4826
    refine s_dup 98 C X at_97 rfl ?_
    refine s_iconst 99 C X at_98 kc_iconst_1 ?_
    refine s_iload 101 C X at_99 rfl ?_
    have Sf : Safe Z EL1 vm _ o4826 := H_o4826
    refine s_castore 102 1 C X at_101 A_o4826 g_o4826 ⟨by decide, by decide⟩ rfl (Nat.le_of_ble_eq_true rfl) (fun T hh X W A_o4826 => ?_)
    have A_o4826 : Arv Z _ o4826 k_o4826 .char i2 [.int yF, (.int (nar .char yF_8))] (.int i0) := A_o4826
    have H_o4825 := Safe.wr W Sf Rc.1.1 H_o4825
    have Rc := Rc.wr W Sf
    have Od := Od.wr W g_o4826
    have Kp := Kp.wr W (Or.inr sz_o4826)
    have E_o4825 := E_o4825.wr W
    have F_o4825_a := F_o4825_a.other W (Or.inl ne_o4825_o4826)
    have F_o4825_k := F_o4825_k.other W (Or.inl ne_o4825_o4826)
    rw [own_nU hvU_9] at A_o4826
    refine s_hcallC 105 [.ref o4826] [.ref o4825] 1 C X hS Rc.2 (own_EL hw) Rc.1.1 at_102 rfl (mW 12 rfl) (mW 13 rfl) (mW 11 rfl) (mW 14 rfl) (rm_a80 l Z a0 hw cs yF yF_8 o4825 o4826 k_o4826 _ n0 X.sz Od S_cs S_ad S_hi S_lo E_o4825 F_o4825_a F_o4825_k A_o4826 hv_cs hvU hvU_9 g_o4825 ne_o4825_o4826) (lenOf pd___C_V rfl) rfl rfl rfl (soS ⟨E_o4825.lt, H_o4825⟩ so0) (fun T v hh vm k1 C X hS Nk Rn q => ?_)
    obtain ⟨bF, kF, k_bF, zF, zsF, rfl, hvT, Kc, E_o4825, F_o4825_a, F_o4825_k, Od, A_bF⟩ := q
    have Rc := Rc.call Rn Nk
    have Kp := Kp.trans Kc (allS (Or.inr sz_o4825) all0)
    refine rc (st' := [.ref o4825]) rfl ?_
    refine s_astore 107 C X (l' := #[iv x0, iv x1, iv x2, iv x3, iv x4, iv nv1, iv yF, iv yF_8, iv yF_13, iv yF_18, rv o4825, un, un, un, un, un, un, un, un, un, un]) at_105 rfl rfl ?_
    refine s_goto 178 C X at_107 ?_
    obtain ⟨xs, e_xs⟩ : ∃ z : List Int32, z = [yF, yF_8] := ⟨_, rfl⟩
    have hvS : own_T xs kF zF zsF := by rw [e_xs]; exact hvT
    have hvL : xs.length = 2 := by rw [e_xs]; rfl
    refine s_iload 180 C X at_178 rfl ?_
    suffices J4882 : ∀ (T : State) (hh : Heap) (vm : Vm) (k1 : Nat) (y4881 : Int32) (D4882 : ((¬ ((0 : Int) < (nv1).toInt)) ∧ y4881 = i0) ∨ (((0 : Int) < (nv1).toInt) ∧ blankP (yF).toInt ∧ y4881 = i0) ∨ (((0 : Int) < (nv1).toInt) ∧ ¬ blankP (yF).toInt ∧ y4881 = i1)) (C : Cx tables_1 a0 Z x.cls x.name code maxLocals ret p (s.setVm vm) m meth c) (X : St p l e room_1 (s.setVm vm) m #[.int x0, .int x1, .int x2, .int x3, .int x4] below meth c n0 T hh 8 220) (hS : s.Since vm k1) (Kp : Keep h0 hh []) (Rc : Rk Z EL1 s.vm h0 vm k1 hh) (E_o4825 : Exa Z hh o4825 cS) (F_o4825_a : Fld Z hh o4825 cS "value" "[B" (.ref bF)) (F_o4825_k : Fld Z hh o4825 cS "coder" "B" (.int kF)) (Od : Old Z n0 hh) (A_bF : Arv Z hh bF k_bF .byte zF (Y zsF) (.int i0)), Run p e below n0 Q' G' m T 196 #[iv x0, iv x1, iv x2, iv x3, iv x4, iv nv1, iv yF, iv yF_8, iv yF_13, iv yF_18, rv o4825, un, un, un, un, un, un, un, un, un, un] [.int y4881] by
     refine s_if_le 195 183 C X at_180 (fun c180_4876 => ?_) (fun c180_4876 => ?_)
     ·have t_c180_4876 : ¬ ((0 : Int) < (nv1).toInt) := fun q => c180_4876 (Int32.lt_iff_toInt_lt.mpr q)
      refine s_iconst 196 C X at_195 kc_iconst_0 ?_
      exact J4882 T _ _ _ (i0) ((Or.inl ⟨t_c180_4876, rfl⟩)) C X hS Kp Rc E_o4825 F_o4825_a F_o4825_k Od A_bF
     have t_c180_4876 : (0 : Int) < (nv1).toInt := Int32.lt_iff_toInt_lt.mp c180_4876
     refine s_iload 185 C X at_183 rfl ?_
     refine s_callS 188 [.int yF] [] 0 C X at_185 (mW 70 rfl) (mW 71 rfl) (mW 3 rfl) (mW 72 rfl) (rm_blank l Z a0 hw (yF) _ n0 X.sz) (lenOf pd__C_Z rfl) rfl rfl rfl (fun T v h33 X q => ?_)
     obtain ⟨⟨rfl, b4877⟩ | ⟨rfl, b4877⟩, hE⟩ := q
     ·rw [hE] at X
      refine rc (st' := [.int i1]) rfl ?_
      refine s_if_ne 195 191 C X at_188 (fun _ => ?_) (fun c => absurd c (by decide))
      refine s_iconst 196 C X at_195 kc_iconst_0 ?_
      exact J4882 T _ _ _ (i0) (Or.inr (Or.inl ⟨t_c180_4876, b4877, rfl⟩)) C X hS Kp Rc E_o4825 F_o4825_a F_o4825_k Od A_bF
     ·rw [hE] at X
      refine rc (st' := [.int i0]) rfl ?_
      refine s_if_ne 195 191 C X at_188 (fun c => absurd (by decide : i0 = i0) c) (fun _ => ?_)
      refine s_iconst 192 C X at_191 kc_iconst_1 ?_
      refine s_goto 196 C X at_192 ?_
      exact J4882 T _ _ _ (i1) (Or.inr (Or.inr ⟨t_c180_4876, b4877, rfl⟩)) C X hS Kp Rc E_o4825 F_o4825_a F_o4825_k Od A_bF
    intro T hh vm k1 y4881 D4882  C X hS Kp Rc E_o4825 F_o4825_a F_o4825_k Od A_bF
    refine s_istore 198 C X (l' := #[iv x0, iv x1, iv x2, iv x3, iv x4, iv nv1, iv yF, iv yF_8, iv yF_13, iv yF_18, rv o4825, iv y4881, un, un, un, un, un, un, un, un, un]) at_196 rfl ?_
    refine s_iload 200 C X at_198 rfl ?_
    refine s_iconst 201 C X at_200 kc_iconst_1 ?_
    suffices J4889 : ∀ (T : State) (hh : Heap) (vm : Vm) (k1 : Nat) (y4888 : Int32) (D4889 : ((¬ ((1 : Int) < (nv1).toInt)) ∧ y4888 = i0) ∨ (((1 : Int) < (nv1).toInt) ∧ blankP (yF_8).toInt ∧ y4888 = i0) ∨ (((1 : Int) < (nv1).toInt) ∧ ¬ blankP (yF_8).toInt ∧ y4888 = i1)) (C : Cx tables_1 a0 Z x.cls x.name code maxLocals ret p (s.setVm vm) m meth c) (X : St p l e room_1 (s.setVm vm) m #[.int x0, .int x1, .int x2, .int x3, .int x4] below meth c n0 T hh 8 220) (hS : s.Since vm k1) (Kp : Keep h0 hh []) (Rc : Rk Z EL1 s.vm h0 vm k1 hh) (E_o4825 : Exa Z hh o4825 cS) (F_o4825_a : Fld Z hh o4825 cS "value" "[B" (.ref bF)) (F_o4825_k : Fld Z hh o4825 cS "coder" "B" (.int kF)) (Od : Old Z n0 hh) (A_bF : Arv Z hh bF k_bF .byte zF (Y zsF) (.int i0)), Run p e below n0 Q' G' m T 217 #[iv x0, iv x1, iv x2, iv x3, iv x4, iv nv1, iv yF, iv yF_8, iv yF_13, iv yF_18, rv o4825, iv y4881, un, un, un, un, un, un, un, un, un] [.int y4888] by
     refine s_icmp_le 216 204 C X at_201 (fun c201_4883 => ?_) (fun c201_4883 => ?_)
     ·have t_c201_4883 : ¬ ((1 : Int) < (nv1).toInt) := fun q => c201_4883 (Int32.lt_iff_toInt_lt.mpr q)
      refine s_iconst 217 C X at_216 kc_iconst_0 ?_
      exact J4889 T _ _ _ (i0) ((Or.inl ⟨t_c201_4883, rfl⟩)) C X hS Kp Rc E_o4825 F_o4825_a F_o4825_k Od A_bF
     have t_c201_4883 : (1 : Int) < (nv1).toInt := Int32.lt_iff_toInt_lt.mp c201_4883
     refine s_iload 206 C X at_204 rfl ?_
     refine s_callS 209 [.int yF_8] [] 0 C X at_206 (mW 70 rfl) (mW 71 rfl) (mW 3 rfl) (mW 72 rfl) (rm_blank l Z a0 hw (yF_8) _ n0 X.sz) (lenOf pd__C_Z rfl) rfl rfl rfl (fun T v h32 X q => ?_)
     obtain ⟨⟨rfl, b4884⟩ | ⟨rfl, b4884⟩, hE⟩ := q
     ·rw [hE] at X
      refine rc (st' := [.int i1]) rfl ?_
      refine s_if_ne 216 212 C X at_209 (fun _ => ?_) (fun c => absurd c (by decide))
      refine s_iconst 217 C X at_216 kc_iconst_0 ?_
      exact J4889 T _ _ _ (i0) (Or.inr (Or.inl ⟨t_c201_4883, b4884, rfl⟩)) C X hS Kp Rc E_o4825 F_o4825_a F_o4825_k Od A_bF
     ·rw [hE] at X
      refine rc (st' := [.int i0]) rfl ?_
      refine s_if_ne 216 212 C X at_209 (fun c => absurd (by decide : i0 = i0) c) (fun _ => ?_)
      refine s_iconst 213 C X at_212 kc_iconst_1 ?_
      refine s_goto 217 C X at_213 ?_
      exact J4889 T _ _ _ (i1) (Or.inr (Or.inr ⟨t_c201_4883, b4884, rfl⟩)) C X hS Kp Rc E_o4825 F_o4825_a F_o4825_k Od A_bF
    intro T hh vm k1 y4888 D4889  C X hS Kp Rc E_o4825 F_o4825_a F_o4825_k Od A_bF
    refine s_istore 219 C X (l' := #[iv x0, iv x1, iv x2, iv x3, iv x4, iv nv1, iv yF, iv yF_8, iv yF_13, iv yF_18, rv o4825, iv y4881, iv y4888, un, un, un, un, un, un, un, un]) at_217 rfl ?_
    refine s_iload 221 C X at_219 rfl ?_
    refine s_iconst 222 C X at_221 kc_iconst_2 ?_
    suffices J4896 : ∀ (T : State) (hh : Heap) (vm : Vm) (k1 : Nat) (y4895 : Int32) (D4896 : ((¬ ((2 : Int) < (nv1).toInt)) ∧ y4895 = i0) ∨ (((2 : Int) < (nv1).toInt) ∧ blankP (yF_13).toInt ∧ y4895 = i0) ∨ (((2 : Int) < (nv1).toInt) ∧ ¬ blankP (yF_13).toInt ∧ y4895 = i1)) (C : Cx tables_1 a0 Z x.cls x.name code maxLocals ret p (s.setVm vm) m meth c) (X : St p l e room_1 (s.setVm vm) m #[.int x0, .int x1, .int x2, .int x3, .int x4] below meth c n0 T hh 8 220) (hS : s.Since vm k1) (Kp : Keep h0 hh []) (Rc : Rk Z EL1 s.vm h0 vm k1 hh) (E_o4825 : Exa Z hh o4825 cS) (F_o4825_a : Fld Z hh o4825 cS "value" "[B" (.ref bF)) (F_o4825_k : Fld Z hh o4825 cS "coder" "B" (.int kF)) (Od : Old Z n0 hh) (A_bF : Arv Z hh bF k_bF .byte zF (Y zsF) (.int i0)), Run p e below n0 Q' G' m T 238 #[iv x0, iv x1, iv x2, iv x3, iv x4, iv nv1, iv yF, iv yF_8, iv yF_13, iv yF_18, rv o4825, iv y4881, iv y4888, un, un, un, un, un, un, un, un] [.int y4895] by
     refine s_icmp_le 237 225 C X at_222 (fun c222_4890 => ?_) (fun c222_4890 => ?_)
     ·have t_c222_4890 : ¬ ((2 : Int) < (nv1).toInt) := fun q => c222_4890 (Int32.lt_iff_toInt_lt.mpr q)
      refine s_iconst 238 C X at_237 kc_iconst_0 ?_
      exact J4896 T _ _ _ (i0) ((Or.inl ⟨t_c222_4890, rfl⟩)) C X hS Kp Rc E_o4825 F_o4825_a F_o4825_k Od A_bF
     have t_c222_4890 : (2 : Int) < (nv1).toInt := Int32.lt_iff_toInt_lt.mp c222_4890
     refine s_iload 227 C X at_225 rfl ?_
     refine s_callS 230 [.int yF_13] [] 0 C X at_227 (mW 70 rfl) (mW 71 rfl) (mW 3 rfl) (mW 72 rfl) (rm_blank l Z a0 hw (yF_13) _ n0 X.sz) (lenOf pd__C_Z rfl) rfl rfl rfl (fun T v h31 X q => ?_)
     obtain ⟨⟨rfl, b4891⟩ | ⟨rfl, b4891⟩, hE⟩ := q
     ·rw [hE] at X
      refine rc (st' := [.int i1]) rfl ?_
      refine s_if_ne 237 233 C X at_230 (fun _ => ?_) (fun c => absurd c (by decide))
      refine s_iconst 238 C X at_237 kc_iconst_0 ?_
      exact J4896 T _ _ _ (i0) (Or.inr (Or.inl ⟨t_c222_4890, b4891, rfl⟩)) C X hS Kp Rc E_o4825 F_o4825_a F_o4825_k Od A_bF
     ·rw [hE] at X
      refine rc (st' := [.int i0]) rfl ?_
      refine s_if_ne 237 233 C X at_230 (fun c => absurd (by decide : i0 = i0) c) (fun _ => ?_)
      refine s_iconst 234 C X at_233 kc_iconst_1 ?_
      refine s_goto 238 C X at_234 ?_
      exact J4896 T _ _ _ (i1) (Or.inr (Or.inr ⟨t_c222_4890, b4891, rfl⟩)) C X hS Kp Rc E_o4825 F_o4825_a F_o4825_k Od A_bF
    intro T hh vm k1 y4895 D4896  C X hS Kp Rc E_o4825 F_o4825_a F_o4825_k Od A_bF
    refine s_istore 240 C X (l' := #[iv x0, iv x1, iv x2, iv x3, iv x4, iv nv1, iv yF, iv yF_8, iv yF_13, iv yF_18, rv o4825, iv y4881, iv y4888, iv y4895, un, un, un, un, un, un, un]) at_238 rfl ?_
    refine s_iload 242 C X at_240 rfl ?_
    refine s_iconst 243 C X at_242 kc_iconst_3 ?_
    suffices J4903 : ∀ (T : State) (hh : Heap) (vm : Vm) (k1 : Nat) (y4902 : Int32) (D4903 : ((¬ ((3 : Int) < (nv1).toInt)) ∧ y4902 = i0) ∨ (((3 : Int) < (nv1).toInt) ∧ blankP (yF_18).toInt ∧ y4902 = i0) ∨ (((3 : Int) < (nv1).toInt) ∧ ¬ blankP (yF_18).toInt ∧ y4902 = i1)) (C : Cx tables_1 a0 Z x.cls x.name code maxLocals ret p (s.setVm vm) m meth c) (X : St p l e room_1 (s.setVm vm) m #[.int x0, .int x1, .int x2, .int x3, .int x4] below meth c n0 T hh 8 220) (hS : s.Since vm k1) (Kp : Keep h0 hh []) (Rc : Rk Z EL1 s.vm h0 vm k1 hh) (E_o4825 : Exa Z hh o4825 cS) (F_o4825_a : Fld Z hh o4825 cS "value" "[B" (.ref bF)) (F_o4825_k : Fld Z hh o4825 cS "coder" "B" (.int kF)) (Od : Old Z n0 hh) (A_bF : Arv Z hh bF k_bF .byte zF (Y zsF) (.int i0)), Run p e below n0 Q' G' m T 259 #[iv x0, iv x1, iv x2, iv x3, iv x4, iv nv1, iv yF, iv yF_8, iv yF_13, iv yF_18, rv o4825, iv y4881, iv y4888, iv y4895, un, un, un, un, un, un, un] [.int y4902] by
     refine s_icmp_le 258 246 C X at_243 (fun c243_4897 => ?_) (fun c243_4897 => ?_)
     ·have t_c243_4897 : ¬ ((3 : Int) < (nv1).toInt) := fun q => c243_4897 (Int32.lt_iff_toInt_lt.mpr q)
      refine s_iconst 259 C X at_258 kc_iconst_0 ?_
      exact J4903 T _ _ _ (i0) ((Or.inl ⟨t_c243_4897, rfl⟩)) C X hS Kp Rc E_o4825 F_o4825_a F_o4825_k Od A_bF
     have t_c243_4897 : (3 : Int) < (nv1).toInt := Int32.lt_iff_toInt_lt.mp c243_4897
     refine s_iload 248 C X at_246 rfl ?_
     refine s_callS 251 [.int yF_18] [] 0 C X at_248 (mW 70 rfl) (mW 71 rfl) (mW 3 rfl) (mW 72 rfl) (rm_blank l Z a0 hw (yF_18) _ n0 X.sz) (lenOf pd__C_Z rfl) rfl rfl rfl (fun T v h30 X q => ?_)
     obtain ⟨⟨rfl, b4898⟩ | ⟨rfl, b4898⟩, hE⟩ := q
     ·rw [hE] at X
      refine rc (st' := [.int i1]) rfl ?_
      refine s_if_ne 258 254 C X at_251 (fun _ => ?_) (fun c => absurd c (by decide))
      refine s_iconst 259 C X at_258 kc_iconst_0 ?_
      exact J4903 T _ _ _ (i0) (Or.inr (Or.inl ⟨t_c243_4897, b4898, rfl⟩)) C X hS Kp Rc E_o4825 F_o4825_a F_o4825_k Od A_bF
     ·rw [hE] at X
      refine rc (st' := [.int i0]) rfl ?_
      refine s_if_ne 258 254 C X at_251 (fun c => absurd (by decide : i0 = i0) c) (fun _ => ?_)
      refine s_iconst 255 C X at_254 kc_iconst_1 ?_
      refine s_goto 259 C X at_255 ?_
      exact J4903 T _ _ _ (i1) (Or.inr (Or.inr ⟨t_c243_4897, b4898, rfl⟩)) C X hS Kp Rc E_o4825 F_o4825_a F_o4825_k Od A_bF
    intro T hh vm k1 y4902 D4903  C X hS Kp Rc E_o4825 F_o4825_a F_o4825_k Od A_bF
    refine s_istore 261 C X (l' := #[iv x0, iv x1, iv x2, iv x3, iv x4, iv nv1, iv yF, iv yF_8, iv yF_13, iv yF_18, rv o4825, iv y4881, iv y4888, iv y4895, iv y4902, un, un, un, un, un, un]) at_259 rfl ?_
    refine s_iload 263 C X at_261 rfl ?_
    suffices J4910 : ∀ (y4909 : Int32) (D4910 : (((y4881).toInt = (0 : Int)) ∧ ((y4888).toInt = (0 : Int)) ∧ ((y4895).toInt = (0 : Int)) ∧ ((y4902).toInt = (0 : Int)) ∧ y4909 = nv1) ∨ (((y4881).toInt = (0 : Int)) ∧ ((y4888).toInt = (0 : Int)) ∧ ((y4895).toInt = (0 : Int)) ∧ (¬ ((y4902).toInt = (0 : Int))) ∧ y4909 = i3) ∨ (((y4881).toInt = (0 : Int)) ∧ ((y4888).toInt = (0 : Int)) ∧ (¬ ((y4895).toInt = (0 : Int))) ∧ y4909 = i2) ∨ (((y4881).toInt = (0 : Int)) ∧ (¬ ((y4888).toInt = (0 : Int))) ∧ y4909 = i1) ∨ ((¬ ((y4881).toInt = (0 : Int))) ∧ y4909 = i0)), Run p e below n0 Q' G' m T 299 #[iv x0, iv x1, iv x2, iv x3, iv x4, iv nv1, iv yF, iv yF_8, iv yF_13, iv yF_18, rv o4825, iv y4881, iv y4888, iv y4895, iv y4902, un, un, un, un, un, un] [.int y4909] by
     refine s_if_eq 270 266 C X at_263 (fun c263_4904 => ?_) (fun c263_4904 => ?_)
     ·have t_c263_4904 : (y4881).toInt = (0 : Int) := congrArg Int32.toInt c263_4904
      refine s_iload 272 C X at_270 rfl ?_
      refine s_if_eq 279 275 C X at_272 (fun c272_4905 => ?_) (fun c272_4905 => ?_)
      ·have t_c272_4905 : (y4888).toInt = (0 : Int) := congrArg Int32.toInt c272_4905
       refine s_iload 281 C X at_279 rfl ?_
       refine s_if_eq 288 284 C X at_281 (fun c281_4906 => ?_) (fun c281_4906 => ?_)
       ·have t_c281_4906 : (y4895).toInt = (0 : Int) := congrArg Int32.toInt c281_4906
        refine s_iload 290 C X at_288 rfl ?_
        refine s_if_eq 297 293 C X at_290 (fun c290_4907 => ?_) (fun c290_4907 => ?_)
        ·have t_c290_4907 : (y4902).toInt = (0 : Int) := congrArg Int32.toInt c290_4907
         refine s_iload 299 C X at_297 rfl ?_
         exact J4910 (nv1) ((Or.inl ⟨t_c263_4904, t_c272_4905, t_c281_4906, t_c290_4907, rfl⟩))
        have t_c290_4907 : ¬ ((y4902).toInt = (0 : Int)) := fun q => c290_4907 (Int32.toInt_inj.mp q)
        refine s_iconst 294 C X at_293 kc_iconst_3 ?_
        refine s_goto 299 C X at_294 ?_
        exact J4910 (i3) (Or.inr (Or.inl ⟨t_c263_4904, t_c272_4905, t_c281_4906, t_c290_4907, rfl⟩))
       have t_c281_4906 : ¬ ((y4895).toInt = (0 : Int)) := fun q => c281_4906 (Int32.toInt_inj.mp q)
       refine s_iconst 285 C X at_284 kc_iconst_2 ?_
       refine s_goto 299 C X at_285 ?_
       exact J4910 (i2) (Or.inr (Or.inr (Or.inl ⟨t_c263_4904, t_c272_4905, t_c281_4906, rfl⟩)))
      have t_c272_4905 : ¬ ((y4888).toInt = (0 : Int)) := fun q => c272_4905 (Int32.toInt_inj.mp q)
      refine s_iconst 276 C X at_275 kc_iconst_1 ?_
      refine s_goto 299 C X at_276 ?_
      exact J4910 (i1) (Or.inr (Or.inr (Or.inr (Or.inl ⟨t_c263_4904, t_c272_4905, rfl⟩))))
     have t_c263_4904 : ¬ ((y4881).toInt = (0 : Int)) := fun q => c263_4904 (Int32.toInt_inj.mp q)
     refine s_iconst 267 C X at_266 kc_iconst_0 ?_
     refine s_goto 299 C X at_267 ?_
     exact J4910 (i0) (Or.inr (Or.inr (Or.inr (Or.inr ⟨t_c263_4904, rfl⟩))))
    intro y4909 D4910
    refine s_istore 301 C X (l' := #[iv x0, iv x1, iv x2, iv x3, iv x4, iv nv1, iv yF, iv yF_8, iv yF_13, iv yF_18, rv o4825, iv y4881, iv y4888, iv y4895, iv y4902, iv y4909, un, un, un, un, un]) at_299 rfl ?_
    refine s_iload 303 C X at_301 rfl ?_
    suffices J4917 : ∀ (y4916 : Int32) (D4917 : (((y4902).toInt = (0 : Int)) ∧ ((y4895).toInt = (0 : Int)) ∧ ((y4888).toInt = (0 : Int)) ∧ ((y4881).toInt = (0 : Int)) ∧ y4916 = nv1) ∨ (((y4902).toInt = (0 : Int)) ∧ ((y4895).toInt = (0 : Int)) ∧ ((y4888).toInt = (0 : Int)) ∧ (¬ ((y4881).toInt = (0 : Int))) ∧ y4916 = i1) ∨ (((y4902).toInt = (0 : Int)) ∧ ((y4895).toInt = (0 : Int)) ∧ (¬ ((y4888).toInt = (0 : Int))) ∧ y4916 = i2) ∨ (((y4902).toInt = (0 : Int)) ∧ (¬ ((y4895).toInt = (0 : Int))) ∧ y4916 = i3) ∨ ((¬ ((y4902).toInt = (0 : Int))) ∧ y4916 = i4)), Run p e below n0 Q' G' m T 339 #[iv x0, iv x1, iv x2, iv x3, iv x4, iv nv1, iv yF, iv yF_8, iv yF_13, iv yF_18, rv o4825, iv y4881, iv y4888, iv y4895, iv y4902, iv y4909, un, un, un, un, un] [.int y4916] by
     refine s_if_eq 310 306 C X at_303 (fun c303_4911 => ?_) (fun c303_4911 => ?_)
     ·have t_c303_4911 : (y4902).toInt = (0 : Int) := congrArg Int32.toInt c303_4911
      refine s_iload 312 C X at_310 rfl ?_
      refine s_if_eq 319 315 C X at_312 (fun c312_4912 => ?_) (fun c312_4912 => ?_)
      ·have t_c312_4912 : (y4895).toInt = (0 : Int) := congrArg Int32.toInt c312_4912
       refine s_iload 321 C X at_319 rfl ?_
       refine s_if_eq 328 324 C X at_321 (fun c321_4913 => ?_) (fun c321_4913 => ?_)
       ·have t_c321_4913 : (y4888).toInt = (0 : Int) := congrArg Int32.toInt c321_4913
        refine s_iload 330 C X at_328 rfl ?_
        refine s_if_eq 337 333 C X at_330 (fun c330_4914 => ?_) (fun c330_4914 => ?_)
        ·have t_c330_4914 : (y4881).toInt = (0 : Int) := congrArg Int32.toInt c330_4914
         refine s_iload 339 C X at_337 rfl ?_
         exact J4917 (nv1) ((Or.inl ⟨t_c303_4911, t_c312_4912, t_c321_4913, t_c330_4914, rfl⟩))
        have t_c330_4914 : ¬ ((y4881).toInt = (0 : Int)) := fun q => c330_4914 (Int32.toInt_inj.mp q)
        refine s_iconst 334 C X at_333 kc_iconst_1 ?_
        refine s_goto 339 C X at_334 ?_
        exact J4917 (i1) (Or.inr (Or.inl ⟨t_c303_4911, t_c312_4912, t_c321_4913, t_c330_4914, rfl⟩))
       have t_c321_4913 : ¬ ((y4888).toInt = (0 : Int)) := fun q => c321_4913 (Int32.toInt_inj.mp q)
       refine s_iconst 325 C X at_324 kc_iconst_2 ?_
       refine s_goto 339 C X at_325 ?_
       exact J4917 (i2) (Or.inr (Or.inr (Or.inl ⟨t_c303_4911, t_c312_4912, t_c321_4913, rfl⟩)))
      have t_c312_4912 : ¬ ((y4895).toInt = (0 : Int)) := fun q => c312_4912 (Int32.toInt_inj.mp q)
      refine s_iconst 316 C X at_315 kc_iconst_3 ?_
      refine s_goto 339 C X at_316 ?_
      exact J4917 (i3) (Or.inr (Or.inr (Or.inr (Or.inl ⟨t_c303_4911, t_c312_4912, rfl⟩))))
     have t_c303_4911 : ¬ ((y4902).toInt = (0 : Int)) := fun q => c303_4911 (Int32.toInt_inj.mp q)
     refine s_iconst 307 C X at_306 kc_iconst_4 ?_
     refine s_goto 339 C X at_307 ?_
     exact J4917 (i4) (Or.inr (Or.inr (Or.inr (Or.inr ⟨t_c303_4911, rfl⟩))))
    intro y4916 D4917
    refine s_istore 341 C X (l' := #[iv x0, iv x1, iv x2, iv x3, iv x4, iv nv1, iv yF, iv yF_8, iv yF_13, iv yF_18, rv o4825, iv y4881, iv y4888, iv y4895, iv y4902, iv y4909, iv y4916, un, un, un, un]) at_339 rfl ?_
    refine s_iload 343 C X at_341 rfl ?_
    refine s_iload 345 C X at_343 rfl ?_
    refine s_isub 346 C X at_345 ?_
    obtain ⟨mv4918, e_mv4918⟩ : ∃ zz_ : Int32, zz_ = (y4916 - y4909) := ⟨_, rfl⟩
    refine rc (st' := [.int mv4918]) (by subst e_mv4918; rfl) ?_
    refine s_istore 348 C X (l' := #[iv x0, iv x1, iv x2, iv x3, iv x4, iv nv1, iv yF, iv yF_8, iv yF_13, iv yF_18, rv o4825, iv y4881, iv y4888, iv y4895, iv y4902, iv y4909, iv y4916, iv mv4918, un, un, un]) at_346 rfl ?_
    refine s_aload 350 C X at_348 rfl rfl ?_
    refine s_hcallS 353 [.ref o4825] [] 0 C X hS Rc.2 (own_EL hw) Rc.1.1 at_350 (mW 30 rfl) (mW 31 rfl) (mW 32 rfl) (mW 33 rfl) (rm_a81 l Z a0 hw cs fm o4825 bF kF k_bF zF zsF xs _ n0 X.sz S_cs S_fm S_ad S_hi S_lo E_o4825 F_o4825_a F_o4825_k Od A_bF hv_cs hv_fm hvS hvL) (lenOf pd__Ljava_lang_String__Ljava_lang_String_ rfl) rfl rfl rfl so0 (fun T v hh vm k1 C X hS Nk Rn q => ?_)
    obtain ⟨bFq, eFt, kFq, k_bFq, lFq, rFq, sFt, zFq, zsFq, rfl, hvS, hvl, hvR, Kc, Od, E_rFq, F_rFq_k, F_rFq_a, A_bFq⟩ := q
    have Rc := Rc.call Rn Nk
    have Kp := Kp.trans Kc all0
    refine rc (st' := [.ref rFq]) rfl ?_
    have hM := own_main (xs := xs) (by rw [hvL, c82_22]; decide) (by rw [hvL]; decide) (by rw [e_xs]; exact own_h2 yF yF_8 yF_13 yF_18) D4882 D4889 D4896 D4903 D4910 D4917 hvS hvl e_mv4918
    exact J353 T _ _ _ (rv o4825) (iv y4881) (iv y4888) (iv y4895) (iv y4902) (iv y4916) _ _ _ _ _ _ _ _ _ hM hvR C (X.mono (by decide) (by decide)) hS Od Kp Rc E_rFq F_rFq_k F_rFq_a A_bFq
   refine s_new 62 C X at_59 (mW 9 rfl) (mW 10 rfl) (mW 11 rfl) (fun T hh o5928 hb_o5928 X E E_o5928 D g_o5928 => ?_)
   have H_o5928 : Safe Z EL1 vm _ o5928 := Safe.ext E Rc.1.1 (Safe.new (Nat.le_of_eq hb_o5928))
   have Rc := Rc.ext E
   have sz_o5928 : h0.size ≤ o5928 := Nat.le_trans Kp.1 (Nat.le_of_eq hb_o5928)
   have Od := Od.ext E
   have Kp := Kp.ext E
   have F_o5928_a : Fld Z _ o5928 cS "value" "[B" .null := D (Or.inr (hw _ (mW 24 rfl))) (ty := (.array .byte)) (by decide)
   have F_o5928_k : Fld Z _ o5928 cS "coder" "B" (.int i0) := D (Or.inr (hw _ (mW 25 rfl))) (ty := .byte) (by decide)
   refine s_dup 63 C X at_62 rfl ?_
   refine s_iconst 64 C X at_63 kc_iconst_1 ?_
   refine s_newarray 66 1 C X at_64 (mW 5 rfl) (by decide) (by decide) (fun T hh o5929 k_o5929 hb_o5929 X E A_o5929 g_o5929 => ?_)
   have H_o5928 := Safe.ext E Rc.1.1 H_o5928
   have H_o5929 : Safe Z EL1 vm _ o5929 := Safe.ext E Rc.1.1 (Safe.new (Nat.le_of_eq hb_o5929))
   have Rc := Rc.ext E
   have sz_o5929 : h0.size ≤ o5929 := Nat.le_trans Kp.1 (Nat.le_of_eq hb_o5929)
   have ne_o5928_o5929 : o5928 ≠ o5929 := Nat.ne_of_lt (Nat.lt_of_lt_of_le E_o5928.lt (Nat.le_of_eq hb_o5929))
   have Od := Od.ext E
   have Kp := Kp.ext E
   have E_o5928 := E_o5928.ext E
   have F_o5928_a := F_o5928_a.ext E
   have F_o5928_k := F_o5928_k.ext E
   have A_o5929 : Arv Z _ o5929 k_o5929 .char i1 [.int i0] (.int i0) := A_o5929.pad (pad_rep [] _ 1)
   refine s_dup 67 C X at_66 rfl ?_
   refine s_iconst 68 C X at_67 kc_iconst_0 ?_
   refine s_iload 70 C X at_68 rfl ?_
   have Sf : Safe Z EL1 vm _ o5929 := H_o5929
   refine s_castore 71 0 C X at_70 A_o5929 g_o5929 ⟨by decide, by decide⟩ rfl (Nat.le_of_ble_eq_true rfl) (fun T hh X W A_o5929 => ?_)
   have A_o5929 : Arv Z _ o5929 k_o5929 .char i1 [(.int (nar .char yF))] (.int i0) := A_o5929
   have H_o5928 := Safe.wr W Sf Rc.1.1 H_o5928
   have Rc := Rc.wr W Sf
   have Od := Od.wr W g_o5929
   have Kp := Kp.wr W (Or.inr sz_o5929)
   have E_o5928 := E_o5928.wr W
   have F_o5928_a := F_o5928_a.other W (Or.inl ne_o5928_o5929)
   have F_o5928_k := F_o5928_k.other W (Or.inl ne_o5928_o5929)
   rw [own_nU hvU] at A_o5929
   refine s_hcallC 74 [.ref o5929] [.ref o5928] 1 C X hS Rc.2 (own_EL hw) Rc.1.1 at_71 rfl (mW 12 rfl) (mW 13 rfl) (mW 11 rfl) (mW 14 rfl) (rm_a92 l Z a0 hw cs yF o5928 o5929 k_o5929 _ n0 X.sz Od S_cs S_ad S_hi S_lo E_o5928 F_o5928_a F_o5928_k A_o5929 hv_cs hvU g_o5928 ne_o5928_o5929) (lenOf pd___C_V rfl) rfl rfl rfl (soS ⟨E_o5928.lt, H_o5928⟩ so0) (fun T v hh vm k1 C X hS Nk Rn q => ?_)
   obtain ⟨bF, kF, k_bF, zF, zsF, rfl, hvT, Kc, E_o5928, F_o5928_a, F_o5928_k, Od, A_bF⟩ := q
   have Rc := Rc.call Rn Nk
   have Kp := Kp.trans Kc (allS (Or.inr sz_o5928) all0)
   refine rc (st' := [.ref o5928]) rfl ?_
   refine s_astore 76 C X (l' := #[iv x0, iv x1, iv x2, iv x3, iv x4, iv nv1, iv yF, iv yF_8, iv yF_13, iv yF_18, rv o5928, un, un, un, un, un, un, un, un, un, un]) at_74 rfl rfl ?_
   refine s_goto 178 C X at_76 ?_
   obtain ⟨xs, e_xs⟩ : ∃ z : List Int32, z = [yF] := ⟨_, rfl⟩
   have hvS : own_T xs kF zF zsF := by rw [e_xs]; exact hvT
   have hvL : xs.length = 1 := by rw [e_xs]; rfl
   refine s_iload 180 C X at_178 rfl ?_
   suffices J5963 : ∀ (T : State) (hh : Heap) (vm : Vm) (k1 : Nat) (y5962 : Int32) (D5963 : ((¬ ((0 : Int) < (nv1).toInt)) ∧ y5962 = i0) ∨ (((0 : Int) < (nv1).toInt) ∧ blankP (yF).toInt ∧ y5962 = i0) ∨ (((0 : Int) < (nv1).toInt) ∧ ¬ blankP (yF).toInt ∧ y5962 = i1)) (C : Cx tables_1 a0 Z x.cls x.name code maxLocals ret p (s.setVm vm) m meth c) (X : St p l e room_1 (s.setVm vm) m #[.int x0, .int x1, .int x2, .int x3, .int x4] below meth c n0 T hh 8 216) (hS : s.Since vm k1) (Kp : Keep h0 hh []) (Rc : Rk Z EL1 s.vm h0 vm k1 hh) (E_o5928 : Exa Z hh o5928 cS) (F_o5928_a : Fld Z hh o5928 cS "value" "[B" (.ref bF)) (F_o5928_k : Fld Z hh o5928 cS "coder" "B" (.int kF)) (Od : Old Z n0 hh) (A_bF : Arv Z hh bF k_bF .byte zF (Y zsF) (.int i0)), Run p e below n0 Q' G' m T 196 #[iv x0, iv x1, iv x2, iv x3, iv x4, iv nv1, iv yF, iv yF_8, iv yF_13, iv yF_18, rv o5928, un, un, un, un, un, un, un, un, un, un] [.int y5962] by
    refine s_if_le 195 183 C X at_180 (fun c180_5957 => ?_) (fun c180_5957 => ?_)
    ·have t_c180_5957 : ¬ ((0 : Int) < (nv1).toInt) := fun q => c180_5957 (Int32.lt_iff_toInt_lt.mpr q)
     refine s_iconst 196 C X at_195 kc_iconst_0 ?_
     exact J5963 T _ _ _ (i0) ((Or.inl ⟨t_c180_5957, rfl⟩)) C X hS Kp Rc E_o5928 F_o5928_a F_o5928_k Od A_bF
    have t_c180_5957 : (0 : Int) < (nv1).toInt := Int32.lt_iff_toInt_lt.mp c180_5957
    refine s_iload 185 C X at_183 rfl ?_
    refine s_callS 188 [.int yF] [] 0 C X at_185 (mW 70 rfl) (mW 71 rfl) (mW 3 rfl) (mW 72 rfl) (rm_blank l Z a0 hw (yF) _ n0 X.sz) (lenOf pd__C_Z rfl) rfl rfl rfl (fun T v h43 X q => ?_)
    obtain ⟨⟨rfl, b5958⟩ | ⟨rfl, b5958⟩, hE⟩ := q
    ·rw [hE] at X
     refine rc (st' := [.int i1]) rfl ?_
     refine s_if_ne 195 191 C X at_188 (fun _ => ?_) (fun c => absurd c (by decide))
     refine s_iconst 196 C X at_195 kc_iconst_0 ?_
     exact J5963 T _ _ _ (i0) (Or.inr (Or.inl ⟨t_c180_5957, b5958, rfl⟩)) C X hS Kp Rc E_o5928 F_o5928_a F_o5928_k Od A_bF
    ·rw [hE] at X
     refine rc (st' := [.int i0]) rfl ?_
     refine s_if_ne 195 191 C X at_188 (fun c => absurd (by decide : i0 = i0) c) (fun _ => ?_)
     refine s_iconst 192 C X at_191 kc_iconst_1 ?_
     refine s_goto 196 C X at_192 ?_
     exact J5963 T _ _ _ (i1) (Or.inr (Or.inr ⟨t_c180_5957, b5958, rfl⟩)) C X hS Kp Rc E_o5928 F_o5928_a F_o5928_k Od A_bF
   intro T hh vm k1 y5962 D5963  C X hS Kp Rc E_o5928 F_o5928_a F_o5928_k Od A_bF
   refine s_istore 198 C X (l' := #[iv x0, iv x1, iv x2, iv x3, iv x4, iv nv1, iv yF, iv yF_8, iv yF_13, iv yF_18, rv o5928, iv y5962, un, un, un, un, un, un, un, un, un]) at_196 rfl ?_
   refine s_iload 200 C X at_198 rfl ?_
   refine s_iconst 201 C X at_200 kc_iconst_1 ?_
   suffices J5970 : ∀ (T : State) (hh : Heap) (vm : Vm) (k1 : Nat) (y5969 : Int32) (D5970 : ((¬ ((1 : Int) < (nv1).toInt)) ∧ y5969 = i0) ∨ (((1 : Int) < (nv1).toInt) ∧ blankP (yF_8).toInt ∧ y5969 = i0) ∨ (((1 : Int) < (nv1).toInt) ∧ ¬ blankP (yF_8).toInt ∧ y5969 = i1)) (C : Cx tables_1 a0 Z x.cls x.name code maxLocals ret p (s.setVm vm) m meth c) (X : St p l e room_1 (s.setVm vm) m #[.int x0, .int x1, .int x2, .int x3, .int x4] below meth c n0 T hh 8 216) (hS : s.Since vm k1) (Kp : Keep h0 hh []) (Rc : Rk Z EL1 s.vm h0 vm k1 hh) (E_o5928 : Exa Z hh o5928 cS) (F_o5928_a : Fld Z hh o5928 cS "value" "[B" (.ref bF)) (F_o5928_k : Fld Z hh o5928 cS "coder" "B" (.int kF)) (Od : Old Z n0 hh) (A_bF : Arv Z hh bF k_bF .byte zF (Y zsF) (.int i0)), Run p e below n0 Q' G' m T 217 #[iv x0, iv x1, iv x2, iv x3, iv x4, iv nv1, iv yF, iv yF_8, iv yF_13, iv yF_18, rv o5928, iv y5962, un, un, un, un, un, un, un, un, un] [.int y5969] by
    refine s_icmp_le 216 204 C X at_201 (fun c201_5964 => ?_) (fun c201_5964 => ?_)
    ·have t_c201_5964 : ¬ ((1 : Int) < (nv1).toInt) := fun q => c201_5964 (Int32.lt_iff_toInt_lt.mpr q)
     refine s_iconst 217 C X at_216 kc_iconst_0 ?_
     exact J5970 T _ _ _ (i0) ((Or.inl ⟨t_c201_5964, rfl⟩)) C X hS Kp Rc E_o5928 F_o5928_a F_o5928_k Od A_bF
    have t_c201_5964 : (1 : Int) < (nv1).toInt := Int32.lt_iff_toInt_lt.mp c201_5964
    refine s_iload 206 C X at_204 rfl ?_
    refine s_callS 209 [.int yF_8] [] 0 C X at_206 (mW 70 rfl) (mW 71 rfl) (mW 3 rfl) (mW 72 rfl) (rm_blank l Z a0 hw (yF_8) _ n0 X.sz) (lenOf pd__C_Z rfl) rfl rfl rfl (fun T v h42 X q => ?_)
    obtain ⟨⟨rfl, b5965⟩ | ⟨rfl, b5965⟩, hE⟩ := q
    ·rw [hE] at X
     refine rc (st' := [.int i1]) rfl ?_
     refine s_if_ne 216 212 C X at_209 (fun _ => ?_) (fun c => absurd c (by decide))
     refine s_iconst 217 C X at_216 kc_iconst_0 ?_
     exact J5970 T _ _ _ (i0) (Or.inr (Or.inl ⟨t_c201_5964, b5965, rfl⟩)) C X hS Kp Rc E_o5928 F_o5928_a F_o5928_k Od A_bF
    ·rw [hE] at X
     refine rc (st' := [.int i0]) rfl ?_
     refine s_if_ne 216 212 C X at_209 (fun c => absurd (by decide : i0 = i0) c) (fun _ => ?_)
     refine s_iconst 213 C X at_212 kc_iconst_1 ?_
     refine s_goto 217 C X at_213 ?_
     exact J5970 T _ _ _ (i1) (Or.inr (Or.inr ⟨t_c201_5964, b5965, rfl⟩)) C X hS Kp Rc E_o5928 F_o5928_a F_o5928_k Od A_bF
   intro T hh vm k1 y5969 D5970  C X hS Kp Rc E_o5928 F_o5928_a F_o5928_k Od A_bF
   refine s_istore 219 C X (l' := #[iv x0, iv x1, iv x2, iv x3, iv x4, iv nv1, iv yF, iv yF_8, iv yF_13, iv yF_18, rv o5928, iv y5962, iv y5969, un, un, un, un, un, un, un, un]) at_217 rfl ?_
   refine s_iload 221 C X at_219 rfl ?_
   refine s_iconst 222 C X at_221 kc_iconst_2 ?_
   suffices J5977 : ∀ (T : State) (hh : Heap) (vm : Vm) (k1 : Nat) (y5976 : Int32) (D5977 : ((¬ ((2 : Int) < (nv1).toInt)) ∧ y5976 = i0) ∨ (((2 : Int) < (nv1).toInt) ∧ blankP (yF_13).toInt ∧ y5976 = i0) ∨ (((2 : Int) < (nv1).toInt) ∧ ¬ blankP (yF_13).toInt ∧ y5976 = i1)) (C : Cx tables_1 a0 Z x.cls x.name code maxLocals ret p (s.setVm vm) m meth c) (X : St p l e room_1 (s.setVm vm) m #[.int x0, .int x1, .int x2, .int x3, .int x4] below meth c n0 T hh 8 216) (hS : s.Since vm k1) (Kp : Keep h0 hh []) (Rc : Rk Z EL1 s.vm h0 vm k1 hh) (E_o5928 : Exa Z hh o5928 cS) (F_o5928_a : Fld Z hh o5928 cS "value" "[B" (.ref bF)) (F_o5928_k : Fld Z hh o5928 cS "coder" "B" (.int kF)) (Od : Old Z n0 hh) (A_bF : Arv Z hh bF k_bF .byte zF (Y zsF) (.int i0)), Run p e below n0 Q' G' m T 238 #[iv x0, iv x1, iv x2, iv x3, iv x4, iv nv1, iv yF, iv yF_8, iv yF_13, iv yF_18, rv o5928, iv y5962, iv y5969, un, un, un, un, un, un, un, un] [.int y5976] by
    refine s_icmp_le 237 225 C X at_222 (fun c222_5971 => ?_) (fun c222_5971 => ?_)
    ·have t_c222_5971 : ¬ ((2 : Int) < (nv1).toInt) := fun q => c222_5971 (Int32.lt_iff_toInt_lt.mpr q)
     refine s_iconst 238 C X at_237 kc_iconst_0 ?_
     exact J5977 T _ _ _ (i0) ((Or.inl ⟨t_c222_5971, rfl⟩)) C X hS Kp Rc E_o5928 F_o5928_a F_o5928_k Od A_bF
    have t_c222_5971 : (2 : Int) < (nv1).toInt := Int32.lt_iff_toInt_lt.mp c222_5971
    refine s_iload 227 C X at_225 rfl ?_
    refine s_callS 230 [.int yF_13] [] 0 C X at_227 (mW 70 rfl) (mW 71 rfl) (mW 3 rfl) (mW 72 rfl) (rm_blank l Z a0 hw (yF_13) _ n0 X.sz) (lenOf pd__C_Z rfl) rfl rfl rfl (fun T v h41 X q => ?_)
    obtain ⟨⟨rfl, b5972⟩ | ⟨rfl, b5972⟩, hE⟩ := q
    ·rw [hE] at X
     refine rc (st' := [.int i1]) rfl ?_
     refine s_if_ne 237 233 C X at_230 (fun _ => ?_) (fun c => absurd c (by decide))
     refine s_iconst 238 C X at_237 kc_iconst_0 ?_
     exact J5977 T _ _ _ (i0) (Or.inr (Or.inl ⟨t_c222_5971, b5972, rfl⟩)) C X hS Kp Rc E_o5928 F_o5928_a F_o5928_k Od A_bF
    ·rw [hE] at X
     refine rc (st' := [.int i0]) rfl ?_
     refine s_if_ne 237 233 C X at_230 (fun c => absurd (by decide : i0 = i0) c) (fun _ => ?_)
     refine s_iconst 234 C X at_233 kc_iconst_1 ?_
     refine s_goto 238 C X at_234 ?_
     exact J5977 T _ _ _ (i1) (Or.inr (Or.inr ⟨t_c222_5971, b5972, rfl⟩)) C X hS Kp Rc E_o5928 F_o5928_a F_o5928_k Od A_bF
   intro T hh vm k1 y5976 D5977  C X hS Kp Rc E_o5928 F_o5928_a F_o5928_k Od A_bF
   refine s_istore 240 C X (l' := #[iv x0, iv x1, iv x2, iv x3, iv x4, iv nv1, iv yF, iv yF_8, iv yF_13, iv yF_18, rv o5928, iv y5962, iv y5969, iv y5976, un, un, un, un, un, un, un]) at_238 rfl ?_
   refine s_iload 242 C X at_240 rfl ?_
   refine s_iconst 243 C X at_242 kc_iconst_3 ?_
   suffices J5984 : ∀ (T : State) (hh : Heap) (vm : Vm) (k1 : Nat) (y5983 : Int32) (D5984 : ((¬ ((3 : Int) < (nv1).toInt)) ∧ y5983 = i0) ∨ (((3 : Int) < (nv1).toInt) ∧ blankP (yF_18).toInt ∧ y5983 = i0) ∨ (((3 : Int) < (nv1).toInt) ∧ ¬ blankP (yF_18).toInt ∧ y5983 = i1)) (C : Cx tables_1 a0 Z x.cls x.name code maxLocals ret p (s.setVm vm) m meth c) (X : St p l e room_1 (s.setVm vm) m #[.int x0, .int x1, .int x2, .int x3, .int x4] below meth c n0 T hh 8 216) (hS : s.Since vm k1) (Kp : Keep h0 hh []) (Rc : Rk Z EL1 s.vm h0 vm k1 hh) (E_o5928 : Exa Z hh o5928 cS) (F_o5928_a : Fld Z hh o5928 cS "value" "[B" (.ref bF)) (F_o5928_k : Fld Z hh o5928 cS "coder" "B" (.int kF)) (Od : Old Z n0 hh) (A_bF : Arv Z hh bF k_bF .byte zF (Y zsF) (.int i0)), Run p e below n0 Q' G' m T 259 #[iv x0, iv x1, iv x2, iv x3, iv x4, iv nv1, iv yF, iv yF_8, iv yF_13, iv yF_18, rv o5928, iv y5962, iv y5969, iv y5976, un, un, un, un, un, un, un] [.int y5983] by
    refine s_icmp_le 258 246 C X at_243 (fun c243_5978 => ?_) (fun c243_5978 => ?_)
    ·have t_c243_5978 : ¬ ((3 : Int) < (nv1).toInt) := fun q => c243_5978 (Int32.lt_iff_toInt_lt.mpr q)
     refine s_iconst 259 C X at_258 kc_iconst_0 ?_
     exact J5984 T _ _ _ (i0) ((Or.inl ⟨t_c243_5978, rfl⟩)) C X hS Kp Rc E_o5928 F_o5928_a F_o5928_k Od A_bF
    have t_c243_5978 : (3 : Int) < (nv1).toInt := Int32.lt_iff_toInt_lt.mp c243_5978
    refine s_iload 248 C X at_246 rfl ?_
    refine s_callS 251 [.int yF_18] [] 0 C X at_248 (mW 70 rfl) (mW 71 rfl) (mW 3 rfl) (mW 72 rfl) (rm_blank l Z a0 hw (yF_18) _ n0 X.sz) (lenOf pd__C_Z rfl) rfl rfl rfl (fun T v h40 X q => ?_)
    obtain ⟨⟨rfl, b5979⟩ | ⟨rfl, b5979⟩, hE⟩ := q
    ·rw [hE] at X
     refine rc (st' := [.int i1]) rfl ?_
     refine s_if_ne 258 254 C X at_251 (fun _ => ?_) (fun c => absurd c (by decide))
     refine s_iconst 259 C X at_258 kc_iconst_0 ?_
     exact J5984 T _ _ _ (i0) (Or.inr (Or.inl ⟨t_c243_5978, b5979, rfl⟩)) C X hS Kp Rc E_o5928 F_o5928_a F_o5928_k Od A_bF
    ·rw [hE] at X
     refine rc (st' := [.int i0]) rfl ?_
     refine s_if_ne 258 254 C X at_251 (fun c => absurd (by decide : i0 = i0) c) (fun _ => ?_)
     refine s_iconst 255 C X at_254 kc_iconst_1 ?_
     refine s_goto 259 C X at_255 ?_
     exact J5984 T _ _ _ (i1) (Or.inr (Or.inr ⟨t_c243_5978, b5979, rfl⟩)) C X hS Kp Rc E_o5928 F_o5928_a F_o5928_k Od A_bF
   intro T hh vm k1 y5983 D5984  C X hS Kp Rc E_o5928 F_o5928_a F_o5928_k Od A_bF
   refine s_istore 261 C X (l' := #[iv x0, iv x1, iv x2, iv x3, iv x4, iv nv1, iv yF, iv yF_8, iv yF_13, iv yF_18, rv o5928, iv y5962, iv y5969, iv y5976, iv y5983, un, un, un, un, un, un]) at_259 rfl ?_
   refine s_iload 263 C X at_261 rfl ?_
   suffices J5991 : ∀ (y5990 : Int32) (D5991 : (((y5962).toInt = (0 : Int)) ∧ ((y5969).toInt = (0 : Int)) ∧ ((y5976).toInt = (0 : Int)) ∧ ((y5983).toInt = (0 : Int)) ∧ y5990 = nv1) ∨ (((y5962).toInt = (0 : Int)) ∧ ((y5969).toInt = (0 : Int)) ∧ ((y5976).toInt = (0 : Int)) ∧ (¬ ((y5983).toInt = (0 : Int))) ∧ y5990 = i3) ∨ (((y5962).toInt = (0 : Int)) ∧ ((y5969).toInt = (0 : Int)) ∧ (¬ ((y5976).toInt = (0 : Int))) ∧ y5990 = i2) ∨ (((y5962).toInt = (0 : Int)) ∧ (¬ ((y5969).toInt = (0 : Int))) ∧ y5990 = i1) ∨ ((¬ ((y5962).toInt = (0 : Int))) ∧ y5990 = i0)), Run p e below n0 Q' G' m T 299 #[iv x0, iv x1, iv x2, iv x3, iv x4, iv nv1, iv yF, iv yF_8, iv yF_13, iv yF_18, rv o5928, iv y5962, iv y5969, iv y5976, iv y5983, un, un, un, un, un, un] [.int y5990] by
    refine s_if_eq 270 266 C X at_263 (fun c263_5985 => ?_) (fun c263_5985 => ?_)
    ·have t_c263_5985 : (y5962).toInt = (0 : Int) := congrArg Int32.toInt c263_5985
     refine s_iload 272 C X at_270 rfl ?_
     refine s_if_eq 279 275 C X at_272 (fun c272_5986 => ?_) (fun c272_5986 => ?_)
     ·have t_c272_5986 : (y5969).toInt = (0 : Int) := congrArg Int32.toInt c272_5986
      refine s_iload 281 C X at_279 rfl ?_
      refine s_if_eq 288 284 C X at_281 (fun c281_5987 => ?_) (fun c281_5987 => ?_)
      ·have t_c281_5987 : (y5976).toInt = (0 : Int) := congrArg Int32.toInt c281_5987
       refine s_iload 290 C X at_288 rfl ?_
       refine s_if_eq 297 293 C X at_290 (fun c290_5988 => ?_) (fun c290_5988 => ?_)
       ·have t_c290_5988 : (y5983).toInt = (0 : Int) := congrArg Int32.toInt c290_5988
        refine s_iload 299 C X at_297 rfl ?_
        exact J5991 (nv1) ((Or.inl ⟨t_c263_5985, t_c272_5986, t_c281_5987, t_c290_5988, rfl⟩))
       have t_c290_5988 : ¬ ((y5983).toInt = (0 : Int)) := fun q => c290_5988 (Int32.toInt_inj.mp q)
       refine s_iconst 294 C X at_293 kc_iconst_3 ?_
       refine s_goto 299 C X at_294 ?_
       exact J5991 (i3) (Or.inr (Or.inl ⟨t_c263_5985, t_c272_5986, t_c281_5987, t_c290_5988, rfl⟩))
      have t_c281_5987 : ¬ ((y5976).toInt = (0 : Int)) := fun q => c281_5987 (Int32.toInt_inj.mp q)
      refine s_iconst 285 C X at_284 kc_iconst_2 ?_
      refine s_goto 299 C X at_285 ?_
      exact J5991 (i2) (Or.inr (Or.inr (Or.inl ⟨t_c263_5985, t_c272_5986, t_c281_5987, rfl⟩)))
     have t_c272_5986 : ¬ ((y5969).toInt = (0 : Int)) := fun q => c272_5986 (Int32.toInt_inj.mp q)
     refine s_iconst 276 C X at_275 kc_iconst_1 ?_
     refine s_goto 299 C X at_276 ?_
     exact J5991 (i1) (Or.inr (Or.inr (Or.inr (Or.inl ⟨t_c263_5985, t_c272_5986, rfl⟩))))
    have t_c263_5985 : ¬ ((y5962).toInt = (0 : Int)) := fun q => c263_5985 (Int32.toInt_inj.mp q)
    refine s_iconst 267 C X at_266 kc_iconst_0 ?_
    refine s_goto 299 C X at_267 ?_
    exact J5991 (i0) (Or.inr (Or.inr (Or.inr (Or.inr ⟨t_c263_5985, rfl⟩))))
   intro y5990 D5991
   refine s_istore 301 C X (l' := #[iv x0, iv x1, iv x2, iv x3, iv x4, iv nv1, iv yF, iv yF_8, iv yF_13, iv yF_18, rv o5928, iv y5962, iv y5969, iv y5976, iv y5983, iv y5990, un, un, un, un, un]) at_299 rfl ?_
   refine s_iload 303 C X at_301 rfl ?_
   suffices J5998 : ∀ (y5997 : Int32) (D5998 : (((y5983).toInt = (0 : Int)) ∧ ((y5976).toInt = (0 : Int)) ∧ ((y5969).toInt = (0 : Int)) ∧ ((y5962).toInt = (0 : Int)) ∧ y5997 = nv1) ∨ (((y5983).toInt = (0 : Int)) ∧ ((y5976).toInt = (0 : Int)) ∧ ((y5969).toInt = (0 : Int)) ∧ (¬ ((y5962).toInt = (0 : Int))) ∧ y5997 = i1) ∨ (((y5983).toInt = (0 : Int)) ∧ ((y5976).toInt = (0 : Int)) ∧ (¬ ((y5969).toInt = (0 : Int))) ∧ y5997 = i2) ∨ (((y5983).toInt = (0 : Int)) ∧ (¬ ((y5976).toInt = (0 : Int))) ∧ y5997 = i3) ∨ ((¬ ((y5983).toInt = (0 : Int))) ∧ y5997 = i4)), Run p e below n0 Q' G' m T 339 #[iv x0, iv x1, iv x2, iv x3, iv x4, iv nv1, iv yF, iv yF_8, iv yF_13, iv yF_18, rv o5928, iv y5962, iv y5969, iv y5976, iv y5983, iv y5990, un, un, un, un, un] [.int y5997] by
    refine s_if_eq 310 306 C X at_303 (fun c303_5992 => ?_) (fun c303_5992 => ?_)
    ·have t_c303_5992 : (y5983).toInt = (0 : Int) := congrArg Int32.toInt c303_5992
     refine s_iload 312 C X at_310 rfl ?_
     refine s_if_eq 319 315 C X at_312 (fun c312_5993 => ?_) (fun c312_5993 => ?_)
     ·have t_c312_5993 : (y5976).toInt = (0 : Int) := congrArg Int32.toInt c312_5993
      refine s_iload 321 C X at_319 rfl ?_
      refine s_if_eq 328 324 C X at_321 (fun c321_5994 => ?_) (fun c321_5994 => ?_)
      ·have t_c321_5994 : (y5969).toInt = (0 : Int) := congrArg Int32.toInt c321_5994
       refine s_iload 330 C X at_328 rfl ?_
       refine s_if_eq 337 333 C X at_330 (fun c330_5995 => ?_) (fun c330_5995 => ?_)
       ·have t_c330_5995 : (y5962).toInt = (0 : Int) := congrArg Int32.toInt c330_5995
        refine s_iload 339 C X at_337 rfl ?_
        exact J5998 (nv1) ((Or.inl ⟨t_c303_5992, t_c312_5993, t_c321_5994, t_c330_5995, rfl⟩))
       have t_c330_5995 : ¬ ((y5962).toInt = (0 : Int)) := fun q => c330_5995 (Int32.toInt_inj.mp q)
       refine s_iconst 334 C X at_333 kc_iconst_1 ?_
       refine s_goto 339 C X at_334 ?_
       exact J5998 (i1) (Or.inr (Or.inl ⟨t_c303_5992, t_c312_5993, t_c321_5994, t_c330_5995, rfl⟩))
      have t_c321_5994 : ¬ ((y5969).toInt = (0 : Int)) := fun q => c321_5994 (Int32.toInt_inj.mp q)
      refine s_iconst 325 C X at_324 kc_iconst_2 ?_
      refine s_goto 339 C X at_325 ?_
      exact J5998 (i2) (Or.inr (Or.inr (Or.inl ⟨t_c303_5992, t_c312_5993, t_c321_5994, rfl⟩)))
     have t_c312_5993 : ¬ ((y5976).toInt = (0 : Int)) := fun q => c312_5993 (Int32.toInt_inj.mp q)
     refine s_iconst 316 C X at_315 kc_iconst_3 ?_
     refine s_goto 339 C X at_316 ?_
     exact J5998 (i3) (Or.inr (Or.inr (Or.inr (Or.inl ⟨t_c303_5992, t_c312_5993, rfl⟩))))
    have t_c303_5992 : ¬ ((y5983).toInt = (0 : Int)) := fun q => c303_5992 (Int32.toInt_inj.mp q)
    refine s_iconst 307 C X at_306 kc_iconst_4 ?_
    refine s_goto 339 C X at_307 ?_
    exact J5998 (i4) (Or.inr (Or.inr (Or.inr (Or.inr ⟨t_c303_5992, rfl⟩))))
   intro y5997 D5998
   refine s_istore 341 C X (l' := #[iv x0, iv x1, iv x2, iv x3, iv x4, iv nv1, iv yF, iv yF_8, iv yF_13, iv yF_18, rv o5928, iv y5962, iv y5969, iv y5976, iv y5983, iv y5990, iv y5997, un, un, un, un]) at_339 rfl ?_
   refine s_iload 343 C X at_341 rfl ?_
   refine s_iload 345 C X at_343 rfl ?_
   refine s_isub 346 C X at_345 ?_
   obtain ⟨mv5999, e_mv5999⟩ : ∃ zz_ : Int32, zz_ = (y5997 - y5990) := ⟨_, rfl⟩
   refine rc (st' := [.int mv5999]) (by subst e_mv5999; rfl) ?_
   refine s_istore 348 C X (l' := #[iv x0, iv x1, iv x2, iv x3, iv x4, iv nv1, iv yF, iv yF_8, iv yF_13, iv yF_18, rv o5928, iv y5962, iv y5969, iv y5976, iv y5983, iv y5990, iv y5997, iv mv5999, un, un, un]) at_346 rfl ?_
   refine s_aload 350 C X at_348 rfl rfl ?_
   refine s_hcallS 353 [.ref o5928] [] 0 C X hS Rc.2 (own_EL hw) Rc.1.1 at_350 (mW 30 rfl) (mW 31 rfl) (mW 32 rfl) (mW 33 rfl) (rm_a93 l Z a0 hw cs fm o5928 bF kF k_bF zF zsF xs _ n0 X.sz S_cs S_fm S_ad S_hi S_lo E_o5928 F_o5928_a F_o5928_k Od A_bF hv_cs hv_fm hvS hvL) (lenOf pd__Ljava_lang_String__Ljava_lang_String_ rfl) rfl rfl rfl so0 (fun T v hh vm k1 C X hS Nk Rn q => ?_)
   obtain ⟨bFq, eFt, kFq, k_bFq, lFq, rFq, sFt, zFq, zsFq, rfl, hvS, hvl, hvR, Kc, Od, E_rFq, F_rFq_k, F_rFq_a, A_bFq⟩ := q
   have Rc := Rc.call Rn Nk
   have Kp := Kp.trans Kc all0
   refine rc (st' := [.ref rFq]) rfl ?_
   have hM := own_main (xs := xs) (by rw [hvL, c56_21]; decide) (by rw [hvL]; decide) (by rw [e_xs]; exact own_h1 yF yF_8 yF_13 yF_18) D5963 D5970 D5977 D5984 D5991 D5998 hvS hvl e_mv5999
   exact J353 T _ _ _ (rv o5928) (iv y5962) (iv y5969) (iv y5976) (iv y5983) (iv y5997) _ _ _ _ _ _ _ _ _ hM hvR C (X.mono (by decide) (by decide)) hS Od Kp Rc E_rFq F_rFq_k F_rFq_a A_bFq
  refine s_new 41 C X at_38 (mW 9 rfl) (mW 10 rfl) (mW 11 rfl) (fun T hh o6494 hb_o6494 X E E_o6494 D g_o6494 => ?_)
  have H_o6494 : Safe Z EL1 vm _ o6494 := Safe.ext E Rc.1.1 (Safe.new (Nat.le_of_eq hb_o6494))
  have Rc := Rc.ext E
  have sz_o6494 : h0.size ≤ o6494 := Nat.le_trans Kp.1 (Nat.le_of_eq hb_o6494)
  have Od := Od.ext E
  have Kp := Kp.ext E
  have F_o6494_a : Fld Z _ o6494 cS "value" "[B" .null := D (Or.inr (hw _ (mW 24 rfl))) (ty := (.array .byte)) (by decide)
  have F_o6494_k : Fld Z _ o6494 cS "coder" "B" (.int i0) := D (Or.inr (hw _ (mW 25 rfl))) (ty := .byte) (by decide)
  refine s_dup 42 C X at_41 rfl ?_
  refine s_iconst 43 C X at_42 kc_iconst_0 ?_
  refine s_newarray 45 0 C X at_43 (mW 5 rfl) (by decide) (by decide) (fun T hh o6495 k_o6495 hb_o6495 X E A_o6495 g_o6495 => ?_)
  have H_o6494 := Safe.ext E Rc.1.1 H_o6494
  have Rc := Rc.ext E
  have ne_o6494_o6495 : o6494 ≠ o6495 := Nat.ne_of_lt (Nat.lt_of_lt_of_le E_o6494.lt (Nat.le_of_eq hb_o6495))
  have Od := Od.ext E
  have Kp := Kp.ext E
  have E_o6494 := E_o6494.ext E
  have F_o6494_a := F_o6494_a.ext E
  have F_o6494_k := F_o6494_k.ext E
  have A_o6495 : Arv Z _ o6495 k_o6495 .char i0 [] (.int i0) := A_o6495.pad (pad_rep [] _ 0)
  refine s_hcallC 48 [.ref o6495] [.ref o6494] 1 C X hS Rc.2 (own_EL hw) Rc.1.1 at_45 rfl (mW 12 rfl) (mW 13 rfl) (mW 11 rfl) (mW 14 rfl) (rm_a95 l Z a0 hw o6494 o6495 k_o6495 _ n0 X.sz E_o6494 F_o6494_a F_o6494_k A_o6495 g_o6494 ne_o6494_o6495) (lenOf pd___C_V rfl) rfl rfl rfl (soS ⟨E_o6494.lt, H_o6494⟩ so0) (fun T v hh vm k1 C X hS Nk Rn q => ?_)
  obtain ⟨bF, kF, k_bF, zF, zsF, rfl, hvT, Kc, E_o6494, F_o6494_a, F_o6494_k, A_bF⟩ := q
  have Rc := Rc.call Rn Nk
  have Od := Od.keep Kc (allS g_o6494 all0)
  have Kp := Kp.trans Kc (allS (Or.inr sz_o6494) all0)
  refine rc (st' := [.ref o6494]) rfl ?_
  refine s_astore 50 C X (l' := #[iv x0, iv x1, iv x2, iv x3, iv x4, iv nv1, iv yF, iv yF_8, iv yF_13, iv yF_18, rv o6494, un, un, un, un, un, un, un, un, un, un]) at_48 rfl rfl ?_
  refine s_goto 178 C X at_50 ?_
  obtain ⟨xs, e_xs⟩ : ∃ z : List Int32, z = [] := ⟨_, rfl⟩
  have hvS : own_T xs kF zF zsF := by rw [e_xs]; exact hvT
  have hvL : xs.length = 0 := by rw [e_xs]; rfl
  refine s_iload 180 C X at_178 rfl ?_
  suffices J6509 : ∀ (T : State) (hh : Heap) (vm : Vm) (k1 : Nat) (y6508 : Int32) (D6509 : ((¬ ((0 : Int) < (nv1).toInt)) ∧ y6508 = i0) ∨ (((0 : Int) < (nv1).toInt) ∧ blankP (yF).toInt ∧ y6508 = i0) ∨ (((0 : Int) < (nv1).toInt) ∧ ¬ blankP (yF).toInt ∧ y6508 = i1)) (C : Cx tables_1 a0 Z x.cls x.name code maxLocals ret p (s.setVm vm) m meth c) (X : St p l e room_1 (s.setVm vm) m #[.int x0, .int x1, .int x2, .int x3, .int x4] below meth c n0 T hh 10 220) (hS : s.Since vm k1) (Od : Old Z n0 hh) (Kp : Keep h0 hh []) (Rc : Rk Z EL1 s.vm h0 vm k1 hh) (E_o6494 : Exa Z hh o6494 cS) (F_o6494_a : Fld Z hh o6494 cS "value" "[B" (.ref bF)) (F_o6494_k : Fld Z hh o6494 cS "coder" "B" (.int kF)) (A_bF : Arv Z hh bF k_bF .byte zF (Y zsF) (.int i0)), Run p e below n0 Q' G' m T 196 #[iv x0, iv x1, iv x2, iv x3, iv x4, iv nv1, iv yF, iv yF_8, iv yF_13, iv yF_18, rv o6494, un, un, un, un, un, un, un, un, un, un] [.int y6508] by
   refine s_if_le 195 183 C X at_180 (fun c180_6503 => ?_) (fun c180_6503 => ?_)
   ·have t_c180_6503 : ¬ ((0 : Int) < (nv1).toInt) := fun q => c180_6503 (Int32.lt_iff_toInt_lt.mpr q)
    refine s_iconst 196 C X at_195 kc_iconst_0 ?_
    exact J6509 T _ _ _ (i0) ((Or.inl ⟨t_c180_6503, rfl⟩)) C X hS Od Kp Rc E_o6494 F_o6494_a F_o6494_k A_bF
   have t_c180_6503 : (0 : Int) < (nv1).toInt := Int32.lt_iff_toInt_lt.mp c180_6503
   refine s_iload 185 C X at_183 rfl ?_
   refine s_callS 188 [.int yF] [] 0 C X at_185 (mW 70 rfl) (mW 71 rfl) (mW 3 rfl) (mW 72 rfl) (rm_blank l Z a0 hw (yF) _ n0 X.sz) (lenOf pd__C_Z rfl) rfl rfl rfl (fun T v h53 X q => ?_)
   obtain ⟨⟨rfl, b6504⟩ | ⟨rfl, b6504⟩, hE⟩ := q
   ·rw [hE] at X
    refine rc (st' := [.int i1]) rfl ?_
    refine s_if_ne 195 191 C X at_188 (fun _ => ?_) (fun c => absurd c (by decide))
    refine s_iconst 196 C X at_195 kc_iconst_0 ?_
    exact J6509 T _ _ _ (i0) (Or.inr (Or.inl ⟨t_c180_6503, b6504, rfl⟩)) C X hS Od Kp Rc E_o6494 F_o6494_a F_o6494_k A_bF
   ·rw [hE] at X
    refine rc (st' := [.int i0]) rfl ?_
    refine s_if_ne 195 191 C X at_188 (fun c => absurd (by decide : i0 = i0) c) (fun _ => ?_)
    refine s_iconst 192 C X at_191 kc_iconst_1 ?_
    refine s_goto 196 C X at_192 ?_
    exact J6509 T _ _ _ (i1) (Or.inr (Or.inr ⟨t_c180_6503, b6504, rfl⟩)) C X hS Od Kp Rc E_o6494 F_o6494_a F_o6494_k A_bF
  intro T hh vm k1 y6508 D6509  C X hS Od Kp Rc E_o6494 F_o6494_a F_o6494_k A_bF
  refine s_istore 198 C X (l' := #[iv x0, iv x1, iv x2, iv x3, iv x4, iv nv1, iv yF, iv yF_8, iv yF_13, iv yF_18, rv o6494, iv y6508, un, un, un, un, un, un, un, un, un]) at_196 rfl ?_
  refine s_iload 200 C X at_198 rfl ?_
  refine s_iconst 201 C X at_200 kc_iconst_1 ?_
  suffices J6516 : ∀ (T : State) (hh : Heap) (vm : Vm) (k1 : Nat) (y6515 : Int32) (D6516 : ((¬ ((1 : Int) < (nv1).toInt)) ∧ y6515 = i0) ∨ (((1 : Int) < (nv1).toInt) ∧ blankP (yF_8).toInt ∧ y6515 = i0) ∨ (((1 : Int) < (nv1).toInt) ∧ ¬ blankP (yF_8).toInt ∧ y6515 = i1)) (C : Cx tables_1 a0 Z x.cls x.name code maxLocals ret p (s.setVm vm) m meth c) (X : St p l e room_1 (s.setVm vm) m #[.int x0, .int x1, .int x2, .int x3, .int x4] below meth c n0 T hh 10 220) (hS : s.Since vm k1) (Od : Old Z n0 hh) (Kp : Keep h0 hh []) (Rc : Rk Z EL1 s.vm h0 vm k1 hh) (E_o6494 : Exa Z hh o6494 cS) (F_o6494_a : Fld Z hh o6494 cS "value" "[B" (.ref bF)) (F_o6494_k : Fld Z hh o6494 cS "coder" "B" (.int kF)) (A_bF : Arv Z hh bF k_bF .byte zF (Y zsF) (.int i0)), Run p e below n0 Q' G' m T 217 #[iv x0, iv x1, iv x2, iv x3, iv x4, iv nv1, iv yF, iv yF_8, iv yF_13, iv yF_18, rv o6494, iv y6508, un, un, un, un, un, un, un, un, un] [.int y6515] by
   refine s_icmp_le 216 204 C X at_201 (fun c201_6510 => ?_) (fun c201_6510 => ?_)
   ·have t_c201_6510 : ¬ ((1 : Int) < (nv1).toInt) := fun q => c201_6510 (Int32.lt_iff_toInt_lt.mpr q)
    refine s_iconst 217 C X at_216 kc_iconst_0 ?_
    exact J6516 T _ _ _ (i0) ((Or.inl ⟨t_c201_6510, rfl⟩)) C X hS Od Kp Rc E_o6494 F_o6494_a F_o6494_k A_bF
   have t_c201_6510 : (1 : Int) < (nv1).toInt := Int32.lt_iff_toInt_lt.mp c201_6510
   refine s_iload 206 C X at_204 rfl ?_
   refine s_callS 209 [.int yF_8] [] 0 C X at_206 (mW 70 rfl) (mW 71 rfl) (mW 3 rfl) (mW 72 rfl) (rm_blank l Z a0 hw (yF_8) _ n0 X.sz) (lenOf pd__C_Z rfl) rfl rfl rfl (fun T v h52 X q => ?_)
   obtain ⟨⟨rfl, b6511⟩ | ⟨rfl, b6511⟩, hE⟩ := q
   ·rw [hE] at X
    refine rc (st' := [.int i1]) rfl ?_
    refine s_if_ne 216 212 C X at_209 (fun _ => ?_) (fun c => absurd c (by decide))
    refine s_iconst 217 C X at_216 kc_iconst_0 ?_
    exact J6516 T _ _ _ (i0) (Or.inr (Or.inl ⟨t_c201_6510, b6511, rfl⟩)) C X hS Od Kp Rc E_o6494 F_o6494_a F_o6494_k A_bF
   ·rw [hE] at X
    refine rc (st' := [.int i0]) rfl ?_
    refine s_if_ne 216 212 C X at_209 (fun c => absurd (by decide : i0 = i0) c) (fun _ => ?_)
    refine s_iconst 213 C X at_212 kc_iconst_1 ?_
    refine s_goto 217 C X at_213 ?_
    exact J6516 T _ _ _ (i1) (Or.inr (Or.inr ⟨t_c201_6510, b6511, rfl⟩)) C X hS Od Kp Rc E_o6494 F_o6494_a F_o6494_k A_bF
  intro T hh vm k1 y6515 D6516  C X hS Od Kp Rc E_o6494 F_o6494_a F_o6494_k A_bF
  refine s_istore 219 C X (l' := #[iv x0, iv x1, iv x2, iv x3, iv x4, iv nv1, iv yF, iv yF_8, iv yF_13, iv yF_18, rv o6494, iv y6508, iv y6515, un, un, un, un, un, un, un, un]) at_217 rfl ?_
  refine s_iload 221 C X at_219 rfl ?_
  refine s_iconst 222 C X at_221 kc_iconst_2 ?_
  suffices J6523 : ∀ (T : State) (hh : Heap) (vm : Vm) (k1 : Nat) (y6522 : Int32) (D6523 : ((¬ ((2 : Int) < (nv1).toInt)) ∧ y6522 = i0) ∨ (((2 : Int) < (nv1).toInt) ∧ blankP (yF_13).toInt ∧ y6522 = i0) ∨ (((2 : Int) < (nv1).toInt) ∧ ¬ blankP (yF_13).toInt ∧ y6522 = i1)) (C : Cx tables_1 a0 Z x.cls x.name code maxLocals ret p (s.setVm vm) m meth c) (X : St p l e room_1 (s.setVm vm) m #[.int x0, .int x1, .int x2, .int x3, .int x4] below meth c n0 T hh 10 220) (hS : s.Since vm k1) (Od : Old Z n0 hh) (Kp : Keep h0 hh []) (Rc : Rk Z EL1 s.vm h0 vm k1 hh) (E_o6494 : Exa Z hh o6494 cS) (F_o6494_a : Fld Z hh o6494 cS "value" "[B" (.ref bF)) (F_o6494_k : Fld Z hh o6494 cS "coder" "B" (.int kF)) (A_bF : Arv Z hh bF k_bF .byte zF (Y zsF) (.int i0)), Run p e below n0 Q' G' m T 238 #[iv x0, iv x1, iv x2, iv x3, iv x4, iv nv1, iv yF, iv yF_8, iv yF_13, iv yF_18, rv o6494, iv y6508, iv y6515, un, un, un, un, un, un, un, un] [.int y6522] by
   refine s_icmp_le 237 225 C X at_222 (fun c222_6517 => ?_) (fun c222_6517 => ?_)
   ·have t_c222_6517 : ¬ ((2 : Int) < (nv1).toInt) := fun q => c222_6517 (Int32.lt_iff_toInt_lt.mpr q)
    refine s_iconst 238 C X at_237 kc_iconst_0 ?_
    exact J6523 T _ _ _ (i0) ((Or.inl ⟨t_c222_6517, rfl⟩)) C X hS Od Kp Rc E_o6494 F_o6494_a F_o6494_k A_bF
   have t_c222_6517 : (2 : Int) < (nv1).toInt := Int32.lt_iff_toInt_lt.mp c222_6517
   refine s_iload 227 C X at_225 rfl ?_
   refine s_callS 230 [.int yF_13] [] 0 C X at_227 (mW 70 rfl) (mW 71 rfl) (mW 3 rfl) (mW 72 rfl) (rm_blank l Z a0 hw (yF_13) _ n0 X.sz) (lenOf pd__C_Z rfl) rfl rfl rfl (fun T v h51 X q => ?_)
   obtain ⟨⟨rfl, b6518⟩ | ⟨rfl, b6518⟩, hE⟩ := q
   ·rw [hE] at X
    refine rc (st' := [.int i1]) rfl ?_
    refine s_if_ne 237 233 C X at_230 (fun _ => ?_) (fun c => absurd c (by decide))
    refine s_iconst 238 C X at_237 kc_iconst_0 ?_
    exact J6523 T _ _ _ (i0) (Or.inr (Or.inl ⟨t_c222_6517, b6518, rfl⟩)) C X hS Od Kp Rc E_o6494 F_o6494_a F_o6494_k A_bF
   ·rw [hE] at X
    refine rc (st' := [.int i0]) rfl ?_
    refine s_if_ne 237 233 C X at_230 (fun c => absurd (by decide : i0 = i0) c) (fun _ => ?_)
    refine s_iconst 234 C X at_233 kc_iconst_1 ?_
    refine s_goto 238 C X at_234 ?_
    exact J6523 T _ _ _ (i1) (Or.inr (Or.inr ⟨t_c222_6517, b6518, rfl⟩)) C X hS Od Kp Rc E_o6494 F_o6494_a F_o6494_k A_bF
  intro T hh vm k1 y6522 D6523  C X hS Od Kp Rc E_o6494 F_o6494_a F_o6494_k A_bF
  refine s_istore 240 C X (l' := #[iv x0, iv x1, iv x2, iv x3, iv x4, iv nv1, iv yF, iv yF_8, iv yF_13, iv yF_18, rv o6494, iv y6508, iv y6515, iv y6522, un, un, un, un, un, un, un]) at_238 rfl ?_
  refine s_iload 242 C X at_240 rfl ?_
  refine s_iconst 243 C X at_242 kc_iconst_3 ?_
  suffices J6530 : ∀ (T : State) (hh : Heap) (vm : Vm) (k1 : Nat) (y6529 : Int32) (D6530 : ((¬ ((3 : Int) < (nv1).toInt)) ∧ y6529 = i0) ∨ (((3 : Int) < (nv1).toInt) ∧ blankP (yF_18).toInt ∧ y6529 = i0) ∨ (((3 : Int) < (nv1).toInt) ∧ ¬ blankP (yF_18).toInt ∧ y6529 = i1)) (C : Cx tables_1 a0 Z x.cls x.name code maxLocals ret p (s.setVm vm) m meth c) (X : St p l e room_1 (s.setVm vm) m #[.int x0, .int x1, .int x2, .int x3, .int x4] below meth c n0 T hh 10 220) (hS : s.Since vm k1) (Od : Old Z n0 hh) (Kp : Keep h0 hh []) (Rc : Rk Z EL1 s.vm h0 vm k1 hh) (E_o6494 : Exa Z hh o6494 cS) (F_o6494_a : Fld Z hh o6494 cS "value" "[B" (.ref bF)) (F_o6494_k : Fld Z hh o6494 cS "coder" "B" (.int kF)) (A_bF : Arv Z hh bF k_bF .byte zF (Y zsF) (.int i0)), Run p e below n0 Q' G' m T 259 #[iv x0, iv x1, iv x2, iv x3, iv x4, iv nv1, iv yF, iv yF_8, iv yF_13, iv yF_18, rv o6494, iv y6508, iv y6515, iv y6522, un, un, un, un, un, un, un] [.int y6529] by
   refine s_icmp_le 258 246 C X at_243 (fun c243_6524 => ?_) (fun c243_6524 => ?_)
   ·have t_c243_6524 : ¬ ((3 : Int) < (nv1).toInt) := fun q => c243_6524 (Int32.lt_iff_toInt_lt.mpr q)
    refine s_iconst 259 C X at_258 kc_iconst_0 ?_
    exact J6530 T _ _ _ (i0) ((Or.inl ⟨t_c243_6524, rfl⟩)) C X hS Od Kp Rc E_o6494 F_o6494_a F_o6494_k A_bF
   have t_c243_6524 : (3 : Int) < (nv1).toInt := Int32.lt_iff_toInt_lt.mp c243_6524
   refine s_iload 248 C X at_246 rfl ?_
   refine s_callS 251 [.int yF_18] [] 0 C X at_248 (mW 70 rfl) (mW 71 rfl) (mW 3 rfl) (mW 72 rfl) (rm_blank l Z a0 hw (yF_18) _ n0 X.sz) (lenOf pd__C_Z rfl) rfl rfl rfl (fun T v h50 X q => ?_)
   obtain ⟨⟨rfl, b6525⟩ | ⟨rfl, b6525⟩, hE⟩ := q
   ·rw [hE] at X
    refine rc (st' := [.int i1]) rfl ?_
    refine s_if_ne 258 254 C X at_251 (fun _ => ?_) (fun c => absurd c (by decide))
    refine s_iconst 259 C X at_258 kc_iconst_0 ?_
    exact J6530 T _ _ _ (i0) (Or.inr (Or.inl ⟨t_c243_6524, b6525, rfl⟩)) C X hS Od Kp Rc E_o6494 F_o6494_a F_o6494_k A_bF
   ·rw [hE] at X
    refine rc (st' := [.int i0]) rfl ?_
    refine s_if_ne 258 254 C X at_251 (fun c => absurd (by decide : i0 = i0) c) (fun _ => ?_)
    refine s_iconst 255 C X at_254 kc_iconst_1 ?_
    refine s_goto 259 C X at_255 ?_
    exact J6530 T _ _ _ (i1) (Or.inr (Or.inr ⟨t_c243_6524, b6525, rfl⟩)) C X hS Od Kp Rc E_o6494 F_o6494_a F_o6494_k A_bF
  intro T hh vm k1 y6529 D6530  C X hS Od Kp Rc E_o6494 F_o6494_a F_o6494_k A_bF
  refine s_istore 261 C X (l' := #[iv x0, iv x1, iv x2, iv x3, iv x4, iv nv1, iv yF, iv yF_8, iv yF_13, iv yF_18, rv o6494, iv y6508, iv y6515, iv y6522, iv y6529, un, un, un, un, un, un]) at_259 rfl ?_
  refine s_iload 263 C X at_261 rfl ?_
  suffices J6537 : ∀ (y6536 : Int32) (D6537 : (((y6508).toInt = (0 : Int)) ∧ ((y6515).toInt = (0 : Int)) ∧ ((y6522).toInt = (0 : Int)) ∧ ((y6529).toInt = (0 : Int)) ∧ y6536 = nv1) ∨ (((y6508).toInt = (0 : Int)) ∧ ((y6515).toInt = (0 : Int)) ∧ ((y6522).toInt = (0 : Int)) ∧ (¬ ((y6529).toInt = (0 : Int))) ∧ y6536 = i3) ∨ (((y6508).toInt = (0 : Int)) ∧ ((y6515).toInt = (0 : Int)) ∧ (¬ ((y6522).toInt = (0 : Int))) ∧ y6536 = i2) ∨ (((y6508).toInt = (0 : Int)) ∧ (¬ ((y6515).toInt = (0 : Int))) ∧ y6536 = i1) ∨ ((¬ ((y6508).toInt = (0 : Int))) ∧ y6536 = i0)), Run p e below n0 Q' G' m T 299 #[iv x0, iv x1, iv x2, iv x3, iv x4, iv nv1, iv yF, iv yF_8, iv yF_13, iv yF_18, rv o6494, iv y6508, iv y6515, iv y6522, iv y6529, un, un, un, un, un, un] [.int y6536] by
   refine s_if_eq 270 266 C X at_263 (fun c263_6531 => ?_) (fun c263_6531 => ?_)
   ·have t_c263_6531 : (y6508).toInt = (0 : Int) := congrArg Int32.toInt c263_6531
    refine s_iload 272 C X at_270 rfl ?_
    refine s_if_eq 279 275 C X at_272 (fun c272_6532 => ?_) (fun c272_6532 => ?_)
    ·have t_c272_6532 : (y6515).toInt = (0 : Int) := congrArg Int32.toInt c272_6532
     refine s_iload 281 C X at_279 rfl ?_
     refine s_if_eq 288 284 C X at_281 (fun c281_6533 => ?_) (fun c281_6533 => ?_)
     ·have t_c281_6533 : (y6522).toInt = (0 : Int) := congrArg Int32.toInt c281_6533
      refine s_iload 290 C X at_288 rfl ?_
      refine s_if_eq 297 293 C X at_290 (fun c290_6534 => ?_) (fun c290_6534 => ?_)
      ·have t_c290_6534 : (y6529).toInt = (0 : Int) := congrArg Int32.toInt c290_6534
       refine s_iload 299 C X at_297 rfl ?_
       exact J6537 (nv1) ((Or.inl ⟨t_c263_6531, t_c272_6532, t_c281_6533, t_c290_6534, rfl⟩))
      have t_c290_6534 : ¬ ((y6529).toInt = (0 : Int)) := fun q => c290_6534 (Int32.toInt_inj.mp q)
      refine s_iconst 294 C X at_293 kc_iconst_3 ?_
      refine s_goto 299 C X at_294 ?_
      exact J6537 (i3) (Or.inr (Or.inl ⟨t_c263_6531, t_c272_6532, t_c281_6533, t_c290_6534, rfl⟩))
     have t_c281_6533 : ¬ ((y6522).toInt = (0 : Int)) := fun q => c281_6533 (Int32.toInt_inj.mp q)
     refine s_iconst 285 C X at_284 kc_iconst_2 ?_
     refine s_goto 299 C X at_285 ?_
     exact J6537 (i2) (Or.inr (Or.inr (Or.inl ⟨t_c263_6531, t_c272_6532, t_c281_6533, rfl⟩)))
    have t_c272_6532 : ¬ ((y6515).toInt = (0 : Int)) := fun q => c272_6532 (Int32.toInt_inj.mp q)
    refine s_iconst 276 C X at_275 kc_iconst_1 ?_
    refine s_goto 299 C X at_276 ?_
    exact J6537 (i1) (Or.inr (Or.inr (Or.inr (Or.inl ⟨t_c263_6531, t_c272_6532, rfl⟩))))
   have t_c263_6531 : ¬ ((y6508).toInt = (0 : Int)) := fun q => c263_6531 (Int32.toInt_inj.mp q)
   refine s_iconst 267 C X at_266 kc_iconst_0 ?_
   refine s_goto 299 C X at_267 ?_
   exact J6537 (i0) (Or.inr (Or.inr (Or.inr (Or.inr ⟨t_c263_6531, rfl⟩))))
  intro y6536 D6537
  refine s_istore 301 C X (l' := #[iv x0, iv x1, iv x2, iv x3, iv x4, iv nv1, iv yF, iv yF_8, iv yF_13, iv yF_18, rv o6494, iv y6508, iv y6515, iv y6522, iv y6529, iv y6536, un, un, un, un, un]) at_299 rfl ?_
  refine s_iload 303 C X at_301 rfl ?_
  suffices J6544 : ∀ (y6543 : Int32) (D6544 : (((y6529).toInt = (0 : Int)) ∧ ((y6522).toInt = (0 : Int)) ∧ ((y6515).toInt = (0 : Int)) ∧ ((y6508).toInt = (0 : Int)) ∧ y6543 = nv1) ∨ (((y6529).toInt = (0 : Int)) ∧ ((y6522).toInt = (0 : Int)) ∧ ((y6515).toInt = (0 : Int)) ∧ (¬ ((y6508).toInt = (0 : Int))) ∧ y6543 = i1) ∨ (((y6529).toInt = (0 : Int)) ∧ ((y6522).toInt = (0 : Int)) ∧ (¬ ((y6515).toInt = (0 : Int))) ∧ y6543 = i2) ∨ (((y6529).toInt = (0 : Int)) ∧ (¬ ((y6522).toInt = (0 : Int))) ∧ y6543 = i3) ∨ ((¬ ((y6529).toInt = (0 : Int))) ∧ y6543 = i4)), Run p e below n0 Q' G' m T 339 #[iv x0, iv x1, iv x2, iv x3, iv x4, iv nv1, iv yF, iv yF_8, iv yF_13, iv yF_18, rv o6494, iv y6508, iv y6515, iv y6522, iv y6529, iv y6536, un, un, un, un, un] [.int y6543] by
   refine s_if_eq 310 306 C X at_303 (fun c303_6538 => ?_) (fun c303_6538 => ?_)
   ·have t_c303_6538 : (y6529).toInt = (0 : Int) := congrArg Int32.toInt c303_6538
    refine s_iload 312 C X at_310 rfl ?_
    refine s_if_eq 319 315 C X at_312 (fun c312_6539 => ?_) (fun c312_6539 => ?_)
    ·have t_c312_6539 : (y6522).toInt = (0 : Int) := congrArg Int32.toInt c312_6539
     refine s_iload 321 C X at_319 rfl ?_
     refine s_if_eq 328 324 C X at_321 (fun c321_6540 => ?_) (fun c321_6540 => ?_)
     ·have t_c321_6540 : (y6515).toInt = (0 : Int) := congrArg Int32.toInt c321_6540
      refine s_iload 330 C X at_328 rfl ?_
      refine s_if_eq 337 333 C X at_330 (fun c330_6541 => ?_) (fun c330_6541 => ?_)
      ·have t_c330_6541 : (y6508).toInt = (0 : Int) := congrArg Int32.toInt c330_6541
       refine s_iload 339 C X at_337 rfl ?_
       exact J6544 (nv1) ((Or.inl ⟨t_c303_6538, t_c312_6539, t_c321_6540, t_c330_6541, rfl⟩))
      have t_c330_6541 : ¬ ((y6508).toInt = (0 : Int)) := fun q => c330_6541 (Int32.toInt_inj.mp q)
      refine s_iconst 334 C X at_333 kc_iconst_1 ?_
      refine s_goto 339 C X at_334 ?_
      exact J6544 (i1) (Or.inr (Or.inl ⟨t_c303_6538, t_c312_6539, t_c321_6540, t_c330_6541, rfl⟩))
     have t_c321_6540 : ¬ ((y6515).toInt = (0 : Int)) := fun q => c321_6540 (Int32.toInt_inj.mp q)
     refine s_iconst 325 C X at_324 kc_iconst_2 ?_
     refine s_goto 339 C X at_325 ?_
     exact J6544 (i2) (Or.inr (Or.inr (Or.inl ⟨t_c303_6538, t_c312_6539, t_c321_6540, rfl⟩)))
    have t_c312_6539 : ¬ ((y6522).toInt = (0 : Int)) := fun q => c312_6539 (Int32.toInt_inj.mp q)
    refine s_iconst 316 C X at_315 kc_iconst_3 ?_
    refine s_goto 339 C X at_316 ?_
    exact J6544 (i3) (Or.inr (Or.inr (Or.inr (Or.inl ⟨t_c303_6538, t_c312_6539, rfl⟩))))
   have t_c303_6538 : ¬ ((y6529).toInt = (0 : Int)) := fun q => c303_6538 (Int32.toInt_inj.mp q)
   refine s_iconst 307 C X at_306 kc_iconst_4 ?_
   refine s_goto 339 C X at_307 ?_
   exact J6544 (i4) (Or.inr (Or.inr (Or.inr (Or.inr ⟨t_c303_6538, rfl⟩))))
  intro y6543 D6544
  refine s_istore 341 C X (l' := #[iv x0, iv x1, iv x2, iv x3, iv x4, iv nv1, iv yF, iv yF_8, iv yF_13, iv yF_18, rv o6494, iv y6508, iv y6515, iv y6522, iv y6529, iv y6536, iv y6543, un, un, un, un]) at_339 rfl ?_
  refine s_iload 343 C X at_341 rfl ?_
  refine s_iload 345 C X at_343 rfl ?_
  refine s_isub 346 C X at_345 ?_
  obtain ⟨mv6545, e_mv6545⟩ : ∃ zz_ : Int32, zz_ = (y6543 - y6536) := ⟨_, rfl⟩
  refine rc (st' := [.int mv6545]) (by subst e_mv6545; rfl) ?_
  refine s_istore 348 C X (l' := #[iv x0, iv x1, iv x2, iv x3, iv x4, iv nv1, iv yF, iv yF_8, iv yF_13, iv yF_18, rv o6494, iv y6508, iv y6515, iv y6522, iv y6529, iv y6536, iv y6543, iv mv6545, un, un, un]) at_346 rfl ?_
  refine s_aload 350 C X at_348 rfl rfl ?_
  refine s_hcallS 353 [.ref o6494] [] 0 C X hS Rc.2 (own_EL hw) Rc.1.1 at_350 (mW 30 rfl) (mW 31 rfl) (mW 32 rfl) (mW 33 rfl) (rm_a96 l Z a0 hw cs fm o6494 bF kF k_bF zF zsF xs _ n0 X.sz Od S_cs S_fm S_ad S_hi S_lo E_o6494 F_o6494_a F_o6494_k A_bF hv_cs hv_fm hvS hvL) (lenOf pd__Ljava_lang_String__Ljava_lang_String_ rfl) rfl rfl rfl so0 (fun T v hh vm k1 C X hS Nk Rn q => ?_)
  obtain ⟨bFq, eFt, kFq, k_bFq, lFq, rFq, sFt, zFq, zsFq, rfl, hvS, hvl, hvR, Kc, Od, E_rFq, F_rFq_k, F_rFq_a, A_bFq⟩ := q
  have Rc := Rc.call Rn Nk
  have Kp := Kp.trans Kc all0
  refine rc (st' := [.ref rFq]) rfl ?_
  have hM := own_main (xs := xs) (by rw [hvL, c35_20]; decide) (by rw [hvL]; decide) (by rw [e_xs]; exact own_h0 yF yF_8 yF_13 yF_18) D6509 D6516 D6523 D6530 D6537 D6544 hvS hvl e_mv6545
  exact J353 T _ _ _ (rv o6494) (iv y6508) (iv y6515) (iv y6522) (iv y6529) (iv y6543) _ _ _ _ _ _ _ _ _ hM hvR C (X.mono (by decide) (by decide)) hS Od Kp Rc E_rFq F_rFq_k F_rFq_a A_bFq
 intro T hh vm k1 qJ10 qJ11 qJ12 qJ13 qJ14 qJ16 sJ mJ rJ bJ k_bJ kJ zJ zsJ ysJ hvM hvY C X hS Od Kp Rc E_rJ F_rJ_k F_rJ_a A_bJ
 refine s_astore 355 C X (l' := #[iv x0, iv x1, iv x2, iv x3, iv x4, iv nv1, iv yF, iv yF_8, iv yF_13, iv yF_18, qJ10, qJ11, qJ12, qJ13, qJ14, iv sJ, qJ16, iv mJ, rv rJ, un, un]) at_353 rfl rfl ?_
 refine s_aload 357 C X at_355 rfl rfl ?_
 refine s_ifnullN 360 C X at_357 ?_
 refine s_aload 362 C X at_360 rfl rfl ?_
 refine s_callV 365 [] [] 0 C X at_362 (mW 59 rfl) (mW 35 rfl) (nF C (mW 37 rfl)) (mW 37 rfl) (mW 36 rfl) (mW 11 rfl) (mW 38 rfl) E_rJ (rm_a20 l Z a0 hw cs rJ bJ kJ k_bJ zJ zsJ ysJ _ n0 X.sz S_cs E_rJ F_rJ_a F_rJ_k Od A_bJ hv_cs hvY) (lenOf pd___I rfl) rfl rfl rfl (fun T v hh X q => ?_)
 obtain ⟨rfl, Kc, Od⟩ := q
 have Rc := Rc.keep Kc so0
 have Kp := Kp.trans Kc all0
 have E_rJ := E_rJ.keep Kc
 have F_rJ_k := F_rJ_k.keep Kc nin0
 have F_rJ_a := F_rJ_a.keep Kc nin0
 have A_bJ := A_bJ.keep Kc nin0
 refine rc (st' := [(.int (zJ >>> (kJ &&& 31)))]) rfl ?_
 refine rc (st' := [.int mJ]) (by rw [show (zJ >>> (kJ &&& 31)) = mJ from own_Ml hvM hvY]) ?_
 refine s_iload 367 C X at_365 rfl ?_
 refine s_icmp_eq 372 370 C X at_367 (fun _ => ?_) (fun c => absurd rfl c)
 refine s_iconst 373 C X at_372 kc_iconst_4 ?_
 refine s_newarray 375 4 C X at_373 (mW 5 rfl) (by decide) (by decide) (fun T hh o6769 k_o6769 hb_o6769 X E A_o6769 g_o6769 => ?_)
 have H_o6769 : Safe Z EL1 vm _ o6769 := Safe.ext E Rc.1.1 (Safe.new (Nat.le_of_eq hb_o6769))
 have Rc := Rc.ext E
 have sz_o6769 : h0.size ≤ o6769 := Nat.le_trans Kp.1 (Nat.le_of_eq hb_o6769)
 have ne_rJ_o6769 : rJ ≠ o6769 := Nat.ne_of_lt (Nat.lt_of_lt_of_le E_rJ.lt (Nat.le_of_eq hb_o6769))
 have ne_bJ_o6769 : bJ ≠ o6769 := Nat.ne_of_lt (Nat.lt_of_lt_of_le A_bJ.lt (Nat.le_of_eq hb_o6769))
 have Kp := Kp.ext E
 have E_rJ := E_rJ.ext E
 have F_rJ_k := F_rJ_k.ext E
 have F_rJ_a := F_rJ_a.ext E
 have A_bJ := A_bJ.ext E
 have Od := Od.ext E
 have A_o6769 : Arv Z _ o6769 k_o6769 .char i4 [.int i0, .int i0, .int i0, .int i0] (.int i0) := A_o6769.pad (pad_rep [] _ 4)
 refine s_dup 376 C X at_375 rfl ?_
 refine s_iconst 377 C X at_376 kc_iconst_0 ?_
 refine s_iload 379 C X at_377 rfl ?_
 have Sf : Safe Z EL1 vm _ o6769 := H_o6769
 refine s_castore 380 0 C X at_379 A_o6769 g_o6769 ⟨by decide, by decide⟩ rfl (Nat.le_of_ble_eq_true rfl) (fun T hh X W A_o6769 => ?_)
 have A_o6769 : Arv Z _ o6769 k_o6769 .char i4 [(.int (nar .char yF)), .int i0, .int i0, .int i0] (.int i0) := A_o6769
 have H_o6769 := Safe.wr W Sf Rc.1.1 H_o6769
 have Rc := Rc.wr W Sf
 have Kp := Kp.wr W (Or.inr sz_o6769)
 have E_rJ := E_rJ.wr W
 have F_rJ_k := F_rJ_k.other W (Or.inl ne_rJ_o6769)
 have F_rJ_a := F_rJ_a.other W (Or.inl ne_rJ_o6769)
 have A_bJ := A_bJ.other W ne_bJ_o6769
 have Od := Od.wr W g_o6769
 rw [own_nU hvU] at A_o6769
 refine s_dup 381 C X at_380 rfl ?_
 refine s_iconst 382 C X at_381 kc_iconst_1 ?_
 refine s_iload 384 C X at_382 rfl ?_
 have Sf : Safe Z EL1 vm _ o6769 := H_o6769
 refine s_castore 385 1 C X at_384 A_o6769 g_o6769 ⟨by decide, by decide⟩ rfl (Nat.le_of_ble_eq_true rfl) (fun T hh X W A_o6769 => ?_)
 have A_o6769 : Arv Z _ o6769 k_o6769 .char i4 [.int yF, (.int (nar .char yF_8)), .int i0, .int i0] (.int i0) := A_o6769
 have H_o6769 := Safe.wr W Sf Rc.1.1 H_o6769
 have Rc := Rc.wr W Sf
 have Kp := Kp.wr W (Or.inr sz_o6769)
 have E_rJ := E_rJ.wr W
 have F_rJ_k := F_rJ_k.other W (Or.inl ne_rJ_o6769)
 have F_rJ_a := F_rJ_a.other W (Or.inl ne_rJ_o6769)
 have A_bJ := A_bJ.other W ne_bJ_o6769
 have Od := Od.wr W g_o6769
 rw [own_nU hvU_9] at A_o6769
 refine s_dup 386 C X at_385 rfl ?_
 refine s_iconst 387 C X at_386 kc_iconst_2 ?_
 refine s_iload 389 C X at_387 rfl ?_
 have Sf : Safe Z EL1 vm _ o6769 := H_o6769
 refine s_castore 390 2 C X at_389 A_o6769 g_o6769 ⟨by decide, by decide⟩ rfl (Nat.le_of_ble_eq_true rfl) (fun T hh X W A_o6769 => ?_)
 have A_o6769 : Arv Z _ o6769 k_o6769 .char i4 [.int yF, .int yF_8, (.int (nar .char yF_13)), .int i0] (.int i0) := A_o6769
 have H_o6769 := Safe.wr W Sf Rc.1.1 H_o6769
 have Rc := Rc.wr W Sf
 have Kp := Kp.wr W (Or.inr sz_o6769)
 have E_rJ := E_rJ.wr W
 have F_rJ_k := F_rJ_k.other W (Or.inl ne_rJ_o6769)
 have F_rJ_a := F_rJ_a.other W (Or.inl ne_rJ_o6769)
 have A_bJ := A_bJ.other W ne_bJ_o6769
 have Od := Od.wr W g_o6769
 rw [own_nU hvU_14] at A_o6769
 refine s_dup 391 C X at_390 rfl ?_
 refine s_iconst 392 C X at_391 kc_iconst_3 ?_
 refine s_iload 394 C X at_392 rfl ?_
 have Sf : Safe Z EL1 vm _ o6769 := H_o6769
 refine s_castore 395 3 C X at_394 A_o6769 g_o6769 ⟨by decide, by decide⟩ rfl (Nat.le_of_ble_eq_true rfl) (fun T hh X W A_o6769 => ?_)
 have A_o6769 : Arv Z _ o6769 k_o6769 .char i4 [.int yF, .int yF_8, .int yF_13, (.int (nar .char yF_18))] (.int i0) := A_o6769
 have Rc := Rc.wr W Sf
 have Kp := Kp.wr W (Or.inr sz_o6769)
 have E_rJ := E_rJ.wr W
 have F_rJ_k := F_rJ_k.other W (Or.inl ne_rJ_o6769)
 have F_rJ_a := F_rJ_a.other W (Or.inl ne_rJ_o6769)
 have A_bJ := A_bJ.other W ne_bJ_o6769
 have Od := Od.wr W g_o6769
 rw [own_nU hvU_19] at A_o6769
 refine s_astore 397 C X (l' := #[iv x0, iv x1, iv x2, iv x3, iv x4, iv nv1, iv yF, iv yF_8, iv yF_13, iv yF_18, qJ10, qJ11, qJ12, qJ13, qJ14, iv sJ, qJ16, iv mJ, rv rJ, rv o6769, un]) at_395 rfl rfl ?_
 refine s_iconst 398 C X at_397 kc_iconst_1 ?_
 refine s_istore 400 C X (l' := #[iv x0, iv x1, iv x2, iv x3, iv x4, iv nv1, iv yF, iv yF_8, iv yF_13, iv yF_18, qJ10, qJ11, qJ12, qJ13, qJ14, iv sJ, qJ16, iv mJ, rv rJ, rv o6769, iv i1]) at_398 rfl ?_
 refine s_iload 402 C X at_400 rfl ?_
 refine s_if_le 431 405 C X at_402 (fun c402_6770 => ?_) (fun c402_6770 => ?_)
 ·have t_c402_6770 : ¬ ((0 : Int) < (mJ).toInt) := fun q => c402_6770 (Int32.lt_iff_toInt_lt.mpr q)
  refine s_iload 433 C X at_431 rfl ?_
  refine s_iconst 434 C X at_433 kc_iconst_1 ?_
  refine s_icmp_le 465 437 C X at_434 (fun c434_6771 => ?_) (fun c => absurd c (own_mle c402_6770 (by decide)))
  refine s_iload 467 C X at_465 rfl ?_
  refine s_iconst 468 C X at_467 kc_iconst_2 ?_
  refine s_icmp_le 499 471 C X at_468 (fun c468_6772 => ?_) (fun c => absurd c (own_mle c402_6770 (by decide)))
  refine s_iload 501 C X at_499 rfl ?_
  refine s_iconst 502 C X at_501 kc_iconst_3 ?_
  refine s_icmp_le 533 505 C X at_502 (fun c502_6773 => ?_) (fun c => absurd c (own_mle c402_6770 (by decide)))
  refine s_iload 535 C X at_533 rfl ?_
  refine s_nreturn C X at_535 rfl (by simp) rfl ?_ (FGH hG hS Rc C (own_EL hw))
  exact hQ _ _ rfl
 refine s_iload 407 C X at_405 rfl ?_
 refine s_if_eq 428 410 C X at_407 (fun c => absurd c (by decide)) (fun _ => ?_)
 refine s_aload 412 C X at_410 rfl rfl ?_
 refine s_iconst 413 C X at_412 kc_iconst_0 ?_
 obtain ⟨ix6775, e_ix6775⟩ : ∃ zz_ : Int32, zz_ = i0 := ⟨_, rfl⟩
 refine rc (st' := [.int ix6775, .ref rJ]) (by subst e_ix6775; rfl) ?_
 have hvx_ix6775 : own_ix ysJ ix6775 := own_Mx hvM c402_6770 (by decide) e_ix6775
 refine s_callV 416 [.int ix6775] [] 0 C X at_413 (mW 121 rfl) (mW 74 rfl) (nF C (mW 76 rfl)) (mW 76 rfl) (mW 75 rfl) (mW 11 rfl) (mW 77 rfl) E_rJ (rm_a31 l Z a0 hw cs fm rJ bJ kJ k_bJ zJ zsJ ysJ ix6775 _ n0 X.sz S_cs S_fm S_ad S_hi S_lo E_rJ F_rJ_a F_rJ_k A_bJ Od hv_cs hv_fm hvY hvx_ix6775) (lenOf pd__I_C rfl) rfl rfl rfl (fun T v hh X q => ?_)
 obtain ⟨rfl, Kc, Od⟩ := q
 have Rc := Rc.keep Kc so0
 have Kp := Kp.trans Kc all0
 have E_rJ := E_rJ.keep Kc
 have F_rJ_k := F_rJ_k.keep Kc nin0
 have F_rJ_a := F_rJ_a.keep Kc nin0
 have A_bJ := A_bJ.keep Kc nin0
 have A_o6769 := A_o6769.keep Kc nin0
 refine rc (st' := [(.int (ysJ.getD (ix6775).toNatClampNeg 0))]) rfl ?_
 refine s_aload 418 C X at_416 rfl rfl ?_
 refine s_iload 420 C X at_418 rfl ?_
 refine s_caload 421 C X at_420 A_o6769 (own_Mj hvM hvx_ix6775 (j := sJ) (by rw [e_ix6775]; exact (Int32.add_zero _).symm)).1 (v := (.int (ysJ.getD (ix6775).toNatClampNeg 0))) (own_Mj hvM hvx_ix6775 (j := sJ) (by rw [e_ix6775]; exact (Int32.add_zero _).symm)).2 ?_
 refine s_icmp_ne 428 424 C X at_421 (fun c => absurd rfl c) (fun _ => ?_)
 refine s_iconst 425 C X at_424 kc_iconst_1 ?_
 refine s_goto 429 C X at_425 ?_
 refine s_istore 431 C X (l' := #[iv x0, iv x1, iv x2, iv x3, iv x4, iv nv1, iv yF, iv yF_8, iv yF_13, iv yF_18, qJ10, qJ11, qJ12, qJ13, qJ14, iv sJ, qJ16, iv mJ, rv rJ, rv o6769, iv i1]) at_429 rfl ?_
 refine s_iload 433 C X at_431 rfl ?_
 refine s_iconst 434 C X at_433 kc_iconst_1 ?_
 refine s_icmp_le 465 437 C X at_434 (fun c434_6802 => ?_) (fun c434_6802 => ?_)
 ·have t_c434_6802 : ¬ ((1 : Int) < (mJ).toInt) := fun q => c434_6802 (Int32.lt_iff_toInt_lt.mpr q)
  refine s_iload 467 C X at_465 rfl ?_
  refine s_iconst 468 C X at_467 kc_iconst_2 ?_
  refine s_icmp_le 499 471 C X at_468 (fun c468_6803 => ?_) (fun c => absurd c (own_mle c434_6802 (by decide)))
  refine s_iload 501 C X at_499 rfl ?_
  refine s_iconst 502 C X at_501 kc_iconst_3 ?_
  refine s_icmp_le 533 505 C X at_502 (fun c502_6804 => ?_) (fun c => absurd c (own_mle c434_6802 (by decide)))
  refine s_iload 535 C X at_533 rfl ?_
  refine s_nreturn C X at_535 rfl (by simp) rfl ?_ (FGH hG hS Rc C (own_EL hw))
  exact hQ _ _ rfl
 refine s_iload 439 C X at_437 rfl ?_
 refine s_if_eq 462 442 C X at_439 (fun c => absurd c (by decide)) (fun _ => ?_)
 refine s_aload 444 C X at_442 rfl rfl ?_
 refine s_iconst 445 C X at_444 kc_iconst_1 ?_
 obtain ⟨ix6806, e_ix6806⟩ : ∃ zz_ : Int32, zz_ = i1 := ⟨_, rfl⟩
 refine rc (st' := [.int ix6806, .ref rJ]) (by subst e_ix6806; rfl) ?_
 have hvx_ix6806 : own_ix ysJ ix6806 := own_Mx hvM c434_6802 (by decide) e_ix6806
 refine s_callV 448 [.int ix6806] [] 0 C X at_445 (mW 121 rfl) (mW 74 rfl) (nF C (mW 76 rfl)) (mW 76 rfl) (mW 75 rfl) (mW 11 rfl) (mW 77 rfl) E_rJ (rm_a31 l Z a0 hw cs fm rJ bJ kJ k_bJ zJ zsJ ysJ ix6806 _ n0 X.sz S_cs S_fm S_ad S_hi S_lo E_rJ F_rJ_a F_rJ_k A_bJ Od hv_cs hv_fm hvY hvx_ix6806) (lenOf pd__I_C rfl) rfl rfl rfl (fun T v hh X q => ?_)
 obtain ⟨rfl, Kc, Od⟩ := q
 have Rc := Rc.keep Kc so0
 have Kp := Kp.trans Kc all0
 have E_rJ := E_rJ.keep Kc
 have F_rJ_k := F_rJ_k.keep Kc nin0
 have F_rJ_a := F_rJ_a.keep Kc nin0
 have A_bJ := A_bJ.keep Kc nin0
 have A_o6769 := A_o6769.keep Kc nin0
 refine rc (st' := [(.int (ysJ.getD (ix6806).toNatClampNeg 0))]) rfl ?_
 refine s_aload 450 C X at_448 rfl rfl ?_
 refine s_iload 452 C X at_450 rfl ?_
 refine s_iconst 453 C X at_452 kc_iconst_1 ?_
 refine s_iadd 454 C X at_453 ?_
 refine s_caload 455 C X at_454 A_o6769 (own_Mj hvM hvx_ix6806 (j := (sJ + i1)) (by rw [e_ix6806])).1 (v := (.int (ysJ.getD (ix6806).toNatClampNeg 0))) (own_Mj hvM hvx_ix6806 (j := (sJ + i1)) (by rw [e_ix6806])).2 ?_
 refine s_icmp_ne 462 458 C X at_455 (fun c => absurd rfl c) (fun _ => ?_)
 refine s_iconst 459 C X at_458 kc_iconst_1 ?_
 refine s_goto 463 C X at_459 ?_
 refine s_istore 465 C X (l' := #[iv x0, iv x1, iv x2, iv x3, iv x4, iv nv1, iv yF, iv yF_8, iv yF_13, iv yF_18, qJ10, qJ11, qJ12, qJ13, qJ14, iv sJ, qJ16, iv mJ, rv rJ, rv o6769, iv i1]) at_463 rfl ?_
 refine s_iload 467 C X at_465 rfl ?_
 refine s_iconst 468 C X at_467 kc_iconst_2 ?_
 refine s_icmp_le 499 471 C X at_468 (fun c468_6833 => ?_) (fun c468_6833 => ?_)
 ·have t_c468_6833 : ¬ ((2 : Int) < (mJ).toInt) := fun q => c468_6833 (Int32.lt_iff_toInt_lt.mpr q)
  refine s_iload 501 C X at_499 rfl ?_
  refine s_iconst 502 C X at_501 kc_iconst_3 ?_
  refine s_icmp_le 533 505 C X at_502 (fun c502_6834 => ?_) (fun c => absurd c (own_mle c468_6833 (by decide)))
  refine s_iload 535 C X at_533 rfl ?_
  refine s_nreturn C X at_535 rfl (by simp) rfl ?_ (FGH hG hS Rc C (own_EL hw))
  exact hQ _ _ rfl
 refine s_iload 473 C X at_471 rfl ?_
 refine s_if_eq 496 476 C X at_473 (fun c => absurd c (by decide)) (fun _ => ?_)
 refine s_aload 478 C X at_476 rfl rfl ?_
 refine s_iconst 479 C X at_478 kc_iconst_2 ?_
 obtain ⟨ix6836, e_ix6836⟩ : ∃ zz_ : Int32, zz_ = i2 := ⟨_, rfl⟩
 refine rc (st' := [.int ix6836, .ref rJ]) (by subst e_ix6836; rfl) ?_
 have hvx_ix6836 : own_ix ysJ ix6836 := own_Mx hvM c468_6833 (by decide) e_ix6836
 refine s_callV 482 [.int ix6836] [] 0 C X at_479 (mW 121 rfl) (mW 74 rfl) (nF C (mW 76 rfl)) (mW 76 rfl) (mW 75 rfl) (mW 11 rfl) (mW 77 rfl) E_rJ (rm_a31 l Z a0 hw cs fm rJ bJ kJ k_bJ zJ zsJ ysJ ix6836 _ n0 X.sz S_cs S_fm S_ad S_hi S_lo E_rJ F_rJ_a F_rJ_k A_bJ Od hv_cs hv_fm hvY hvx_ix6836) (lenOf pd__I_C rfl) rfl rfl rfl (fun T v hh X q => ?_)
 obtain ⟨rfl, Kc, Od⟩ := q
 have Rc := Rc.keep Kc so0
 have Kp := Kp.trans Kc all0
 have E_rJ := E_rJ.keep Kc
 have F_rJ_k := F_rJ_k.keep Kc nin0
 have F_rJ_a := F_rJ_a.keep Kc nin0
 have A_bJ := A_bJ.keep Kc nin0
 have A_o6769 := A_o6769.keep Kc nin0
 refine rc (st' := [(.int (ysJ.getD (ix6836).toNatClampNeg 0))]) rfl ?_
 refine s_aload 484 C X at_482 rfl rfl ?_
 refine s_iload 486 C X at_484 rfl ?_
 refine s_iconst 487 C X at_486 kc_iconst_2 ?_
 refine s_iadd 488 C X at_487 ?_
 refine s_caload 489 C X at_488 A_o6769 (own_Mj hvM hvx_ix6836 (j := (sJ + i2)) (by rw [e_ix6836])).1 (v := (.int (ysJ.getD (ix6836).toNatClampNeg 0))) (own_Mj hvM hvx_ix6836 (j := (sJ + i2)) (by rw [e_ix6836])).2 ?_
 refine s_icmp_ne 496 492 C X at_489 (fun c => absurd rfl c) (fun _ => ?_)
 refine s_iconst 493 C X at_492 kc_iconst_1 ?_
 refine s_goto 497 C X at_493 ?_
 refine s_istore 499 C X (l' := #[iv x0, iv x1, iv x2, iv x3, iv x4, iv nv1, iv yF, iv yF_8, iv yF_13, iv yF_18, qJ10, qJ11, qJ12, qJ13, qJ14, iv sJ, qJ16, iv mJ, rv rJ, rv o6769, iv i1]) at_497 rfl ?_
 refine s_iload 501 C X at_499 rfl ?_
 refine s_iconst 502 C X at_501 kc_iconst_3 ?_
 refine s_icmp_le 533 505 C X at_502 (fun c502_6863 => ?_) (fun c502_6863 => ?_)
 ·have t_c502_6863 : ¬ ((3 : Int) < (mJ).toInt) := fun q => c502_6863 (Int32.lt_iff_toInt_lt.mpr q)
  refine s_iload 535 C X at_533 rfl ?_
  refine s_nreturn C X at_535 rfl (by simp) rfl ?_ (FGH hG hS Rc C (own_EL hw))
  exact hQ _ _ rfl
 refine s_iload 507 C X at_505 rfl ?_
 refine s_if_eq 530 510 C X at_507 (fun c => absurd c (by decide)) (fun _ => ?_)
 refine s_aload 512 C X at_510 rfl rfl ?_
 refine s_iconst 513 C X at_512 kc_iconst_3 ?_
 obtain ⟨ix6865, e_ix6865⟩ : ∃ zz_ : Int32, zz_ = i3 := ⟨_, rfl⟩
 refine rc (st' := [.int ix6865, .ref rJ]) (by subst e_ix6865; rfl) ?_
 have hvx_ix6865 : own_ix ysJ ix6865 := own_Mx hvM c502_6863 (by decide) e_ix6865
 refine s_callV 516 [.int ix6865] [] 0 C X at_513 (mW 121 rfl) (mW 74 rfl) (nF C (mW 76 rfl)) (mW 76 rfl) (mW 75 rfl) (mW 11 rfl) (mW 77 rfl) E_rJ (rm_a31 l Z a0 hw cs fm rJ bJ kJ k_bJ zJ zsJ ysJ ix6865 _ n0 X.sz S_cs S_fm S_ad S_hi S_lo E_rJ F_rJ_a F_rJ_k A_bJ Od hv_cs hv_fm hvY hvx_ix6865) (lenOf pd__I_C rfl) rfl rfl rfl (fun T v hh X q => ?_)
 obtain ⟨rfl, Kc, Od⟩ := q
 have Rc := Rc.keep Kc so0
 have Kp := Kp.trans Kc all0
 have A_o6769 := A_o6769.keep Kc nin0
 refine rc (st' := [(.int (ysJ.getD (ix6865).toNatClampNeg 0))]) rfl ?_
 refine s_aload 518 C X at_516 rfl rfl ?_
 refine s_iload 520 C X at_518 rfl ?_
 refine s_iconst 521 C X at_520 kc_iconst_3 ?_
 refine s_iadd 522 C X at_521 ?_
 refine s_caload 523 C X at_522 A_o6769 (own_Mj hvM hvx_ix6865 (j := (sJ + i3)) (by rw [e_ix6865])).1 (v := (.int (ysJ.getD (ix6865).toNatClampNeg 0))) (own_Mj hvM hvx_ix6865 (j := (sJ + i3)) (by rw [e_ix6865])).2 ?_
 refine s_icmp_ne 530 526 C X at_523 (fun c => absurd rfl c) (fun _ => ?_)
 refine s_iconst 527 C X at_526 kc_iconst_1 ?_
 refine s_goto 531 C X at_527 ?_
 refine s_istore 533 C X (l' := #[iv x0, iv x1, iv x2, iv x3, iv x4, iv nv1, iv yF, iv yF_8, iv yF_13, iv yF_18, qJ10, qJ11, qJ12, qJ13, qJ14, iv sJ, qJ16, iv mJ, rv rJ, rv o6769, iv i1]) at_531 rfl ?_
 refine s_iload 535 C X at_533 rfl ?_
 refine s_nreturn C X at_535 rfl (by simp) rfl ?_ (FGH hG hS Rc C (own_EL hw))
 exact hQ _ _ rfl
theorem comes_1 {Post : Tables → Env → Array Value → State → Outcome → State → Prop} (hpost : ∀ tb e args s v u, (limb_1_1.after args s (.returned v) u = true ∧ limb_1_2.after args s (.returned v) u = true ∧ True) → ReturnedEndW s (.returned v) u (Jvm.fieldLocs frame_1_writes args s ++ Jvm.arrayLocs frame_1_arrays args s ++ Jvm.staticLocs frame_1_statics s) 40 3648 → Post tb e args s (.returned v) u) :
    ArmFor flags0 classFile x code maxLocals ret World_1 tables_1 room_1 Calls_1 rest_1 Pre_1 Post := by
  intro l hfl _ _ p e ha hc hk s m args below hf hA hF happ hP
  obtain ⟨hcalls, hrest, hpre⟩ := hP
  obtain ⟨-, -, -, hnamed, -, -, -, hat⟩ := (Spec.applies_iff hf).mp happ
  obtain ⟨hg, hn⟩ := and_e (Cond.before_iff.mp (show (Jvm.Cond.and given_1 narrow_1).before args s = true from hpre))
  obtain ⟨g0, g1⟩ := and_e hg
  obtain ⟨ga0, gr0⟩ := and_e g1
  obtain ⟨ga1, gr1⟩ := and_e gr0
  obtain ⟨ga2, gr2⟩ := and_e gr1
  obtain ⟨ga3, gr3⟩ := and_e gr2
  obtain ⟨w0, w1, w2, w3, w4, rfl⟩ : ∃ w0 w1 w2 w3 w4 : Value, args = #[w0, w1, w2, w3, w4] := by
    have hs : args.size = 5 := by simpa [Cond.value, given_1] using g0
    obtain ⟨L⟩ := args
    match L, hs with
    | [w0, w1, w2, w3, w4], _ => exact ⟨w0, w1, w2, w3, w4, rfl⟩
  have hw := fun d (hd : d ∈ tables_1) => atoms_spec (ws := Jvm.Cond.code x code maxLocals ret :: tables_1) hat d (List.mem_cons_of_mem _ hd)
  have hfit : Fit s := fun {y c} hc i hi => by
    obtain ⟨ha, rfl⟩ := Array.getElem?_eq_some_iff.mp hc
    have q := List.all_eq_true.mp ((Array.all_eq_true_iff_forall_mem.mp hF) _ (Array.getElem_mem ha)) i (List.mem_range.mpr hi)
    simpa [Array.getElem?_eq_getElem hi] using q
  obtain ⟨i0, e0⟩ := is_v ga0
  obtain rfl : w0 = (.int i0) := Option.some.inj e0
  obtain ⟨i1, e1⟩ := is_v ga1
  obtain rfl : w1 = (.int i1) := Option.some.inj e1
  obtain ⟨i2, e2⟩ := is_v ga2
  obtain rfl : w2 = (.int i2) := Option.some.inj e2
  obtain ⟨i3, e3⟩ := is_v ga3
  obtain rfl : w3 = (.int i3) := Option.some.inj e3
  obtain ⟨i4, e4⟩ := is_v gr3
  obtain rfl : w4 = (.int i4) := Option.some.inj e4
  obtain ⟨hsets, -⟩ := atoms_of jdkStatics_1 (show (jdkStatics_1.foldr Jvm.Cond.and restOwn_1).before _ s = true from hrest)
  have sc0 := hsets _ (mW 0 rfl)
  have sc1 := Cond.before_iff.mp (hsets _ (mW 1 rfl))
  have sc2 := hsets _ (mW 2 rfl)
  obtain ⟨cs, ecs⟩ := is_v sc1
  have SC := Sta.start ecs (Or.inl sc0)
  have hcs : ¬ cs = (0:Int32) := fun q => by
    subst q
    have := Cond.before_iff.mp sc2
    simp [Cond.value, ecs, Term.int_eval] at this
  obtain ⟨fm, efm, hfm⟩ := own_isref (hsets _ (mW 8 rfl))
  have SF := Sta.start efm (Or.inl (hsets _ (mW 7 rfl)))
  have SA := Sta.start (own_eqI (Cond.before_iff.mp (hsets _ (mW 12 rfl)))) (Or.inl (hsets _ (mW 11 rfl)))
  have SH := Sta.start (own_eqI (Cond.before_iff.mp (hsets _ (mW 15 rfl)))) (Or.inl (hsets _ (mW 14 rfl)))
  have SO := Sta.start (own_eqI (Cond.before_iff.mp (hsets _ (mW 18 rfl)))) (Or.inl (hsets _ (mW 17 rfl)))
  have hheld : ∀ p ∈ EL1, Jvm.Lit.constHeld s p.1 p.2 := fun p hp => hcalls.1 p hp

  obtain ⟨n, o, h1, h2, h3, _, L, rfl, ⟨rfl, N⟩, -, hq⟩ := rm0 l s _ hw i0 i1 i2 i3 i4 cs fm s.heap s.heap.size (Nat.le_refl _) (Old.start s) SC SF SA SH SO hcs hfm p e ha hc hk s m _ below hf ((Spec.applies_iff_loose hf).mp happ).1 ⟨rfl, State.Warmed39.refl s, rfl, CHv.start (own_EL hw) hheld (a0 := _) sc2 (hw _ (mW 23 rfl)) (hw _ (mW 10 rfl)), so0⟩ trivial
  exact ⟨n, _, h1, h2, h3, hpost _ _ _ _ _ _ ⟨Cond.after_iff.mpr rfl, Cond.after_iff.mpr (eq_i res_at (Term.int_eval (1)) rfl), trivial⟩ ⟨hq.1, hq.2.1, hq.2.2.1, (hq.2.2.2.sift fun y hy => Or.inr (N y hy)).mono (by decide) (by decide)⟩⟩
theorem main_1_1 : Claimed_1_1 := comes_1 fun _ _ _ _ _ _ h hF => ⟨h.1, hF⟩
theorem main_1_2 : Claimed_1_2 := comes_1 fun _ _ _ _ _ _ h hF => ⟨h.2.1, hF⟩
end Jvm.Pilot.@@N@@
namespace Jvm.Pilot.@@N@@
open Jvm Jvm.ClassFile Sem Op Lib Jvm.Free Jvm.Stand Jvm.Pilot.@@N@@.Jvm.D
/-! MADE BY PROGRAM (witnessworld.py) out of the Statement's table words and the real class files: 21 classes; the members and pool entries that the words name. The judged class is class 1, her method 3. -/
namespace start1
open Jvm.ClassFile
def u (s : String) : CpInfo := .utf8 (stringToUtf16 s)
/-- a pool by its gaps: so many unusable entries, then the entry; so many at the end -/
def gap : Nat → List CpInfo → List CpInfo
  | 0, r => r
  | n + 1, r => .unusable :: gap n r
def poolList (es : List (Nat × CpInfo)) (last : Nat) : List CpInfo := es.foldr (fun e r => gap e.1 (e.2 :: r)) (gap last [])
def pool (es : List (Nat × CpInfo)) (last : Nat) : Array CpInfo := ⟨poolList es last⟩
def fileOf (pool : Array CpInfo) (this : Nat) (attrs : Array Attribute := #[]) (ms : Array MethodInfo := #[]) (fl : Nat := 33) (sup : Nat := 0) (ifs : Array Nat := #[]) (fds : Array FieldInfo := #[]) : ClassFile where
  minorVersion := 0
  majorVersion := 65
  constantPool := pool
  accessFlags := fl
  thisClass := this
  superClass := sup
  interfaces := ifs
  fields := fds
  methods := ms
  attributes := attrs
def plain (name : String) (sup : Option ClassId) : Class where
  name := name
  kind := .ordinary
  loader := none
  accessFlags := 33
  super := sup
  interfaces := #[]
  cf := none
  fields := #[]
  methods := #[]
  instanceTypes := #[]
  staticTypes := #[]
  resolved := #[]
  callSites := []
  init := .initialized
  statics := none
  mirror := none

def pool0 : Array CpInfo := pool [(5, u "<init>"), (0, u "()V"), (1, .class_ 10), (1, u "java/lang/Object")] 113

def k0c0 : Code := { maxStack := 0, maxLocals := 1, code := object_method_1_code, exceptionTable := #[], attributes := #[] }
def k0m0 : Method := { name := "<init>", desc := "()V", sig := { parameters := [], returnType := none }, accessFlags := 1, code := some k0c0 }
/-- java/lang/Object -/
def k0 : Class := { plain "java/lang/Object" none with
  accessFlags := 33
  interfaces := #[]
  cf := some (fileOf pool0 8 #[] #[{ accessFlags := 1, nameIndex := 5, descriptorIndex := 6, attributes := #[] }] 33 0 #[] #[])
  fields := #[]
  methods := #[k0m0]
  instanceTypes := #[]
  staticTypes := #[]
  resolved := Array.replicate 124 none
  statics := none }

def pool1 : Array CpInfo := pool [(2, .class_ 4), (1, u "java/lang/Object"), (0, u "<init>"), (0, u "()V"), (0, .integer 65279), (0, .integer 65278), (0, .integer 65280), (0, .integer 2147483647), (0, .methodref 12 13), (0, .class_ 14), (0, .nameAndType 15 16), (0, u "com/example/tinsel_tally/tinseltally/BlanksStripPinLaw"), (0, u "draw"), (0, u "(I)C"), (0, .class_ 18), (0, u "java/lang/String"), (0, .methodref 17 20), (0, .nameAndType 5 21), (0, u "([C)V"), (0, .methodref 12 23), (0, .nameAndType 24 25), (0, u "blank"), (0, u "(C)Z"), (0, .methodref 27 28), (0, .class_ 29), (0, .nameAndType 30 31), (0, u "com/example/tinsel_tally/tinseltally/Blanks"), (0, u "strip"), (0, u "(Ljava/lang/String;)Ljava/lang/String;"), (0, .methodref 17 33), (0, .nameAndType 34 35), (0, u "length"), (0, u "()I"), (0, .methodref 17 37), (0, .nameAndType 38 16), (0, u "charAt"), (3, u "law"), (0, u "(IIIII)Z")] 4

def k1m0 : Method := { name := "<init>", desc := "()V", sig := { parameters := [], returnType := none }, accessFlags := 2, code := none }
def k1c1 : Code := { maxStack := 4, maxLocals := 3, code := method_2_code, exceptionTable := #[], attributes := #[] }
def k1m1 : Method := { name := "draw", desc := "(I)C", sig := { parameters := [.int], returnType := some .char }, accessFlags := 10, code := some k1c1 }
def k1c2 : Code := { maxStack := 2, maxLocals := 1, code := method_3_code, exceptionTable := #[], attributes := #[] }
def k1m2 : Method := { name := "blank", desc := "(C)Z", sig := { parameters := [.char], returnType := some .boolean }, accessFlags := 10, code := some k1c2 }
def k1c3 : Code := { maxStack := 6, maxLocals := 21, code := code, exceptionTable := #[], attributes := #[] }
def k1m3 : Method := { name := "law", desc := "(IIIII)Z", sig := { parameters := [.int, .int, .int, .int, .int], returnType := some .boolean }, accessFlags := 9, code := some k1c3 }
/-- com/example/tinsel_tally/tinseltally/BlanksStripPinLaw -/
def k1 : Class := { plain "com/example/tinsel_tally/tinseltally/BlanksStripPinLaw" (some 0) with
  accessFlags := 49
  interfaces := #[]
  cf := some (fileOf pool1 12 #[] #[{ accessFlags := 2, nameIndex := 5, descriptorIndex := 6, attributes := #[] }, { accessFlags := 10, nameIndex := 15, descriptorIndex := 16, attributes := #[] }, { accessFlags := 10, nameIndex := 24, descriptorIndex := 25, attributes := #[] }, { accessFlags := 9, nameIndex := 42, descriptorIndex := 43, attributes := #[] }] 49 2 #[] #[])
  fields := #[]
  methods := #[k1m0, k1m1, k1m2, k1m3]
  instanceTypes := #[]
  staticTypes := #[]
  resolved := Array.replicate 48 none
  statics := none }

def pool2 : Array CpInfo := pool [(1, .class_ 2), (0, u "java/io/Serializable"), (0, .class_ 4), (0, u "java/lang/Object")] 2

/-- java/io/Serializable -/
def k2 : Class := { plain "java/io/Serializable" (some 0) with
  accessFlags := 1537
  interfaces := #[]
  cf := some (fileOf pool2 1 #[] #[] 1537 3 #[] #[])
  fields := #[]
  methods := #[]
  instanceTypes := #[]
  staticTypes := #[]
  resolved := Array.replicate 7 none
  statics := none }

def pool3 : Array CpInfo := pool [(1, .class_ 2), (0, u "java/lang/Comparable"), (0, .class_ 4), (0, u "java/lang/Object")] 7

/-- java/lang/Comparable -/
def k3 : Class := { plain "java/lang/Comparable" (some 0) with
  accessFlags := 1537
  interfaces := #[]
  cf := some (fileOf pool3 1 #[] #[] 1537 3 #[] #[])
  fields := #[]
  methods := #[]
  instanceTypes := #[]
  staticTypes := #[]
  resolved := Array.replicate 12 none
  statics := none }

def pool4 : Array CpInfo := pool [(2, .class_ 4), (1, u "java/lang/CharSequence"), (42, .class_ 48), (0, u "java/lang/CharSequence$1CodePointIterator"), (10, .class_ 60), (0, u "java/lang/CharSequence$1CharIterator"), (5, .class_ 67), (0, u "java/lang/Object")] 63

/-- java/lang/CharSequence -/
def k4 : Class := { plain "java/lang/CharSequence" (some 0) with
  accessFlags := 1537
  interfaces := #[]
  cf := some (fileOf pool4 2 #[.nestMembers #[47, 59]] #[] 1537 66 #[] #[])
  fields := #[]
  methods := #[]
  instanceTypes := #[]
  staticTypes := #[]
  resolved := Array.replicate 131 none
  statics := none }

def pool5 : Array CpInfo := pool [(1, .class_ 2), (0, u "java/lang/constant/Constable"), (0, .class_ 4), (0, u "java/lang/Object")] 6

/-- java/lang/constant/Constable -/
def k5 : Class := { plain "java/lang/constant/Constable" (some 0) with
  accessFlags := 1537
  interfaces := #[]
  cf := some (fileOf pool5 1 #[] #[] 1537 3 #[] #[])
  fields := #[]
  methods := #[]
  instanceTypes := #[]
  staticTypes := #[]
  resolved := Array.replicate 11 none
  statics := none }

def pool6 : Array CpInfo := pool [(1, .class_ 2), (0, u "java/lang/constant/ConstantDesc"), (0, .class_ 4), (0, u "java/lang/Object")] 32

/-- java/lang/constant/ConstantDesc -/
def k6 : Class := { plain "java/lang/constant/ConstantDesc" (some 0) with
  accessFlags := 1537
  interfaces := #[]
  cf := some (fileOf pool6 1 #[] #[] 1537 3 #[] #[])
  fields := #[]
  methods := #[]
  instanceTypes := #[]
  staticTypes := #[]
  resolved := Array.replicate 37 none
  statics := none }

def pool7 : Array CpInfo := pool [(1, .methodref 2 3), (0, .class_ 4), (0, .nameAndType 5 6), (0, u "java/lang/Object"), (0, u "<init>"), (0, u "()V"), (0, .string 8), (0, u ""), (0, .fieldref 10 11), (0, .class_ 12), (0, .nameAndType 13 14), (0, u "java/lang/String"), (0, u "value"), (0, u "[B"), (0, .fieldref 10 16), (0, .nameAndType 17 18), (0, u "coder"), (0, u "B"), (2, u "hash"), (0, u "I"), (2, u "hashIsZero"), (0, u "Z"), (0, .methodref 10 28), (0, .nameAndType 5 29), (0, u "([CIILjava/lang/Void;)V"), (6, u "checkBoundsOffCount"), (0, u "(III)I"), (0, .fieldref 10 39), (0, .nameAndType 40 26), (0, u "COMPACT_STRINGS"), (1, .class_ 44), (1, u "java/lang/StringUTF16"), (0, u "compress"), (1, .methodref 42 48), (0, .nameAndType 49 50), (0, u "coderFromArrayLen"), (0, u "([BI)B"), (56, .class_ 109), (1, u "java/lang/StringLatin1"), (32, u "()Z"), (34, .methodref 42 178), (0, .nameAndType 45 179), (0, u "([CII)[B"), (31, u "([BB)V"), (122, u "()I"), (0, .methodref 10 336), (0, .nameAndType 17 337), (0, u "()B"), (25, u "([BI)C"), (27, u "(II)V"), (35, u "(I)C"), (64, .methodref 10 493), (0, .nameAndType 494 142), (0, u "isLatin1"), (0, .methodref 107 496), (0, .nameAndType 497 363), (0, u "charAt"), (0, .methodref 42 496), (2, u "checkIndex"), (3, .methodref 10 506), (0, .nameAndType 507 334), (0, u "length"), (5, u "checkFromToIndex"), (7, .methodref 10 522), (0, .nameAndType 523 524), (0, u "checkBoundsBeginEnd"), (0, u "(III)V"), (50, .class_ 576), (0, u "java/lang/CharSequence"), (22, u "CASE_INSENSITIVE_ORDER"), (0, u "Ljava/util/Comparator;"), (82, u "substring"), (0, u "(II)Ljava/lang/String;"), (0, .methodref 107 686), (0, .nameAndType 687 688), (0, u "newString"), (0, u "([BII)Ljava/lang/String;"), (0, .methodref 42 686), (320, u "([C)V"), (42, .fieldref 1054 1055), (0, .class_ 1056), (0, .nameAndType 1057 1058), (0, u "jdk/internal/util/Preconditions"), (0, u "SIOOBE_FORMATTER"), (0, u "Ljava/util/function/BiFunction;"), (0, .methodref 1054 1060), (0, .nameAndType 501 1061), (0, u "(IILjava/util/function/BiFunction;)I"), (0, .methodref 1054 1063), (0, .nameAndType 513 1064), (0, u "(IIILjava/util/function/BiFunction;)I"), (0, .methodref 1054 1066), (0, .nameAndType 1067 1064), (0, u "checkFromIndexSize"), (33, u "serialPersistentFields"), (0, u "[Ljava/io/ObjectStreamField;"), (0, .class_ 1104), (0, u "java/lang/String$CaseInsensitiveComparator"), (1, .class_ 1107), (0, u "java/io/Serializable"), (0, .class_ 1109), (0, u "java/lang/Comparable"), (0, .class_ 1111), (0, u "java/lang/constant/Constable"), (0, .class_ 1113), (0, u "java/lang/constant/ConstantDesc"), (2, u "serialVersionUID"), (0, u "J"), (3, u "REPL"), (0, u "C"), (2, u "LATIN1"), (1, u "UTF16")] 323

def k7m0 : Method := { name := "<init>", desc := "()V", sig := { parameters := [], returnType := none }, accessFlags := 1, code := none }
def k7c1 : Code := { maxStack := 5, maxLocals := 2, code := jdk_42_method_3_code, exceptionTable := #[], attributes := #[] }
def k7m1 : Method := { name := "<init>", desc := "([C)V", sig := { parameters := [(.array .char)], returnType := none }, accessFlags := 1, code := some k7c1 }
def k7c2 : Code := { maxStack := 2, maxLocals := 1, code := jdk_42_method_54_code, exceptionTable := #[], attributes := #[] }
def k7m2 : Method := { name := "length", desc := "()I", sig := { parameters := [], returnType := some .int }, accessFlags := 1, code := some k7c2 }
def k7c3 : Code := { maxStack := 2, maxLocals := 2, code := jdk_42_method_56_code, exceptionTable := #[], attributes := #[] }
def k7m3 : Method := { name := "charAt", desc := "(I)C", sig := { parameters := [.int], returnType := some .char }, accessFlags := 1, code := some k7c3 }
def k7c4 : Code := { maxStack := 3, maxLocals := 5, code := jdk_42_method_92_code, exceptionTable := #[], attributes := #[] }
def k7m4 : Method := { name := "substring", desc := "(II)Ljava/lang/String;", sig := { parameters := [.int, .int], returnType := some (.object "java/lang/String") }, accessFlags := 1, code := some k7c4 }
def k7c5 : Code := { maxStack := 4, maxLocals := 6, code := jdk_42_method_149_code, exceptionTable := #[], attributes := #[] }
def k7m5 : Method := { name := "<init>", desc := "([CIILjava/lang/Void;)V", sig := { parameters := [(.array .char), .int, .int, (.object "java/lang/Void")], returnType := none }, accessFlags := 2, code := some k7c5 }
def k7c6 : Code := { maxStack := 2, maxLocals := 3, code := jdk_42_method_151_code, exceptionTable := #[], attributes := #[] }
def k7m6 : Method := { name := "<init>", desc := "([BB)V", sig := { parameters := [(.array .byte), .byte], returnType := none }, accessFlags := 0, code := some k7c6 }
def k7c7 : Code := { maxStack := 1, maxLocals := 1, code := jdk_42_method_152_code, exceptionTable := #[], attributes := #[] }
def k7m7 : Method := { name := "coder", desc := "()B", sig := { parameters := [], returnType := some .byte }, accessFlags := 0, code := some k7c7 }
def k7c8 : Code := { maxStack := 1, maxLocals := 1, code := jdk_42_method_154_code, exceptionTable := #[], attributes := #[] }
def k7m8 : Method := { name := "isLatin1", desc := "()Z", sig := { parameters := [], returnType := some .boolean }, accessFlags := 0, code := some k7c8 }
def k7c9 : Code := { maxStack := 3, maxLocals := 2, code := jdk_42_method_155_code, exceptionTable := #[], attributes := #[] }
def k7m9 : Method := { name := "checkIndex", desc := "(II)V", sig := { parameters := [.int, .int], returnType := none }, accessFlags := 8, code := some k7c9 }
def k7c10 : Code := { maxStack := 4, maxLocals := 3, code := jdk_42_method_157_code, exceptionTable := #[], attributes := #[] }
def k7m10 : Method := { name := "checkBoundsOffCount", desc := "(III)I", sig := { parameters := [.int, .int, .int], returnType := some .int }, accessFlags := 8, code := some k7c10 }
def k7c11 : Code := { maxStack := 4, maxLocals := 3, code := jdk_42_method_158_code, exceptionTable := #[], attributes := #[] }
def k7m11 : Method := { name := "checkBoundsBeginEnd", desc := "(III)V", sig := { parameters := [.int, .int, .int], returnType := none }, accessFlags := 8, code := some k7c11 }
/-- java/lang/String -/
def k7 : Class := { plain "java/lang/String" (some 0) with
  accessFlags := 49
  interfaces := #[2, 3, 4, 5, 6]
  cf := some (fileOf pool7 10 #[.nestMembers #[1103]] #[{ accessFlags := 1, nameIndex := 5, descriptorIndex := 6, attributes := #[] }, { accessFlags := 1, nameIndex := 5, descriptorIndex := 1010, attributes := #[] }, { accessFlags := 1, nameIndex := 507, descriptorIndex := 334, attributes := #[] }, { accessFlags := 1, nameIndex := 497, descriptorIndex := 427, attributes := #[] }, { accessFlags := 1, nameIndex := 683, descriptorIndex := 684, attributes := #[] }, { accessFlags := 2, nameIndex := 5, descriptorIndex := 29, attributes := #[] }, { accessFlags := 0, nameIndex := 5, descriptorIndex := 211, attributes := #[] }, { accessFlags := 0, nameIndex := 17, descriptorIndex := 337, attributes := #[] }, { accessFlags := 0, nameIndex := 494, descriptorIndex := 142, attributes := #[] }, { accessFlags := 8, nameIndex := 501, descriptorIndex := 391, attributes := #[] }, { accessFlags := 8, nameIndex := 36, descriptorIndex := 37, attributes := #[] }, { accessFlags := 8, nameIndex := 523, descriptorIndex := 524, attributes := #[] }] 49 2 #[1106, 1108, 575, 1110, 1112] #[{ accessFlags := 18, nameIndex := 13, descriptorIndex := 14, attributes := #[] }, { accessFlags := 18, nameIndex := 17, descriptorIndex := 18, attributes := #[] }, { accessFlags := 2, nameIndex := 21, descriptorIndex := 22, attributes := #[] }, { accessFlags := 2, nameIndex := 25, descriptorIndex := 26, attributes := #[] }, { accessFlags := 26, nameIndex := 1116, descriptorIndex := 1117, attributes := #[] }, { accessFlags := 24, nameIndex := 40, descriptorIndex := 26, attributes := #[] }, { accessFlags := 26, nameIndex := 1101, descriptorIndex := 1102, attributes := #[] }, { accessFlags := 26, nameIndex := 1121, descriptorIndex := 1122, attributes := #[] }, { accessFlags := 25, nameIndex := 599, descriptorIndex := 600, attributes := #[] }, { accessFlags := 24, nameIndex := 1125, descriptorIndex := 18, attributes := #[] }, { accessFlags := 24, nameIndex := 1127, descriptorIndex := 18, attributes := #[] }])
  fields := #[{ name := "value", type := (.array .byte), accessFlags := 18, slot := 0, constantValue := 0 }, { name := "coder", type := .byte, accessFlags := 18, slot := 1, constantValue := 0 }, { name := "hash", type := .int, accessFlags := 2, slot := 2, constantValue := 0 }, { name := "hashIsZero", type := .boolean, accessFlags := 2, slot := 3, constantValue := 0 }, { name := "serialVersionUID", type := .long, accessFlags := 26, slot := 0, constantValue := 0 }, { name := "COMPACT_STRINGS", type := .boolean, accessFlags := 24, slot := 1, constantValue := 0 }, { name := "serialPersistentFields", type := (.array (.object "java/io/ObjectStreamField")), accessFlags := 26, slot := 2, constantValue := 0 }, { name := "REPL", type := .char, accessFlags := 26, slot := 3, constantValue := 0 }, { name := "CASE_INSENSITIVE_ORDER", type := (.object "java/util/Comparator"), accessFlags := 25, slot := 4, constantValue := 0 }, { name := "LATIN1", type := .byte, accessFlags := 24, slot := 5, constantValue := 0 }, { name := "UTF16", type := .byte, accessFlags := 24, slot := 6, constantValue := 0 }]
  methods := #[k7m0, k7m1, k7m2, k7m3, k7m4, k7m5, k7m6, k7m7, k7m8, k7m9, k7m10, k7m11]
  instanceTypes := #[(.array .byte), .byte, .int, .boolean]
  staticTypes := #[.long, .boolean, (.array (.object "java/io/ObjectStreamField")), .char, (.object "java/util/Comparator"), .byte, .byte]
  resolved := Array.replicate 1451 none
  statics := some 0 }

def pool8 : Array CpInfo := pool [(2, .class_ 4), (1, u "java/lang/Object"), (0, u "<init>"), (0, u "()V"), (0, .methodref 8 9), (0, .class_ 10), (0, .nameAndType 11 12), (0, u "java/lang/String"), (0, u "length"), (0, u "()I"), (0, .methodref 8 14), (0, .nameAndType 15 16), (0, u "charAt"), (0, u "(I)C"), (0, .methodref 18 19), (0, .class_ 20), (0, .nameAndType 21 22), (0, u "com/example/tinsel_tally/tinseltally/Blanks"), (0, u "isBlank"), (0, u "(C)Z"), (0, .methodref 8 24), (0, .nameAndType 25 26), (0, u "substring"), (0, u "(II)Ljava/lang/String;"), (0, u "NEXT_LINE"), (0, u "C"), (2, u "BYTE_ORDER_MARK"), (3, u "strip"), (0, u "(Ljava/lang/String;)Ljava/lang/String;")] 3

def k8m0 : Method := { name := "<init>", desc := "()V", sig := { parameters := [], returnType := none }, accessFlags := 2, code := none }
def k8c1 : Code := { maxStack := 3, maxLocals := 3, code := prog_3_method_2_code, exceptionTable := #[], attributes := #[] }
def k8m1 : Method := { name := "strip", desc := "(Ljava/lang/String;)Ljava/lang/String;", sig := { parameters := [(.object "java/lang/String")], returnType := some (.object "java/lang/String") }, accessFlags := 8, code := some k8c1 }
def k8c2 : Code := { maxStack := 1, maxLocals := 1, code := prog_3_method_3_code, exceptionTable := #[], attributes := #[] }
def k8m2 : Method := { name := "isBlank", desc := "(C)Z", sig := { parameters := [.char], returnType := some .boolean }, accessFlags := 8, code := some k8c2 }
/-- com/example/tinsel_tally/tinseltally/Blanks -/
def k8 : Class := { plain "com/example/tinsel_tally/tinseltally/Blanks" (some 0) with
  accessFlags := 49
  interfaces := #[]
  cf := some (fileOf pool8 18 #[] #[{ accessFlags := 2, nameIndex := 5, descriptorIndex := 6, attributes := #[] }, { accessFlags := 8, nameIndex := 35, descriptorIndex := 36, attributes := #[] }, { accessFlags := 8, nameIndex := 21, descriptorIndex := 22, attributes := #[] }] 49 2 #[] #[{ accessFlags := 26, nameIndex := 27, descriptorIndex := 28, attributes := #[] }, { accessFlags := 26, nameIndex := 31, descriptorIndex := 28, attributes := #[] }])
  fields := #[{ name := "NEXT_LINE", type := .char, accessFlags := 26, slot := 0, constantValue := 0 }, { name := "BYTE_ORDER_MARK", type := .char, accessFlags := 26, slot := 1, constantValue := 0 }]
  methods := #[k8m0, k8m1, k8m2]
  instanceTypes := #[]
  staticTypes := #[.char, .char]
  resolved := Array.replicate 40 none
  statics := none }

def pool9 : Array CpInfo := pool [(2, .class_ 4), (1, u "java/lang/Object"), (0, u "<init>"), (0, u "()V"), (17, .class_ 26), (1, u "jdk/internal/util/Preconditions"), (6, u "checkIndex"), (13, u "checkFromToIndex"), (1, u "checkFromIndexSize"), (5, .class_ 56), (0, u "jdk/internal/util/Preconditions$4"), (57, .class_ 115), (0, u "jdk/internal/util/Preconditions$1"), (7, u "SIOOBE_FORMATTER"), (0, u "Ljava/util/function/BiFunction;"), (0, .class_ 126), (0, u "jdk/internal/util/Preconditions$2"), (3, u "AIOOBE_FORMATTER"), (0, .class_ 132), (0, u "jdk/internal/util/Preconditions$3"), (3, u "IOOBE_FORMATTER"), (41, u "(IILjava/util/function/BiFunction;)I"), (4, u "(IIILjava/util/function/BiFunction;)I")] 10

def k9m0 : Method := { name := "<init>", desc := "()V", sig := { parameters := [], returnType := none }, accessFlags := 1, code := none }
def k9c1 : Code := { maxStack := 3, maxLocals := 3, code := jdk_41_method_11_code, exceptionTable := #[], attributes := #[] }
def k9m1 : Method := { name := "checkIndex", desc := "(IILjava/util/function/BiFunction;)I", sig := { parameters := [.int, .int, (.object "java/util/function/BiFunction")], returnType := some .int }, accessFlags := 9, code := some k9c1 }
def k9c2 : Code := { maxStack := 4, maxLocals := 4, code := jdk_41_method_12_code, exceptionTable := #[], attributes := #[] }
def k9m2 : Method := { name := "checkFromToIndex", desc := "(IIILjava/util/function/BiFunction;)I", sig := { parameters := [.int, .int, .int, (.object "java/util/function/BiFunction")], returnType := some .int }, accessFlags := 9, code := some k9c2 }
def k9c3 : Code := { maxStack := 4, maxLocals := 4, code := jdk_41_method_13_code, exceptionTable := #[], attributes := #[] }
def k9m3 : Method := { name := "checkFromIndexSize", desc := "(IIILjava/util/function/BiFunction;)I", sig := { parameters := [.int, .int, .int, (.object "java/util/function/BiFunction")], returnType := some .int }, accessFlags := 9, code := some k9c3 }
/-- jdk/internal/util/Preconditions -/
def k9 : Class := { plain "jdk/internal/util/Preconditions" (some 0) with
  accessFlags := 33
  interfaces := #[]
  cf := some (fileOf pool9 24 #[.nestMembers #[55, 131, 125, 114]] #[{ accessFlags := 1, nameIndex := 5, descriptorIndex := 6, attributes := #[] }, { accessFlags := 9, nameIndex := 33, descriptorIndex := 178, attributes := #[] }, { accessFlags := 9, nameIndex := 47, descriptorIndex := 183, attributes := #[] }, { accessFlags := 9, nameIndex := 49, descriptorIndex := 183, attributes := #[] }] 33 2 #[] #[{ accessFlags := 25, nameIndex := 123, descriptorIndex := 124, attributes := #[] }, { accessFlags := 25, nameIndex := 130, descriptorIndex := 124, attributes := #[] }, { accessFlags := 25, nameIndex := 136, descriptorIndex := 124, attributes := #[] }])
  fields := #[{ name := "SIOOBE_FORMATTER", type := (.object "java/util/function/BiFunction"), accessFlags := 25, slot := 0, constantValue := 0 }, { name := "AIOOBE_FORMATTER", type := (.object "java/util/function/BiFunction"), accessFlags := 25, slot := 1, constantValue := 0 }, { name := "IOOBE_FORMATTER", type := (.object "java/util/function/BiFunction"), accessFlags := 25, slot := 2, constantValue := 0 }]
  methods := #[k9m0, k9m1, k9m2, k9m3]
  instanceTypes := #[]
  staticTypes := #[(.object "java/util/function/BiFunction"), (.object "java/util/function/BiFunction"), (.object "java/util/function/BiFunction")]
  resolved := Array.replicate 194 none
  statics := some 1 }

def pool10 : Array CpInfo := pool [(3, .class_ 4), (0, u "java/lang/String"), (1, .class_ 8), (1, u "java/lang/Object"), (0, u "<init>"), (0, u "()V"), (0, .methodref 12 13), (0, .class_ 14), (0, .nameAndType 15 16), (0, u "java/lang/StringUTF16"), (0, u "newBytesLength"), (0, u "(I)I"), (3, .integer 1073741823), (23, .fieldref 12 45), (0, .nameAndType 46 47), (0, u "$assertionsDisabled"), (0, u "Z"), (0, .methodref 12 49), (0, .nameAndType 50 51), (0, u "length"), (0, u "([B)I"), (7, .fieldref 12 60), (0, .nameAndType 61 62), (0, u "HI_BYTE_SHIFT"), (0, u "I"), (0, .fieldref 12 64), (0, .nameAndType 65 62), (0, u "LO_BYTE_SHIFT"), (1, .methodref 12 68), (0, .nameAndType 69 70), (0, u "checkIndex"), (0, u "(I[B)V"), (0, .methodref 12 72), (0, .nameAndType 73 74), (0, u "getChar"), (0, u "([BI)C"), (24, u "(II[B)V"), (7, .methodref 12 108), (0, .nameAndType 109 110), (0, u "newBytesFor"), (0, u "(I)[B"), (0, .methodref 12 112), (0, .nameAndType 113 114), (0, u "putChar"), (0, u "([BII)V"), (0, .methodref 12 116), (0, .nameAndType 117 118), (0, u "compress"), (0, u "([CI[BII)I"), (0, .methodref 12 120), (0, .nameAndType 121 122), (0, u "toBytes"), (0, u "([CII)[B"), (0, .methodref 12 124), (0, .nameAndType 117 125), (0, u "([BI[BII)I"), (0, .methodref 127 128), (0, .class_ 129), (0, .nameAndType 130 131), (0, u "java/util/Arrays"), (0, u "copyOfRange"), (0, u "([BII)[B"), (41, .methodref 12 174), (0, .nameAndType 175 99), (0, u "checkBoundsOffCount"), (75, .fieldref 3 252), (0, .nameAndType 253 47), (0, u "COMPACT_STRINGS"), (3, .methodref 12 258), (0, .nameAndType 117 131), (0, .methodref 12 260), (0, .nameAndType 261 262), (0, u "coderFromArrayLen"), (0, u "([BI)B"), (0, .methodref 3 264), (0, .nameAndType 9 265), (0, u "([BB)V"), (15, u "(III)I"), (13, .string 296), (0, u ""), (30, u "newString"), (0, u "([BII)Ljava/lang/String;"), (40, .class_ 371), (1, u "java/lang/StringUTF16$LinesSpliterator"), (20, u "charAt"), (21, .methodref 3 415), (0, .nameAndType 69 416), (0, u "(II)V"), (2, .methodref 3 420), (0, .nameAndType 175 281), (9, u "MAX_LENGTH"), (196, .class_ 628), (0, u "java/lang/StringUTF16$CodePointsSpliterator"), (0, .class_ 630), (0, u "java/lang/StringUTF16$CharsSpliterator")] 4

def k10m0 : Method := { name := "<init>", desc := "()V", sig := { parameters := [], returnType := none }, accessFlags := 0, code := none }
def k10c1 : Code := { maxStack := 1, maxLocals := 1, code := jdk_52_method_2_code, exceptionTable := #[], attributes := #[] }
def k10m1 : Method := { name := "newBytesFor", desc := "(I)[B", sig := { parameters := [.int], returnType := some (.array .byte) }, accessFlags := 9, code := some k10c1 }
def k10c2 : Code := { maxStack := 4, maxLocals := 1, code := jdk_52_method_3_code, exceptionTable := #[], attributes := #[] }
def k10m2 : Method := { name := "newBytesLength", desc := "(I)I", sig := { parameters := [.int], returnType := some .int }, accessFlags := 9, code := some k10c2 }
def k10c3 : Code := { maxStack := 4, maxLocals := 3, code := jdk_52_method_4_code, exceptionTable := #[], attributes := #[] }
def k10m3 : Method := { name := "putChar", desc := "([BII)V", sig := { parameters := [(.array .byte), .int, .int], returnType := none }, accessFlags := 8, code := some k10c3 }
def k10c4 : Code := { maxStack := 3, maxLocals := 2, code := jdk_52_method_5_code, exceptionTable := #[], attributes := #[] }
def k10m4 : Method := { name := "getChar", desc := "([BI)C", sig := { parameters := [(.array .byte), .int], returnType := some .char }, accessFlags := 8, code := some k10c4 }
def k10c5 : Code := { maxStack := 2, maxLocals := 1, code := jdk_52_method_6_code, exceptionTable := #[], attributes := #[] }
def k10m5 : Method := { name := "length", desc := "([B)I", sig := { parameters := [(.array .byte)], returnType := some .int }, accessFlags := 9, code := some k10c5 }
def k10c6 : Code := { maxStack := 4, maxLocals := 5, code := jdk_52_method_14_code, exceptionTable := #[], attributes := #[] }
def k10m6 : Method := { name := "toBytes", desc := "([CII)[B", sig := { parameters := [(.array .char), .int, .int], returnType := some (.array .byte) }, accessFlags := 9, code := some k10c6 }
def k10c7 : Code := { maxStack := 2, maxLocals := 2, code := jdk_52_method_15_code, exceptionTable := #[], attributes := #[] }
def k10m7 : Method := { name := "coderFromArrayLen", desc := "([BI)B", sig := { parameters := [(.array .byte), .int], returnType := some .byte }, accessFlags := 8, code := some k10c7 }
def k10c8 : Code := { maxStack := 5, maxLocals := 6, code := jdk_52_method_16_code, exceptionTable := #[], attributes := #[] }
def k10m8 : Method := { name := "compress", desc := "([CII)[B", sig := { parameters := [(.array .char), .int, .int], returnType := some (.array .byte) }, accessFlags := 9, code := some k10c8 }
def k10c9 : Code := { maxStack := 5, maxLocals := 6, code := jdk_52_method_17_code, exceptionTable := #[], attributes := #[] }
def k10m9 : Method := { name := "compress", desc := "([BII)[B", sig := { parameters := [(.array .byte), .int, .int], returnType := some (.array .byte) }, accessFlags := 9, code := some k10c9 }
def k10c10 : Code := { maxStack := 3, maxLocals := 7, code := jdk_52_method_21_code, exceptionTable := #[], attributes := #[] }
def k10m10 : Method := { name := "compress", desc := "([CI[BII)I", sig := { parameters := [(.array .char), .int, (.array .byte), .int, .int], returnType := some .int }, accessFlags := 9, code := some k10c10 }
def k10c11 : Code := { maxStack := 3, maxLocals := 7, code := jdk_52_method_22_code, exceptionTable := #[], attributes := #[] }
def k10m11 : Method := { name := "compress", desc := "([BI[BII)I", sig := { parameters := [(.array .byte), .int, (.array .byte), .int, .int], returnType := some .int }, accessFlags := 9, code := some k10c11 }
def k10c12 : Code := { maxStack := 6, maxLocals := 5, code := jdk_52_method_69_code, exceptionTable := #[], attributes := #[] }
def k10m12 : Method := { name := "newString", desc := "([BII)Ljava/lang/String;", sig := { parameters := [(.array .byte), .int, .int], returnType := some (.object "java/lang/String") }, accessFlags := 9, code := some k10c12 }
def k10c13 : Code := { maxStack := 2, maxLocals := 2, code := jdk_52_method_83_code, exceptionTable := #[], attributes := #[] }
def k10m13 : Method := { name := "charAt", desc := "([BI)C", sig := { parameters := [(.array .byte), .int], returnType := some .char }, accessFlags := 9, code := some k10c13 }
def k10c14 : Code := { maxStack := 2, maxLocals := 2, code := jdk_52_method_91_code, exceptionTable := #[], attributes := #[] }
def k10m14 : Method := { name := "checkIndex", desc := "(I[B)V", sig := { parameters := [.int, (.array .byte)], returnType := none }, accessFlags := 9, code := some k10c14 }
def k10c15 : Code := { maxStack := 3, maxLocals := 3, code := jdk_52_method_94_code, exceptionTable := #[], attributes := #[] }
def k10m15 : Method := { name := "checkBoundsOffCount", desc := "(II[B)V", sig := { parameters := [.int, .int, (.array .byte)], returnType := none }, accessFlags := 9, code := some k10c15 }
/-- java/lang/StringUTF16 -/
def k10 : Class := { plain "java/lang/StringUTF16" (some 0) with
  accessFlags := 48
  interfaces := #[]
  cf := some (fileOf pool10 12 #[.nestMembers #[627, 629, 369]] #[{ accessFlags := 0, nameIndex := 9, descriptorIndex := 10, attributes := #[] }, { accessFlags := 9, nameIndex := 109, descriptorIndex := 110, attributes := #[] }, { accessFlags := 9, nameIndex := 15, descriptorIndex := 16, attributes := #[] }, { accessFlags := 8, nameIndex := 113, descriptorIndex := 114, attributes := #[] }, { accessFlags := 8, nameIndex := 73, descriptorIndex := 74, attributes := #[] }, { accessFlags := 9, nameIndex := 50, descriptorIndex := 51, attributes := #[] }, { accessFlags := 9, nameIndex := 121, descriptorIndex := 122, attributes := #[] }, { accessFlags := 8, nameIndex := 261, descriptorIndex := 262, attributes := #[] }, { accessFlags := 9, nameIndex := 117, descriptorIndex := 122, attributes := #[] }, { accessFlags := 9, nameIndex := 117, descriptorIndex := 131, attributes := #[] }, { accessFlags := 9, nameIndex := 117, descriptorIndex := 118, attributes := #[] }, { accessFlags := 9, nameIndex := 117, descriptorIndex := 125, attributes := #[] }, { accessFlags := 9, nameIndex := 327, descriptorIndex := 328, attributes := #[] }, { accessFlags := 9, nameIndex := 392, descriptorIndex := 74, attributes := #[] }, { accessFlags := 9, nameIndex := 69, descriptorIndex := 70, attributes := #[] }, { accessFlags := 9, nameIndex := 175, descriptorIndex := 99, attributes := #[] }] 48 6 #[] #[{ accessFlags := 26, nameIndex := 61, descriptorIndex := 62, attributes := #[] }, { accessFlags := 26, nameIndex := 65, descriptorIndex := 62, attributes := #[] }, { accessFlags := 24, nameIndex := 430, descriptorIndex := 62, attributes := #[] }, { accessFlags := 4120, nameIndex := 46, descriptorIndex := 47, attributes := #[] }])
  fields := #[{ name := "HI_BYTE_SHIFT", type := .int, accessFlags := 26, slot := 0, constantValue := 0 }, { name := "LO_BYTE_SHIFT", type := .int, accessFlags := 26, slot := 1, constantValue := 0 }, { name := "MAX_LENGTH", type := .int, accessFlags := 24, slot := 2, constantValue := 0 }, { name := "$assertionsDisabled", type := .boolean, accessFlags := 4120, slot := 3, constantValue := 0 }]
  methods := #[k10m0, k10m1, k10m2, k10m3, k10m4, k10m5, k10m6, k10m7, k10m8, k10m9, k10m10, k10m11, k10m12, k10m13, k10m14, k10m15]
  instanceTypes := #[]
  staticTypes := #[.int, .int, .int, .boolean]
  resolved := Array.replicate 635 none
  statics := some 2 }

def pool11 : Array CpInfo := pool [(1, .class_ 2), (0, u "java/lang/String"), (1, .class_ 6), (1, u "java/lang/Object"), (0, u "<init>"), (0, u "()V"), (0, .methodref 1 10), (0, .nameAndType 11 12), (0, u "checkIndex"), (0, u "(II)V"), (1, .class_ 16), (1, u "java/lang/StringLatin1"), (36, u "([BI)C"), (58, .methodref 1 113), (0, .nameAndType 7 114), (0, u "([BB)V"), (6, u "$assertionsDisabled"), (0, u "Z"), (8, .class_ 133), (1, u "java/util/Arrays"), (17, .string 152), (0, u ""), (43, u "newString"), (0, u "([BII)Ljava/lang/String;"), (23, .class_ 223), (1, u "java/lang/StringLatin1$LinesSpliterator"), (8, .methodref 131 233), (0, .nameAndType 234 235), (0, u "copyOfRange"), (0, u "([BII)[B"), (16, u "charAt"), (137, .class_ 391), (0, u "java/lang/StringLatin1$CharsSpliterator")] 3

def k11m0 : Method := { name := "<init>", desc := "()V", sig := { parameters := [], returnType := none }, accessFlags := 0, code := none }
def k11c1 : Code := { maxStack := 2, maxLocals := 2, code := jdk_43_method_2_code, exceptionTable := #[], attributes := #[] }
def k11m1 : Method := { name := "charAt", desc := "([BI)C", sig := { parameters := [(.array .byte), .int], returnType := some .char }, accessFlags := 9, code := some k11c1 }
def k11c2 : Code := { maxStack := 6, maxLocals := 3, code := jdk_43_method_47_code, exceptionTable := #[], attributes := #[] }
def k11m2 : Method := { name := "newString", desc := "([BII)Ljava/lang/String;", sig := { parameters := [(.array .byte), .int, .int], returnType := some (.object "java/lang/String") }, accessFlags := 9, code := some k11c2 }
/-- java/lang/StringLatin1 -/
def k11 : Class := { plain "java/lang/StringLatin1" (some 0) with
  accessFlags := 48
  interfaces := #[]
  cf := some (fileOf pool11 14 #[.nestMembers #[390, 221]] #[{ accessFlags := 0, nameIndex := 7, descriptorIndex := 8, attributes := #[] }, { accessFlags := 9, nameIndex := 252, descriptorIndex := 53, attributes := #[] }, { accessFlags := 9, nameIndex := 196, descriptorIndex := 197, attributes := #[] }] 48 4 #[] #[{ accessFlags := 4120, nameIndex := 121, descriptorIndex := 122, attributes := #[] }])
  fields := #[{ name := "$assertionsDisabled", type := .boolean, accessFlags := 4120, slot := 0, constantValue := 0 }]
  methods := #[k11m0, k11m1, k11m2]
  instanceTypes := #[]
  staticTypes := #[.boolean]
  resolved := Array.replicate 395 none
  statics := none }

def pool12 : Array CpInfo := pool [(2, .class_ 4), (1, u "java/lang/Object"), (0, u "<init>"), (0, u "()V"), (7, .class_ 16), (1, u "java/util/Arrays"), (57, .class_ 76), (1, u "java/util/Arrays$NaturalOrder"), (36, .class_ 115), (1, u "java/util/Arrays$LegacyMergeSort"), (1, u "Z"), (21, u "copyOfRange"), (10, .methodref 151 152), (0, .class_ 153), (0, .nameAndType 154 155), (0, u "java/lang/System"), (0, u "arraycopy"), (0, u "(Ljava/lang/Object;ILjava/lang/Object;II)V"), (148, .methodref 305 306), (0, .class_ 307), (0, .nameAndType 308 309), (0, u "java/lang/Math"), (0, u "min"), (0, u "(II)I"), (29, .methodref 14 340), (0, .nameAndType 341 342), (0, u "copyOfRangeByte"), (0, u "([BII)[B"), (0, .methodref 14 344), (0, .nameAndType 345 346), (0, u "checkLength"), (0, u "(II)V"), (28, .class_ 376), (0, u "java/util/Arrays$ArrayList"), (68, u "$assertionsDisabled"), (269, u "MIN_ARRAY_SORT_GRAN"), (0, u "I"), (2, u "INSERTIONSORT_THRESHOLD"), (255, .class_ 976), (0, u "java/util/Arrays$ArrayItr")] 52

def k12m0 : Method := { name := "<init>", desc := "()V", sig := { parameters := [], returnType := none }, accessFlags := 2, code := none }
def k12c1 : Code := { maxStack := 4, maxLocals := 2, code := jdk_65_method_131_code, exceptionTable := #[], attributes := #[] }
def k12m1 : Method := { name := "checkLength", desc := "(II)V", sig := { parameters := [.int, .int], returnType := none }, accessFlags := 10, code := some k12c1 }
def k12c2 : Code := { maxStack := 3, maxLocals := 3, code := jdk_65_method_132_code, exceptionTable := #[], attributes := #[] }
def k12m2 : Method := { name := "copyOfRange", desc := "([BII)[B", sig := { parameters := [(.array .byte), .int, .int], returnType := some (.array .byte) }, accessFlags := 9, code := some k12c2 }
def k12c3 : Code := { maxStack := 6, maxLocals := 5, code := jdk_65_method_133_code, exceptionTable := #[], attributes := #[] }
def k12m3 : Method := { name := "copyOfRangeByte", desc := "([BII)[B", sig := { parameters := [(.array .byte), .int, .int], returnType := some (.array .byte) }, accessFlags := 10, code := some k12c3 }
/-- java/util/Arrays -/
def k12 : Class := { plain "java/util/Arrays" (some 0) with
  accessFlags := 49
  interfaces := #[]
  cf := some (fileOf pool12 14 #[.nestMembers #[975, 375, 113, 74]] #[{ accessFlags := 2, nameIndex := 5, descriptorIndex := 6, attributes := #[] }, { accessFlags := 10, nameIndex := 345, descriptorIndex := 346, attributes := #[] }, { accessFlags := 9, nameIndex := 139, descriptorIndex := 342, attributes := #[] }, { accessFlags := 10, nameIndex := 341, descriptorIndex := 342, attributes := #[] }] 49 2 #[] #[{ accessFlags := 26, nameIndex := 715, descriptorIndex := 716, attributes := #[] }, { accessFlags := 26, nameIndex := 719, descriptorIndex := 716, attributes := #[] }, { accessFlags := 4120, nameIndex := 445, descriptorIndex := 117, attributes := #[] }])
  fields := #[{ name := "MIN_ARRAY_SORT_GRAN", type := .int, accessFlags := 26, slot := 0, constantValue := 0 }, { name := "INSERTIONSORT_THRESHOLD", type := .int, accessFlags := 26, slot := 1, constantValue := 0 }, { name := "$assertionsDisabled", type := .boolean, accessFlags := 4120, slot := 2, constantValue := 0 }]
  methods := #[k12m0, k12m1, k12m2, k12m3]
  instanceTypes := #[]
  staticTypes := #[.int, .int, .boolean]
  resolved := Array.replicate 1029 none
  statics := none }

def pool13 : Array CpInfo := pool [(1, .class_ 2), (0, u "java/lang/Math"), (1, .class_ 6), (1, u "java/lang/Object"), (0, u "<init>"), (0, u "()V"), (89, .class_ 100), (1, u "java/lang/Math$RandomNumberGeneratorHolder"), (71, u "negativeZeroFloatBits"), (0, u "J"), (2, u "negativeZeroDoubleBits"), (24, u "min"), (43, u "$assertionsDisabled"), (0, u "Z"), (88, u "(II)I"), (2, u "twoToTheDoubleScaleDown"), (0, u "D"), (4, u "twoToTheDoubleScaleUp"), (9, u "E"), (3, u "PI"), (2, u "TAU"), (2, u "DEGREES_TO_RADIANS"), (0, u "RADIANS_TO_DEGREES")] 94

def k13m0 : Method := { name := "<init>", desc := "()V", sig := { parameters := [], returnType := none }, accessFlags := 2, code := none }
def k13c1 : Code := { maxStack := 2, maxLocals := 2, code := jdk_29_method_69_code, exceptionTable := #[], attributes := #[] }
def k13m1 : Method := { name := "min", desc := "(II)I", sig := { parameters := [.int, .int], returnType := some .int }, accessFlags := 9, code := some k13c1 }
/-- java/lang/Math -/
def k13 : Class := { plain "java/lang/Math" (some 0) with
  accessFlags := 49
  interfaces := #[]
  cf := some (fileOf pool13 1 #[.nestMembers #[98]] #[{ accessFlags := 2, nameIndex := 7, descriptorIndex := 8, attributes := #[] }, { accessFlags := 9, nameIndex := 201, descriptorIndex := 335, attributes := #[] }] 49 4 #[] #[{ accessFlags := 25, nameIndex := 354, descriptorIndex := 339, attributes := #[] }, { accessFlags := 25, nameIndex := 358, descriptorIndex := 339, attributes := #[] }, { accessFlags := 25, nameIndex := 361, descriptorIndex := 339, attributes := #[] }, { accessFlags := 26, nameIndex := 364, descriptorIndex := 339, attributes := #[] }, { accessFlags := 26, nameIndex := 365, descriptorIndex := 339, attributes := #[] }, { accessFlags := 26, nameIndex := 172, descriptorIndex := 173, attributes := #[] }, { accessFlags := 26, nameIndex := 176, descriptorIndex := 173, attributes := #[] }, { accessFlags := 8, nameIndex := 344, descriptorIndex := 339, attributes := #[] }, { accessFlags := 8, nameIndex := 338, descriptorIndex := 339, attributes := #[] }, { accessFlags := 4120, nameIndex := 245, descriptorIndex := 246, attributes := #[] }])
  fields := #[{ name := "E", type := .double, accessFlags := 25, slot := 0, constantValue := 0 }, { name := "PI", type := .double, accessFlags := 25, slot := 1, constantValue := 0 }, { name := "TAU", type := .double, accessFlags := 25, slot := 2, constantValue := 0 }, { name := "DEGREES_TO_RADIANS", type := .double, accessFlags := 26, slot := 3, constantValue := 0 }, { name := "RADIANS_TO_DEGREES", type := .double, accessFlags := 26, slot := 4, constantValue := 0 }, { name := "negativeZeroFloatBits", type := .long, accessFlags := 26, slot := 5, constantValue := 0 }, { name := "negativeZeroDoubleBits", type := .long, accessFlags := 26, slot := 6, constantValue := 0 }, { name := "twoToTheDoubleScaleUp", type := .double, accessFlags := 8, slot := 7, constantValue := 0 }, { name := "twoToTheDoubleScaleDown", type := .double, accessFlags := 8, slot := 8, constantValue := 0 }, { name := "$assertionsDisabled", type := .boolean, accessFlags := 4120, slot := 9, constantValue := 0 }]
  methods := #[k13m0, k13m1]
  instanceTypes := #[]
  staticTypes := #[.double, .double, .double, .double, .double, .long, .long, .double, .double, .boolean]
  resolved := Array.replicate 460 none
  statics := none }

def pool14 : Array CpInfo := pool [(2, .class_ 4), (1, u "java/lang/Object"), (0, u "<init>"), (0, u "()V"), (1, .class_ 10), (1, u "java/lang/System"), (0, u "allowSecurityManager"), (0, u "I"), (16, u "cons"), (0, u "Ljava/io/Console;"), (77, .class_ 110), (1, u "java/lang/System$CallersHolder"), (43, u "initialErrStream"), (0, u "Ljava/io/PrintStream;"), (19, u "security"), (0, u "Ljava/lang/SecurityManager;"), (31, .class_ 209), (0, u "java/lang/System$1"), (7, u "props"), (0, u "Ljava/util/Properties;"), (2, u "lineSeparator"), (0, u "Ljava/lang/String;"), (96, .class_ 321), (1, u "java/lang/System$LoggerFinder"), (5, .class_ 328), (0, u "java/lang/System$Logger"), (67, u "err"), (2, u "out"), (91, u "notSupportedJnuEncoding"), (15, u "in"), (17, u "initialIn"), (0, u "Ljava/io/InputStream;"), (35, u "bootLayer"), (0, u "Ljava/lang/ModuleLayer;"), (99, .class_ 664), (0, u "java/lang/System$2"), (9, u "NEVER"), (2, u "MAYBE"), (49, u "arraycopy"), (0, u "(Ljava/lang/Object;ILjava/lang/Object;II)V"), (72, .class_ 802), (0, u "java/lang/System$Logger$Level")] 31

def k14m0 : Method := { name := "<init>", desc := "()V", sig := { parameters := [], returnType := none }, accessFlags := 2, code := none }
def k14m1 : Method := { name := "arraycopy", desc := "(Ljava/lang/Object;ILjava/lang/Object;II)V", sig := { parameters := [(.object "java/lang/Object"), .int, (.object "java/lang/Object"), .int, .int], returnType := none }, accessFlags := 265, code := none }
/-- java/lang/System -/
def k14 : Class := { plain "java/lang/System" (some 0) with
  accessFlags := 49
  interfaces := #[]
  cf := some (fileOf pool14 8 #[.nestMembers #[319, 327, 801, 108, 663, 208]] #[{ accessFlags := 2, nameIndex := 5, descriptorIndex := 6, attributes := #[] }, { accessFlags := 265, nameIndex := 727, descriptorIndex := 728, attributes := #[] }] 49 2 #[] #[{ accessFlags := 25, nameIndex := 507, descriptorIndex := 526, attributes := #[] }, { accessFlags := 25, nameIndex := 399, descriptorIndex := 155, attributes := #[] }, { accessFlags := 25, nameIndex := 396, descriptorIndex := 155, attributes := #[] }, { accessFlags := 10, nameIndex := 525, descriptorIndex := 526, attributes := #[] }, { accessFlags := 26, nameIndex := 674, descriptorIndex := 12, attributes := #[] }, { accessFlags := 26, nameIndex := 677, descriptorIndex := 12, attributes := #[] }, { accessFlags := 10, nameIndex := 11, descriptorIndex := 12, attributes := #[] }, { accessFlags := 74, nameIndex := 175, descriptorIndex := 176, attributes := #[] }, { accessFlags := 10, nameIndex := 491, descriptorIndex := 222, attributes := #[] }, { accessFlags := 74, nameIndex := 29, descriptorIndex := 30, attributes := #[] }, { accessFlags := 74, nameIndex := 154, descriptorIndex := 155, attributes := #[] }, { accessFlags := 10, nameIndex := 217, descriptorIndex := 218, attributes := #[] }, { accessFlags := 10, nameIndex := 221, descriptorIndex := 222, attributes := #[] }, { accessFlags := 8, nameIndex := 562, descriptorIndex := 563, attributes := #[] }])
  fields := #[{ name := "in", type := (.object "java/io/InputStream"), accessFlags := 25, slot := 0, constantValue := 0 }, { name := "out", type := (.object "java/io/PrintStream"), accessFlags := 25, slot := 1, constantValue := 0 }, { name := "err", type := (.object "java/io/PrintStream"), accessFlags := 25, slot := 2, constantValue := 0 }, { name := "initialIn", type := (.object "java/io/InputStream"), accessFlags := 10, slot := 3, constantValue := 0 }, { name := "NEVER", type := .int, accessFlags := 26, slot := 4, constantValue := 0 }, { name := "MAYBE", type := .int, accessFlags := 26, slot := 5, constantValue := 0 }, { name := "allowSecurityManager", type := .int, accessFlags := 10, slot := 6, constantValue := 0 }, { name := "security", type := (.object "java/lang/SecurityManager"), accessFlags := 74, slot := 7, constantValue := 0 }, { name := "notSupportedJnuEncoding", type := (.object "java/lang/String"), accessFlags := 10, slot := 8, constantValue := 0 }, { name := "cons", type := (.object "java/io/Console"), accessFlags := 74, slot := 9, constantValue := 0 }, { name := "initialErrStream", type := (.object "java/io/PrintStream"), accessFlags := 74, slot := 10, constantValue := 0 }, { name := "props", type := (.object "java/util/Properties"), accessFlags := 10, slot := 11, constantValue := 0 }, { name := "lineSeparator", type := (.object "java/lang/String"), accessFlags := 10, slot := 12, constantValue := 0 }, { name := "bootLayer", type := (.object "java/lang/ModuleLayer"), accessFlags := 8, slot := 13, constantValue := 0 }]
  methods := #[k14m0, k14m1]
  instanceTypes := #[]
  staticTypes := #[(.object "java/io/InputStream"), (.object "java/io/PrintStream"), (.object "java/io/PrintStream"), (.object "java/io/InputStream"), .int, .int, .int, (.object "java/lang/SecurityManager"), (.object "java/lang/String"), (.object "java/io/Console"), (.object "java/io/PrintStream"), (.object "java/util/Properties"), (.object "java/lang/String"), (.object "java/lang/ModuleLayer")]
  resolved := Array.replicate 834 none
  statics := none }

def pool15 : Array CpInfo := pool [(9, u "<init>"), (6, .class_ 18), (1, u "java/lang/Object"), (0, u "()V"), (1, .class_ 23), (1, u "jdk/internal/util/ArraysSupport"), (0, u "LOG2_ARRAY_LONG_INDEX_SCALE"), (0, u "I"), (2, u "U"), (0, u "Ljdk/internal/misc/Unsafe;"), (8, u "BIG_ENDIAN"), (0, u "Z"), (8, u "LOG2_BYTE_BIT_SIZE"), (4, u "LOG2_ARRAY_INT_INDEX_SCALE"), (54, u "JLA"), (0, u "Ljdk/internal/access/JavaLangAccess;"), (11, u "LOG2_ARRAY_BOOLEAN_INDEX_SCALE"), (9, u "LOG2_ARRAY_BYTE_INDEX_SCALE"), (5, u "LOG2_ARRAY_CHAR_INDEX_SCALE"), (5, u "LOG2_ARRAY_SHORT_INDEX_SCALE"), (18, u "LOG2_ARRAY_FLOAT_INDEX_SCALE"), (24, u "LOG2_ARRAY_DOUBLE_INDEX_SCALE"), (89, u "T_BOOLEAN"), (2, u "T_CHAR"), (1, u "T_FLOAT"), (1, u "T_DOUBLE"), (1, u "T_BYTE"), (1, u "T_SHORT"), (1, u "T_INT"), (1, u "T_LONG"), (1, u "SOFT_MAX_ARRAY_LENGTH")] 83

def k15m0 : Method := { name := "<init>", desc := "()V", sig := { parameters := [], returnType := none }, accessFlags := 2, code := none }
/-- jdk/internal/util/ArraysSupport -/
def k15 : Class := { plain "jdk/internal/util/ArraysSupport" (some 0) with
  accessFlags := 33
  interfaces := #[]
  cf := some (fileOf pool15 21 #[] #[{ accessFlags := 2, nameIndex := 9, descriptorIndex := 19, attributes := #[] }] 33 16 #[] #[{ accessFlags := 24, nameIndex := 28, descriptorIndex := 29, attributes := #[] }, { accessFlags := 26, nameIndex := 38, descriptorIndex := 39, attributes := #[] }, { accessFlags := 25, nameIndex := 121, descriptorIndex := 25, attributes := #[] }, { accessFlags := 25, nameIndex := 131, descriptorIndex := 25, attributes := #[] }, { accessFlags := 25, nameIndex := 137, descriptorIndex := 25, attributes := #[] }, { accessFlags := 25, nameIndex := 143, descriptorIndex := 25, attributes := #[] }, { accessFlags := 25, nameIndex := 53, descriptorIndex := 25, attributes := #[] }, { accessFlags := 25, nameIndex := 24, descriptorIndex := 25, attributes := #[] }, { accessFlags := 25, nameIndex := 162, descriptorIndex := 25, attributes := #[] }, { accessFlags := 25, nameIndex := 187, descriptorIndex := 25, attributes := #[] }, { accessFlags := 26, nameIndex := 48, descriptorIndex := 25, attributes := #[] }, { accessFlags := 25, nameIndex := 277, descriptorIndex := 25, attributes := #[] }, { accessFlags := 25, nameIndex := 280, descriptorIndex := 25, attributes := #[] }, { accessFlags := 25, nameIndex := 282, descriptorIndex := 25, attributes := #[] }, { accessFlags := 25, nameIndex := 284, descriptorIndex := 25, attributes := #[] }, { accessFlags := 25, nameIndex := 286, descriptorIndex := 25, attributes := #[] }, { accessFlags := 25, nameIndex := 288, descriptorIndex := 25, attributes := #[] }, { accessFlags := 25, nameIndex := 290, descriptorIndex := 25, attributes := #[] }, { accessFlags := 25, nameIndex := 292, descriptorIndex := 25, attributes := #[] }, { accessFlags := 26, nameIndex := 108, descriptorIndex := 109, attributes := #[] }, { accessFlags := 25, nameIndex := 294, descriptorIndex := 25, attributes := #[] }])
  fields := #[{ name := "U", type := (.object "jdk/internal/misc/Unsafe"), accessFlags := 24, slot := 0, constantValue := 0 }, { name := "BIG_ENDIAN", type := .boolean, accessFlags := 26, slot := 1, constantValue := 0 }, { name := "LOG2_ARRAY_BOOLEAN_INDEX_SCALE", type := .int, accessFlags := 25, slot := 2, constantValue := 0 }, { name := "LOG2_ARRAY_BYTE_INDEX_SCALE", type := .int, accessFlags := 25, slot := 3, constantValue := 0 }, { name := "LOG2_ARRAY_CHAR_INDEX_SCALE", type := .int, accessFlags := 25, slot := 4, constantValue := 0 }, { name := "LOG2_ARRAY_SHORT_INDEX_SCALE", type := .int, accessFlags := 25, slot := 5, constantValue := 0 }, { name := "LOG2_ARRAY_INT_INDEX_SCALE", type := .int, accessFlags := 25, slot := 6, constantValue := 0 }, { name := "LOG2_ARRAY_LONG_INDEX_SCALE", type := .int, accessFlags := 25, slot := 7, constantValue := 0 }, { name := "LOG2_ARRAY_FLOAT_INDEX_SCALE", type := .int, accessFlags := 25, slot := 8, constantValue := 0 }, { name := "LOG2_ARRAY_DOUBLE_INDEX_SCALE", type := .int, accessFlags := 25, slot := 9, constantValue := 0 }, { name := "LOG2_BYTE_BIT_SIZE", type := .int, accessFlags := 26, slot := 10, constantValue := 0 }, { name := "T_BOOLEAN", type := .int, accessFlags := 25, slot := 11, constantValue := 0 }, { name := "T_CHAR", type := .int, accessFlags := 25, slot := 12, constantValue := 0 }, { name := "T_FLOAT", type := .int, accessFlags := 25, slot := 13, constantValue := 0 }, { name := "T_DOUBLE", type := .int, accessFlags := 25, slot := 14, constantValue := 0 }, { name := "T_BYTE", type := .int, accessFlags := 25, slot := 15, constantValue := 0 }, { name := "T_SHORT", type := .int, accessFlags := 25, slot := 16, constantValue := 0 }, { name := "T_INT", type := .int, accessFlags := 25, slot := 17, constantValue := 0 }, { name := "T_LONG", type := .int, accessFlags := 25, slot := 18, constantValue := 0 }, { name := "JLA", type := (.object "jdk/internal/access/JavaLangAccess"), accessFlags := 26, slot := 19, constantValue := 0 }, { name := "SOFT_MAX_ARRAY_LENGTH", type := .int, accessFlags := 25, slot := 20, constantValue := 0 }]
  methods := #[k15m0]
  instanceTypes := #[]
  staticTypes := #[(.object "jdk/internal/misc/Unsafe"), .boolean, .int, .int, .int, .int, .int, .int, .int, .int, .int, .int, .int, .int, .int, .int, .int, .int, .int, (.object "jdk/internal/access/JavaLangAccess"), .int]
  resolved := Array.replicate 378 none
  statics := none }

def pool16 : Array CpInfo := pool [(1, u "java/lang/Cloneable"), (0, .class_ 1), (0, u "java/lang/Object"), (0, .class_ 3)] 3

/-- java/lang/Cloneable -/
def k16 : Class := { plain "java/lang/Cloneable" (some 0) with
  accessFlags := 1537
  interfaces := #[]
  cf := some (fileOf pool16 2 #[] #[] 1537 4 #[] #[])
  fields := #[]
  methods := #[]
  instanceTypes := #[]
  staticTypes := #[]
  resolved := Array.replicate 8 none
  statics := none }

/-- the primitive byte -/
def k17 : Class := { plain "byte" none with kind := .primitive 'B', accessFlags := 0x411 }
/-- [B -/
def k18 : Class := { plain "[B" (some 0) with kind := .array 17 .byte, interfaces := #[16, 2], accessFlags := 1041 }

/-- the primitive char -/
def k19 : Class := { plain "char" none with kind := .primitive 'C', accessFlags := 0x411 }
/-- [C -/
def k20 : Class := { plain "[C" (some 0) with kind := .array 19 .char, interfaces := #[16, 2], accessFlags := 1041 }

def heap : Heap := #[{ cls := 7, slots := #[.long 0, .int 1, .null, .int 0, .null, .int 0, .int 0], vm := .statics 7 },
  { cls := 9, slots := #[.null, .null, .null], vm := .statics 9 },
  { cls := 10, slots := #[.int 0, .int 8, .int 0, .int 1], vm := .statics 10 }]
def classes : Array Class := #[k0, k1, k2, k3, k4, k5, k6, k7, k8, k9, k10, k11, k12, k13, k14, k15, k16, k17, k18, k19, k20]
def interned : List (Array UInt16 × Addr) := []
def slotsUsed : Nat := 14
def theMethod : MethodId := ⟨1, 3⟩
def args0 : Array Value := #[.int 5, .int 6, .int 77, .int 19, .int 4]
def aboutOver (below : List Frame) : State where
  vm := { classes := classes, interned := interned.toArray }
  heap := heap
  slotsUsed := slotsUsed
  threads := #[{ frames := .invoking theMethod args0 :: below }]
def below0 : List Frame := [.native { method := ⟨0, 0⟩, args := #[] }]
def about1 : State := aboutOver below0
def p0 : Program := .bare "" "" ""
def e0 : Env := launch0.env 0 0 0
theorem w_frames : about1.frames = Frame.invoking theMethod args0 :: below0 := rfl
set_option maxRecDepth 65536 in
theorem w_args : argsFit about1.vm theMethod args0 = true := by decide +kernel
set_option maxRecDepth 65536 in
theorem w_heap : heapFits about1 = true := by decide +kernel
set_option maxRecDepth 65536 in
theorem w_runnable : about1.curStatus? = some .runnable := by decide +kernel
set_option maxRecDepth 65536 in
theorem w_alone : about1.alone = true := by decide +kernel
set_option maxRecDepth 65536 in
theorem w_named : about1.methodNamed? x = some theMethod := by decide +kernel
set_option maxRecDepth 65536 in
theorem w_hears : about1.hears theMethod below0 = true := by decide +kernel
set_option maxRecDepth 65536 in
theorem w_ripe : about1.ripe theMethod args0 below0 = true := by decide +kernel
theorem w_running : about1.status = .running := rfl
set_option maxRecDepth 65536 in
theorem w_room : about1.hasRoom e0.platform room_1 = true :=
  launch0.hasRoom_least _ room_1 (by decide +kernel) (by decide +kernel) (by decide +kernel) (by decide +kernel) (by decide +kernel) (by decide +kernel)
theorem allAtoms_all (ts : List Jvm.Cond) (a : Array Jvm.Value) (st : Jvm.State) : (allAtoms ts).before a st = ts.all (fun c => c.before a st) := by
  induction ts with
  | nil => rfl
  | cons c t ih =>
    show (Jvm.Cond.and c (allAtoms t)).before a st = _
    rw [Jvm.Cond.before_and, ih, List.all_cons]
def words1 : List Jvm.Cond := Jvm.Cond.code x code maxLocals ret :: tables_1
/-- a 'code' word, met by the world's own term for the bytes: nothing is compared byte by byte -/
theorem code_word {y : MethodName} {bytes : ByteArray} {mx : Nat} {rt : Option FieldType} {a : Array Value} {s : State} {m : MethodId} {meth : Method} {c : Code} (h1 : s.methodNamed? y = some m) (h2 : s.vm.method? m = some meth) (h3 : meth.code = some c) (h4 : c.code = bytes)
    (h5 : (c.maxLocals == mx && c.exceptionTable.isEmpty && decide (c.maxStack ≤ mostOperands) && decide (meth.sig.returnType = rt) && !meth.locks && decide (parseMethodDescriptor y.desc = some meth.sig)) = true) : (Jvm.Cond.code y bytes mx rt).before a s = true := by
  simp only [Bool.and_eq_true, beq_iff_eq, Bool.not_eq_true', decide_eq_true_eq] at h5
  obtain ⟨⟨⟨⟨⟨g1, g2⟩, g3⟩, g4⟩, g5⟩, g6⟩ := h5
  simp [Cond.before, Cond.holds, Cond.value, h1, h2, h3, h4, g1, g2, g3, g4, g5, g6]
def isCode : Jvm.Cond → Bool
  | .code _ _ _ _ => true
  | _ => false
theorem all_split {L : List Jvm.Cond} {P : Jvm.Cond → Bool} (h1 : L.all (fun c => isCode c || P c) = true) (h2 : ∀ c ∈ L.filter isCode, P c = true) : L.all P = true := by
  refine List.all_eq_true.mpr fun c hc => ?_
  have h := List.all_eq_true.mp h1 c hc
  rcases Bool.eq_false_or_eq_true (isCode c) with hi | hi
  · exact h2 c (List.mem_filter.mpr ⟨hc, hi⟩)
  · simpa [hi] using h
set_option maxRecDepth 65536 in
theorem w_c0 : (Jvm.Cond.code x code maxLocals ret).before args0 about1 = true := code_word (m := ⟨1, 3⟩) (meth := k1m3) (c := k1c3) (by decide +kernel) rfl rfl rfl (by decide +kernel)
set_option maxRecDepth 65536 in
theorem w_c1 : (Jvm.Cond.code ({ cls := "com/example/tinsel_tally/tinseltally/BlanksStripPinLaw", name := "draw", desc := "(I)C" } : Jvm.MethodName) method_2_code (3 : Nat) (Option.some Jvm.ClassFile.FieldType.char)).before args0 about1 = true := code_word (m := ⟨1, 1⟩) (meth := k1m1) (c := k1c1) (by decide +kernel) rfl rfl rfl (by decide +kernel)
set_option maxRecDepth 65536 in
theorem w_c2 : (Jvm.Cond.code ({ cls := "java/lang/String", name := "<init>", desc := "([C)V" } : Jvm.MethodName) jdk_42_method_3_code (2 : Nat) (Option.none : Option Jvm.ClassFile.FieldType)).before args0 about1 = true := code_word (m := ⟨7, 1⟩) (meth := k7m1) (c := k7c1) (by decide +kernel) rfl rfl rfl (by decide +kernel)
set_option maxRecDepth 65536 in
theorem w_c3 : (Jvm.Cond.code ({ cls := "java/lang/String", name := "<init>", desc := "([CIILjava/lang/Void;)V" } : Jvm.MethodName) jdk_42_method_149_code (6 : Nat) (Option.none : Option Jvm.ClassFile.FieldType)).before args0 about1 = true := code_word (m := ⟨7, 5⟩) (meth := k7m5) (c := k7c5) (by decide +kernel) rfl rfl rfl (by decide +kernel)
set_option maxRecDepth 65536 in
theorem w_c4 : (Jvm.Cond.code ({ cls := "java/lang/Object", name := "<init>", desc := "()V" } : Jvm.MethodName) object_method_1_code (1 : Nat) (Option.none : Option Jvm.ClassFile.FieldType)).before args0 about1 = true := code_word (m := ⟨0, 0⟩) (meth := k0m0) (c := k0c0) (by decide +kernel) rfl rfl rfl (by decide +kernel)
set_option maxRecDepth 65536 in
theorem w_c5 : (Jvm.Cond.code ({ cls := "com/example/tinsel_tally/tinseltally/Blanks", name := "strip", desc := "(Ljava/lang/String;)Ljava/lang/String;" } : Jvm.MethodName) prog_3_method_2_code (3 : Nat) (Option.some (Jvm.ClassFile.FieldType.object "java/lang/String"))).before args0 about1 = true := code_word (m := ⟨8, 1⟩) (meth := k8m1) (c := k8c1) (by decide +kernel) rfl rfl rfl (by decide +kernel)
set_option maxRecDepth 65536 in
theorem w_c6 : (Jvm.Cond.code ({ cls := "java/lang/String", name := "length", desc := "()I" } : Jvm.MethodName) jdk_42_method_54_code (1 : Nat) (Option.some Jvm.ClassFile.FieldType.int)).before args0 about1 = true := code_word (m := ⟨7, 2⟩) (meth := k7m2) (c := k7c2) (by decide +kernel) rfl rfl rfl (by decide +kernel)
set_option maxRecDepth 65536 in
theorem w_c7 : (Jvm.Cond.code ({ cls := "java/lang/String", name := "coder", desc := "()B" } : Jvm.MethodName) jdk_42_method_152_code (1 : Nat) (Option.some Jvm.ClassFile.FieldType.byte)).before args0 about1 = true := code_word (m := ⟨7, 7⟩) (meth := k7m7) (c := k7c7) (by decide +kernel) rfl rfl rfl (by decide +kernel)
set_option maxRecDepth 65536 in
theorem w_c8 : (Jvm.Cond.code ({ cls := "java/lang/String", name := "substring", desc := "(II)Ljava/lang/String;" } : Jvm.MethodName) jdk_42_method_92_code (5 : Nat) (Option.some (Jvm.ClassFile.FieldType.object "java/lang/String"))).before args0 about1 = true := code_word (m := ⟨7, 4⟩) (meth := k7m4) (c := k7c4) (by decide +kernel) rfl rfl rfl (by decide +kernel)
set_option maxRecDepth 65536 in
theorem w_c9 : (Jvm.Cond.code ({ cls := "java/lang/String", name := "checkBoundsBeginEnd", desc := "(III)V" } : Jvm.MethodName) jdk_42_method_158_code (3 : Nat) (Option.none : Option Jvm.ClassFile.FieldType)).before args0 about1 = true := code_word (m := ⟨7, 11⟩) (meth := k7m11) (c := k7c11) (by decide +kernel) rfl rfl rfl (by decide +kernel)
set_option maxRecDepth 65536 in
theorem w_c10 : (Jvm.Cond.code ({ cls := "jdk/internal/util/Preconditions", name := "checkFromToIndex", desc := "(IIILjava/util/function/BiFunction;)I" } : Jvm.MethodName) jdk_41_method_12_code (4 : Nat) (Option.some Jvm.ClassFile.FieldType.int)).before args0 about1 = true := code_word (m := ⟨9, 2⟩) (meth := k9m2) (c := k9c2) (by decide +kernel) rfl rfl rfl (by decide +kernel)
set_option maxRecDepth 65536 in
theorem w_c11 : (Jvm.Cond.code ({ cls := "java/lang/StringUTF16", name := "compress", desc := "([CII)[B" } : Jvm.MethodName) jdk_52_method_16_code (6 : Nat) (Option.some (Jvm.ClassFile.FieldType.array Jvm.ClassFile.FieldType.byte))).before args0 about1 = true := code_word (m := ⟨10, 8⟩) (meth := k10m8) (c := k10c8) (by decide +kernel) rfl rfl rfl (by decide +kernel)
set_option maxRecDepth 65536 in
theorem w_c12 : (Jvm.Cond.code ({ cls := "java/lang/StringUTF16", name := "compress", desc := "([CI[BII)I" } : Jvm.MethodName) jdk_52_method_21_code (7 : Nat) (Option.some Jvm.ClassFile.FieldType.int)).before args0 about1 = true := code_word (m := ⟨10, 10⟩) (meth := k10m10) (c := k10c10) (by decide +kernel) rfl rfl rfl (by decide +kernel)
set_option maxRecDepth 65536 in
theorem w_c13 : (Jvm.Cond.code ({ cls := "java/lang/StringUTF16", name := "coderFromArrayLen", desc := "([BI)B" } : Jvm.MethodName) jdk_52_method_15_code (2 : Nat) (Option.some Jvm.ClassFile.FieldType.byte)).before args0 about1 = true := code_word (m := ⟨10, 7⟩) (meth := k10m7) (c := k10c7) (by decide +kernel) rfl rfl rfl (by decide +kernel)
set_option maxRecDepth 65536 in
theorem w_c14 : (Jvm.Cond.code ({ cls := "com/example/tinsel_tally/tinseltally/BlanksStripPinLaw", name := "blank", desc := "(C)Z" } : Jvm.MethodName) method_3_code (1 : Nat) (Option.some Jvm.ClassFile.FieldType.boolean)).before args0 about1 = true := code_word (m := ⟨1, 2⟩) (meth := k1m2) (c := k1c2) (by decide +kernel) rfl rfl rfl (by decide +kernel)
set_option maxRecDepth 65536 in
theorem w_c15 : (Jvm.Cond.code ({ cls := "java/lang/String", name := "charAt", desc := "(I)C" } : Jvm.MethodName) jdk_42_method_56_code (2 : Nat) (Option.some Jvm.ClassFile.FieldType.char)).before args0 about1 = true := code_word (m := ⟨7, 3⟩) (meth := k7m3) (c := k7c3) (by decide +kernel) rfl rfl rfl (by decide +kernel)
set_option maxRecDepth 65536 in
theorem w_c16 : (Jvm.Cond.code ({ cls := "java/lang/String", name := "isLatin1", desc := "()Z" } : Jvm.MethodName) jdk_42_method_154_code (1 : Nat) (Option.some Jvm.ClassFile.FieldType.boolean)).before args0 about1 = true := code_word (m := ⟨7, 8⟩) (meth := k7m8) (c := k7c8) (by decide +kernel) rfl rfl rfl (by decide +kernel)
set_option maxRecDepth 65536 in
theorem w_c17 : (Jvm.Cond.code ({ cls := "java/lang/StringLatin1", name := "charAt", desc := "([BI)C" } : Jvm.MethodName) jdk_43_method_2_code (2 : Nat) (Option.some Jvm.ClassFile.FieldType.char)).before args0 about1 = true := code_word (m := ⟨11, 1⟩) (meth := k11m1) (c := k11c1) (by decide +kernel) rfl rfl rfl (by decide +kernel)
set_option maxRecDepth 65536 in
theorem w_c18 : (Jvm.Cond.code ({ cls := "java/lang/String", name := "checkIndex", desc := "(II)V" } : Jvm.MethodName) jdk_42_method_155_code (2 : Nat) (Option.none : Option Jvm.ClassFile.FieldType)).before args0 about1 = true := code_word (m := ⟨7, 9⟩) (meth := k7m9) (c := k7c9) (by decide +kernel) rfl rfl rfl (by decide +kernel)
set_option maxRecDepth 65536 in
theorem w_c19 : (Jvm.Cond.code ({ cls := "jdk/internal/util/Preconditions", name := "checkIndex", desc := "(IILjava/util/function/BiFunction;)I" } : Jvm.MethodName) jdk_41_method_11_code (3 : Nat) (Option.some Jvm.ClassFile.FieldType.int)).before args0 about1 = true := code_word (m := ⟨9, 1⟩) (meth := k9m1) (c := k9c1) (by decide +kernel) rfl rfl rfl (by decide +kernel)
set_option maxRecDepth 65536 in
theorem w_c20 : (Jvm.Cond.code ({ cls := "com/example/tinsel_tally/tinseltally/Blanks", name := "isBlank", desc := "(C)Z" } : Jvm.MethodName) prog_3_method_3_code (1 : Nat) (Option.some Jvm.ClassFile.FieldType.boolean)).before args0 about1 = true := code_word (m := ⟨8, 2⟩) (meth := k8m2) (c := k8c2) (by decide +kernel) rfl rfl rfl (by decide +kernel)
set_option maxRecDepth 65536 in
theorem w_c21 : (Jvm.Cond.code ({ cls := "java/lang/StringLatin1", name := "newString", desc := "([BII)Ljava/lang/String;" } : Jvm.MethodName) jdk_43_method_47_code (3 : Nat) (Option.some (Jvm.ClassFile.FieldType.object "java/lang/String"))).before args0 about1 = true := code_word (m := ⟨11, 2⟩) (meth := k11m2) (c := k11c2) (by decide +kernel) rfl rfl rfl (by decide +kernel)
set_option maxRecDepth 65536 in
theorem w_c22 : (Jvm.Cond.code ({ cls := "java/util/Arrays", name := "copyOfRange", desc := "([BII)[B" } : Jvm.MethodName) jdk_65_method_132_code (3 : Nat) (Option.some (Jvm.ClassFile.FieldType.array Jvm.ClassFile.FieldType.byte))).before args0 about1 = true := code_word (m := ⟨12, 2⟩) (meth := k12m2) (c := k12c2) (by decide +kernel) rfl rfl rfl (by decide +kernel)
set_option maxRecDepth 65536 in
theorem w_c23 : (Jvm.Cond.code ({ cls := "java/util/Arrays", name := "copyOfRangeByte", desc := "([BII)[B" } : Jvm.MethodName) jdk_65_method_133_code (5 : Nat) (Option.some (Jvm.ClassFile.FieldType.array Jvm.ClassFile.FieldType.byte))).before args0 about1 = true := code_word (m := ⟨12, 3⟩) (meth := k12m3) (c := k12c3) (by decide +kernel) rfl rfl rfl (by decide +kernel)
set_option maxRecDepth 65536 in
theorem w_c24 : (Jvm.Cond.code ({ cls := "java/util/Arrays", name := "checkLength", desc := "(II)V" } : Jvm.MethodName) jdk_65_method_131_code (2 : Nat) (Option.none : Option Jvm.ClassFile.FieldType)).before args0 about1 = true := code_word (m := ⟨12, 1⟩) (meth := k12m1) (c := k12c1) (by decide +kernel) rfl rfl rfl (by decide +kernel)
set_option maxRecDepth 65536 in
theorem w_c25 : (Jvm.Cond.code ({ cls := "java/lang/Math", name := "min", desc := "(II)I" } : Jvm.MethodName) jdk_29_method_69_code (2 : Nat) (Option.some Jvm.ClassFile.FieldType.int)).before args0 about1 = true := code_word (m := ⟨13, 1⟩) (meth := k13m1) (c := k13c1) (by decide +kernel) rfl rfl rfl (by decide +kernel)
set_option maxRecDepth 65536 in
theorem w_c26 : (Jvm.Cond.code ({ cls := "java/lang/String", name := "<init>", desc := "([BB)V" } : Jvm.MethodName) jdk_42_method_151_code (3 : Nat) (Option.none : Option Jvm.ClassFile.FieldType)).before args0 about1 = true := code_word (m := ⟨7, 6⟩) (meth := k7m6) (c := k7c6) (by decide +kernel) rfl rfl rfl (by decide +kernel)
set_option maxRecDepth 65536 in
theorem w_c27 : (Jvm.Cond.code ({ cls := "java/lang/StringUTF16", name := "toBytes", desc := "([CII)[B" } : Jvm.MethodName) jdk_52_method_14_code (5 : Nat) (Option.some (Jvm.ClassFile.FieldType.array Jvm.ClassFile.FieldType.byte))).before args0 about1 = true := code_word (m := ⟨10, 6⟩) (meth := k10m6) (c := k10c6) (by decide +kernel) rfl rfl rfl (by decide +kernel)
set_option maxRecDepth 65536 in
theorem w_c28 : (Jvm.Cond.code ({ cls := "java/lang/StringUTF16", name := "newBytesFor", desc := "(I)[B" } : Jvm.MethodName) jdk_52_method_2_code (1 : Nat) (Option.some (Jvm.ClassFile.FieldType.array Jvm.ClassFile.FieldType.byte))).before args0 about1 = true := code_word (m := ⟨10, 1⟩) (meth := k10m1) (c := k10c1) (by decide +kernel) rfl rfl rfl (by decide +kernel)
set_option maxRecDepth 65536 in
theorem w_c29 : (Jvm.Cond.code ({ cls := "java/lang/StringUTF16", name := "newBytesLength", desc := "(I)I" } : Jvm.MethodName) jdk_52_method_3_code (1 : Nat) (Option.some Jvm.ClassFile.FieldType.int)).before args0 about1 = true := code_word (m := ⟨10, 2⟩) (meth := k10m2) (c := k10c2) (by decide +kernel) rfl rfl rfl (by decide +kernel)
set_option maxRecDepth 65536 in
theorem w_c30 : (Jvm.Cond.code ({ cls := "java/lang/StringUTF16", name := "putChar", desc := "([BII)V" } : Jvm.MethodName) jdk_52_method_4_code (3 : Nat) (Option.none : Option Jvm.ClassFile.FieldType)).before args0 about1 = true := code_word (m := ⟨10, 3⟩) (meth := k10m3) (c := k10c3) (by decide +kernel) rfl rfl rfl (by decide +kernel)
set_option maxRecDepth 65536 in
theorem w_c31 : (Jvm.Cond.code ({ cls := "java/lang/StringUTF16", name := "getChar", desc := "([BI)C" } : Jvm.MethodName) jdk_52_method_5_code (2 : Nat) (Option.some Jvm.ClassFile.FieldType.char)).before args0 about1 = true := code_word (m := ⟨10, 4⟩) (meth := k10m4) (c := k10c4) (by decide +kernel) rfl rfl rfl (by decide +kernel)
set_option maxRecDepth 65536 in
theorem w_c32 : (Jvm.Cond.code ({ cls := "java/lang/StringUTF16", name := "charAt", desc := "([BI)C" } : Jvm.MethodName) jdk_52_method_83_code (2 : Nat) (Option.some Jvm.ClassFile.FieldType.char)).before args0 about1 = true := code_word (m := ⟨10, 13⟩) (meth := k10m13) (c := k10c13) (by decide +kernel) rfl rfl rfl (by decide +kernel)
set_option maxRecDepth 65536 in
theorem w_c33 : (Jvm.Cond.code ({ cls := "java/lang/StringUTF16", name := "checkIndex", desc := "(I[B)V" } : Jvm.MethodName) jdk_52_method_91_code (2 : Nat) (Option.none : Option Jvm.ClassFile.FieldType)).before args0 about1 = true := code_word (m := ⟨10, 14⟩) (meth := k10m14) (c := k10c14) (by decide +kernel) rfl rfl rfl (by decide +kernel)
set_option maxRecDepth 65536 in
theorem w_c34 : (Jvm.Cond.code ({ cls := "java/lang/StringUTF16", name := "length", desc := "([B)I" } : Jvm.MethodName) jdk_52_method_6_code (1 : Nat) (Option.some Jvm.ClassFile.FieldType.int)).before args0 about1 = true := code_word (m := ⟨10, 5⟩) (meth := k10m5) (c := k10c5) (by decide +kernel) rfl rfl rfl (by decide +kernel)
set_option maxRecDepth 65536 in
theorem w_c35 : (Jvm.Cond.code ({ cls := "java/lang/StringUTF16", name := "newString", desc := "([BII)Ljava/lang/String;" } : Jvm.MethodName) jdk_52_method_69_code (5 : Nat) (Option.some (Jvm.ClassFile.FieldType.object "java/lang/String"))).before args0 about1 = true := code_word (m := ⟨10, 12⟩) (meth := k10m12) (c := k10c12) (by decide +kernel) rfl rfl rfl (by decide +kernel)
set_option maxRecDepth 65536 in
theorem w_c36 : (Jvm.Cond.code ({ cls := "java/lang/StringUTF16", name := "compress", desc := "([BII)[B" } : Jvm.MethodName) jdk_52_method_17_code (6 : Nat) (Option.some (Jvm.ClassFile.FieldType.array Jvm.ClassFile.FieldType.byte))).before args0 about1 = true := code_word (m := ⟨10, 9⟩) (meth := k10m9) (c := k10c9) (by decide +kernel) rfl rfl rfl (by decide +kernel)
set_option maxRecDepth 65536 in
theorem w_c37 : (Jvm.Cond.code ({ cls := "java/lang/StringUTF16", name := "compress", desc := "([BI[BII)I" } : Jvm.MethodName) jdk_52_method_22_code (7 : Nat) (Option.some Jvm.ClassFile.FieldType.int)).before args0 about1 = true := code_word (m := ⟨10, 11⟩) (meth := k10m11) (c := k10c11) (by decide +kernel) rfl rfl rfl (by decide +kernel)
set_option maxRecDepth 65536 in
theorem w_c38 : (Jvm.Cond.code ({ cls := "java/lang/StringUTF16", name := "checkBoundsOffCount", desc := "(II[B)V" } : Jvm.MethodName) jdk_52_method_94_code (3 : Nat) (Option.none : Option Jvm.ClassFile.FieldType)).before args0 about1 = true := code_word (m := ⟨10, 15⟩) (meth := k10m15) (c := k10c15) (by decide +kernel) rfl rfl rfl (by decide +kernel)
set_option maxRecDepth 65536 in
theorem w_c39 : (Jvm.Cond.code ({ cls := "java/lang/String", name := "checkBoundsOffCount", desc := "(III)I" } : Jvm.MethodName) jdk_42_method_157_code (3 : Nat) (Option.some Jvm.ClassFile.FieldType.int)).before args0 about1 = true := code_word (m := ⟨7, 10⟩) (meth := k7m10) (c := k7c10) (by decide +kernel) rfl rfl rfl (by decide +kernel)
set_option maxRecDepth 65536 in
theorem w_c40 : (Jvm.Cond.code ({ cls := "jdk/internal/util/Preconditions", name := "checkFromIndexSize", desc := "(IIILjava/util/function/BiFunction;)I" } : Jvm.MethodName) jdk_41_method_13_code (4 : Nat) (Option.some Jvm.ClassFile.FieldType.int)).before args0 about1 = true := code_word (m := ⟨9, 3⟩) (meth := k9m3) (c := k9c3) (by decide +kernel) rfl rfl rfl (by decide +kernel)
def codes1 : List Jvm.Cond := [Jvm.Cond.code x code maxLocals ret, Jvm.Cond.code ({ cls := "com/example/tinsel_tally/tinseltally/BlanksStripPinLaw", name := "draw", desc := "(I)C" } : Jvm.MethodName) method_2_code (3 : Nat) (Option.some Jvm.ClassFile.FieldType.char), Jvm.Cond.code ({ cls := "java/lang/String", name := "<init>", desc := "([C)V" } : Jvm.MethodName) jdk_42_method_3_code (2 : Nat) (Option.none : Option Jvm.ClassFile.FieldType), Jvm.Cond.code ({ cls := "java/lang/String", name := "<init>", desc := "([CIILjava/lang/Void;)V" } : Jvm.MethodName) jdk_42_method_149_code (6 : Nat) (Option.none : Option Jvm.ClassFile.FieldType), Jvm.Cond.code ({ cls := "java/lang/Object", name := "<init>", desc := "()V" } : Jvm.MethodName) object_method_1_code (1 : Nat) (Option.none : Option Jvm.ClassFile.FieldType), Jvm.Cond.code ({ cls := "com/example/tinsel_tally/tinseltally/Blanks", name := "strip", desc := "(Ljava/lang/String;)Ljava/lang/String;" } : Jvm.MethodName) prog_3_method_2_code (3 : Nat) (Option.some (Jvm.ClassFile.FieldType.object "java/lang/String")), Jvm.Cond.code ({ cls := "java/lang/String", name := "length", desc := "()I" } : Jvm.MethodName) jdk_42_method_54_code (1 : Nat) (Option.some Jvm.ClassFile.FieldType.int), Jvm.Cond.code ({ cls := "java/lang/String", name := "coder", desc := "()B" } : Jvm.MethodName) jdk_42_method_152_code (1 : Nat) (Option.some Jvm.ClassFile.FieldType.byte), Jvm.Cond.code ({ cls := "java/lang/String", name := "substring", desc := "(II)Ljava/lang/String;" } : Jvm.MethodName) jdk_42_method_92_code (5 : Nat) (Option.some (Jvm.ClassFile.FieldType.object "java/lang/String")), Jvm.Cond.code ({ cls := "java/lang/String", name := "checkBoundsBeginEnd", desc := "(III)V" } : Jvm.MethodName) jdk_42_method_158_code (3 : Nat) (Option.none : Option Jvm.ClassFile.FieldType), Jvm.Cond.code ({ cls := "jdk/internal/util/Preconditions", name := "checkFromToIndex", desc := "(IIILjava/util/function/BiFunction;)I" } : Jvm.MethodName) jdk_41_method_12_code (4 : Nat) (Option.some Jvm.ClassFile.FieldType.int), Jvm.Cond.code ({ cls := "java/lang/StringUTF16", name := "compress", desc := "([CII)[B" } : Jvm.MethodName) jdk_52_method_16_code (6 : Nat) (Option.some (Jvm.ClassFile.FieldType.array Jvm.ClassFile.FieldType.byte)), Jvm.Cond.code ({ cls := "java/lang/StringUTF16", name := "compress", desc := "([CI[BII)I" } : Jvm.MethodName) jdk_52_method_21_code (7 : Nat) (Option.some Jvm.ClassFile.FieldType.int), Jvm.Cond.code ({ cls := "java/lang/StringUTF16", name := "coderFromArrayLen", desc := "([BI)B" } : Jvm.MethodName) jdk_52_method_15_code (2 : Nat) (Option.some Jvm.ClassFile.FieldType.byte), Jvm.Cond.code ({ cls := "com/example/tinsel_tally/tinseltally/BlanksStripPinLaw", name := "blank", desc := "(C)Z" } : Jvm.MethodName) method_3_code (1 : Nat) (Option.some Jvm.ClassFile.FieldType.boolean), Jvm.Cond.code ({ cls := "java/lang/String", name := "charAt", desc := "(I)C" } : Jvm.MethodName) jdk_42_method_56_code (2 : Nat) (Option.some Jvm.ClassFile.FieldType.char), Jvm.Cond.code ({ cls := "java/lang/String", name := "isLatin1", desc := "()Z" } : Jvm.MethodName) jdk_42_method_154_code (1 : Nat) (Option.some Jvm.ClassFile.FieldType.boolean), Jvm.Cond.code ({ cls := "java/lang/StringLatin1", name := "charAt", desc := "([BI)C" } : Jvm.MethodName) jdk_43_method_2_code (2 : Nat) (Option.some Jvm.ClassFile.FieldType.char), Jvm.Cond.code ({ cls := "java/lang/String", name := "checkIndex", desc := "(II)V" } : Jvm.MethodName) jdk_42_method_155_code (2 : Nat) (Option.none : Option Jvm.ClassFile.FieldType), Jvm.Cond.code ({ cls := "jdk/internal/util/Preconditions", name := "checkIndex", desc := "(IILjava/util/function/BiFunction;)I" } : Jvm.MethodName) jdk_41_method_11_code (3 : Nat) (Option.some Jvm.ClassFile.FieldType.int), Jvm.Cond.code ({ cls := "com/example/tinsel_tally/tinseltally/Blanks", name := "isBlank", desc := "(C)Z" } : Jvm.MethodName) prog_3_method_3_code (1 : Nat) (Option.some Jvm.ClassFile.FieldType.boolean), Jvm.Cond.code ({ cls := "java/lang/StringLatin1", name := "newString", desc := "([BII)Ljava/lang/String;" } : Jvm.MethodName) jdk_43_method_47_code (3 : Nat) (Option.some (Jvm.ClassFile.FieldType.object "java/lang/String")), Jvm.Cond.code ({ cls := "java/util/Arrays", name := "copyOfRange", desc := "([BII)[B" } : Jvm.MethodName) jdk_65_method_132_code (3 : Nat) (Option.some (Jvm.ClassFile.FieldType.array Jvm.ClassFile.FieldType.byte)), Jvm.Cond.code ({ cls := "java/util/Arrays", name := "copyOfRangeByte", desc := "([BII)[B" } : Jvm.MethodName) jdk_65_method_133_code (5 : Nat) (Option.some (Jvm.ClassFile.FieldType.array Jvm.ClassFile.FieldType.byte)), Jvm.Cond.code ({ cls := "java/util/Arrays", name := "checkLength", desc := "(II)V" } : Jvm.MethodName) jdk_65_method_131_code (2 : Nat) (Option.none : Option Jvm.ClassFile.FieldType), Jvm.Cond.code ({ cls := "java/lang/Math", name := "min", desc := "(II)I" } : Jvm.MethodName) jdk_29_method_69_code (2 : Nat) (Option.some Jvm.ClassFile.FieldType.int), Jvm.Cond.code ({ cls := "java/lang/String", name := "<init>", desc := "([BB)V" } : Jvm.MethodName) jdk_42_method_151_code (3 : Nat) (Option.none : Option Jvm.ClassFile.FieldType), Jvm.Cond.code ({ cls := "java/lang/StringUTF16", name := "toBytes", desc := "([CII)[B" } : Jvm.MethodName) jdk_52_method_14_code (5 : Nat) (Option.some (Jvm.ClassFile.FieldType.array Jvm.ClassFile.FieldType.byte)), Jvm.Cond.code ({ cls := "java/lang/StringUTF16", name := "newBytesFor", desc := "(I)[B" } : Jvm.MethodName) jdk_52_method_2_code (1 : Nat) (Option.some (Jvm.ClassFile.FieldType.array Jvm.ClassFile.FieldType.byte)), Jvm.Cond.code ({ cls := "java/lang/StringUTF16", name := "newBytesLength", desc := "(I)I" } : Jvm.MethodName) jdk_52_method_3_code (1 : Nat) (Option.some Jvm.ClassFile.FieldType.int), Jvm.Cond.code ({ cls := "java/lang/StringUTF16", name := "putChar", desc := "([BII)V" } : Jvm.MethodName) jdk_52_method_4_code (3 : Nat) (Option.none : Option Jvm.ClassFile.FieldType), Jvm.Cond.code ({ cls := "java/lang/StringUTF16", name := "getChar", desc := "([BI)C" } : Jvm.MethodName) jdk_52_method_5_code (2 : Nat) (Option.some Jvm.ClassFile.FieldType.char), Jvm.Cond.code ({ cls := "java/lang/StringUTF16", name := "charAt", desc := "([BI)C" } : Jvm.MethodName) jdk_52_method_83_code (2 : Nat) (Option.some Jvm.ClassFile.FieldType.char), Jvm.Cond.code ({ cls := "java/lang/StringUTF16", name := "checkIndex", desc := "(I[B)V" } : Jvm.MethodName) jdk_52_method_91_code (2 : Nat) (Option.none : Option Jvm.ClassFile.FieldType), Jvm.Cond.code ({ cls := "java/lang/StringUTF16", name := "length", desc := "([B)I" } : Jvm.MethodName) jdk_52_method_6_code (1 : Nat) (Option.some Jvm.ClassFile.FieldType.int), Jvm.Cond.code ({ cls := "java/lang/StringUTF16", name := "newString", desc := "([BII)Ljava/lang/String;" } : Jvm.MethodName) jdk_52_method_69_code (5 : Nat) (Option.some (Jvm.ClassFile.FieldType.object "java/lang/String")), Jvm.Cond.code ({ cls := "java/lang/StringUTF16", name := "compress", desc := "([BII)[B" } : Jvm.MethodName) jdk_52_method_17_code (6 : Nat) (Option.some (Jvm.ClassFile.FieldType.array Jvm.ClassFile.FieldType.byte)), Jvm.Cond.code ({ cls := "java/lang/StringUTF16", name := "compress", desc := "([BI[BII)I" } : Jvm.MethodName) jdk_52_method_22_code (7 : Nat) (Option.some Jvm.ClassFile.FieldType.int), Jvm.Cond.code ({ cls := "java/lang/StringUTF16", name := "checkBoundsOffCount", desc := "(II[B)V" } : Jvm.MethodName) jdk_52_method_94_code (3 : Nat) (Option.none : Option Jvm.ClassFile.FieldType), Jvm.Cond.code ({ cls := "java/lang/String", name := "checkBoundsOffCount", desc := "(III)I" } : Jvm.MethodName) jdk_42_method_157_code (3 : Nat) (Option.some Jvm.ClassFile.FieldType.int), Jvm.Cond.code ({ cls := "jdk/internal/util/Preconditions", name := "checkFromIndexSize", desc := "(IIILjava/util/function/BiFunction;)I" } : Jvm.MethodName) jdk_41_method_13_code (4 : Nat) (Option.some Jvm.ClassFile.FieldType.int)]
set_option maxRecDepth 65536 in
theorem codes_eq : words1.filter isCode = codes1 := rfl
theorem w_codes : ∀ c ∈ words1.filter isCode, c.before args0 about1 = true := by
  rw [codes_eq]
  intro c hc
  simp only [codes1, List.mem_cons, List.not_mem_nil, or_false] at hc
  rcases hc with rfl | rfl | rfl | rfl | rfl | rfl | rfl | rfl | rfl | rfl | rfl | rfl | rfl | rfl | rfl | rfl | rfl | rfl | rfl | rfl | rfl | rfl | rfl | rfl | rfl | rfl | rfl | rfl | rfl | rfl | rfl | rfl | rfl | rfl | rfl | rfl | rfl | rfl | rfl | rfl | rfl
  · exact w_c0
  · exact w_c1
  · exact w_c2
  · exact w_c3
  · exact w_c4
  · exact w_c5
  · exact w_c6
  · exact w_c7
  · exact w_c8
  · exact w_c9
  · exact w_c10
  · exact w_c11
  · exact w_c12
  · exact w_c13
  · exact w_c14
  · exact w_c15
  · exact w_c16
  · exact w_c17
  · exact w_c18
  · exact w_c19
  · exact w_c20
  · exact w_c21
  · exact w_c22
  · exact w_c23
  · exact w_c24
  · exact w_c25
  · exact w_c26
  · exact w_c27
  · exact w_c28
  · exact w_c29
  · exact w_c30
  · exact w_c31
  · exact w_c32
  · exact w_c33
  · exact w_c34
  · exact w_c35
  · exact w_c36
  · exact w_c37
  · exact w_c38
  · exact w_c39
  · exact w_c40
set_option maxRecDepth 65536 in
theorem w_t1 : (words1.take 24).all (fun c => isCode c || c.before args0 about1) = true := by decide +kernel
set_option maxRecDepth 65536 in
theorem w_t2 : ((words1.drop 24).take 24).all (fun c => isCode c || c.before args0 about1) = true := by decide +kernel
set_option maxRecDepth 65536 in
theorem w_t3 : (((words1.drop 24).drop 24).take 24).all (fun c => isCode c || c.before args0 about1) = true := by decide +kernel
set_option maxRecDepth 65536 in
theorem w_t4 : ((((words1.drop 24).drop 24).drop 24).take 24).all (fun c => isCode c || c.before args0 about1) = true := by decide +kernel
set_option maxRecDepth 65536 in
theorem w_t5 : (((((words1.drop 24).drop 24).drop 24).drop 24).take 24).all (fun c => isCode c || c.before args0 about1) = true := by decide +kernel
set_option maxRecDepth 65536 in
theorem w_t6 : ((((((words1.drop 24).drop 24).drop 24).drop 24).drop 24).take 24).all (fun c => isCode c || c.before args0 about1) = true := by decide +kernel
set_option maxRecDepth 65536 in
theorem w_t7 : (((((((words1.drop 24).drop 24).drop 24).drop 24).drop 24).drop 24).take 24).all (fun c => isCode c || c.before args0 about1) = true := by decide +kernel
set_option maxRecDepth 65536 in
theorem w_t8 : (((((((words1.drop 24).drop 24).drop 24).drop 24).drop 24).drop 24).drop 24).all (fun c => isCode c || c.before args0 about1) = true := by decide +kernel
theorem w_tables : (allAtoms (Jvm.Cond.code x code maxLocals ret :: tables_1)).before args0 about1 = true := by
  rw [allAtoms_all]
  show words1.all (fun c => c.before args0 about1) = true
  refine all_split ?_ w_codes
  rw [← List.take_append_drop 24 words1, List.all_append, w_t1, ← List.take_append_drop 24 (words1.drop 24), List.all_append, w_t2, ← List.take_append_drop 24 ((words1.drop 24).drop 24), List.all_append, w_t3, ← List.take_append_drop 24 (((words1.drop 24).drop 24).drop 24), List.all_append, w_t4, ← List.take_append_drop 24 ((((words1.drop 24).drop 24).drop 24).drop 24), List.all_append, w_t5, ← List.take_append_drop 24 (((((words1.drop 24).drop 24).drop 24).drop 24).drop 24), List.all_append, w_t6, ← List.take_append_drop 24 ((((((words1.drop 24).drop 24).drop 24).drop 24).drop 24).drop 24), List.all_append, w_t7, w_t8]
  rfl
set_option maxRecDepth 65536 in
theorem w_rest : rest_1_c.before args0 about1 = true := by decide +kernel
set_option maxRecDepth 65536 in
theorem w_case : (Jvm.Cond.and given_1 narrow_1).before args0 about1 = true := by decide +kernel
set_option maxRecDepth 65536 in
theorem w_consts : constsHeld consts_1 about1 := Jvm.Lit.constsHeldB_iff.mp (by decide +kernel)
theorem w_applies : (headSpec (Jvm.Cond.code x code maxLocals ret :: tables_1) room_1).applies x e0.platform about1 = true :=
  (Spec.applies_iff w_frames).mpr ⟨w_running, w_runnable, w_alone, w_named, w_hears, w_ripe, w_room, w_tables⟩
theorem atStart : AtStart classFile x code maxLocals ret World_1 tables_1 room_1 Calls_1 rest_1 Pre_1 launch0 p0 e0 about1 theMethod args0 below0 :=
  ⟨lists_1, trivial, launch0.admits_env _ _ _, launch0.least_env, fairChoices_fair.cas, fairChoices_fair.clock, w_frames, w_args, w_heap, w_applies, ⟨w_consts, trivial⟩, w_rest, w_case⟩
end start1
theorem witness_1 : WitnessClaimed_1 := ⟨start1.p0, start1.e0, start1.about1, start1.theMethod, start1.args0, start1.below0, start1.atStart⟩
end Jvm.Pilot.@@N@@
