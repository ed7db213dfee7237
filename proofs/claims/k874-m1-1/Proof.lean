import JvmDerived
import JvmDerived.Pilot.@@N@@Statement
import JvmDerived.Pilot.@@N@@Code
set_option linter.unusedVariables false
set_option linter.unusedSimpArgs false
namespace Jvm.OwnK
open Jvm Sem ClassFile Op Lib Jvm.Stand Jvm.Free Jvm.LawKit Jvm.RoadKit
section A
variable {tabs : List Jvm.Cond} {a0 : Array Value} {Z : State} {own nm : String} {code : ByteArray} {ml : Nat} {ret : Option FieldType} {p : Program} {l : Launch} {e : Env} {R : Room} {s : State} {m : MethodId} {args : Array Value} {below : List Frame} {meth : Method} {c : Code} {n0 : Nat} {T : State} {h : Heap} {k n : Nat} {Q : Option Value → Heap → Prop} {G : Outcome → State → List Loc → Prop} {pc : Nat} {ls : Array Slot} {st : List Value}
/-- what stands fast through a method's walk -/
def Cx (tabs : List Jvm.Cond) (a0 : Array Value) (Z : State) (own nm : String) (code : ByteArray) (ml : Nat) (ret : Option FieldType) (p : Program) (s : State) (m : MethodId) (meth : Method) (c : Code) : Prop :=
  p.tables.exec = Jvm.exec ∧ Z.Warmed39 s.vm ∧ c.code = code ∧ c.maxLocals = ml ∧ s.vm.findClass own = some m.cls ∧ meth.sig.returnType = ret ∧ meth.locks = false ∧ meth.name = nm ∧ ∀ d ∈ tabs, d.before a0 Z = true
/-- where the walk stands: the heap h, k cells and n slots made so far, nothing below n0 written -/
def St (p : Program) (l : Launch) (e : Env) (R : Room) (s : State) (m : MethodId) (args : Array Value) (below : List Frame) (meth : Method) (c : Code) (n0 : Nat) (T : State) (h : Heap) (k n : Nat) : Prop :=
  ∃ locs, Stand p l e R s m args below meth c T locs k n ∧ T.heap = h ∧ Fr n0 locs ∧ n0 ≤ s.heap.size
/-- from this frame the method ends, and returns what Q says -/
def Run (p : Program) (e : Env) (below : List Frame) (n0 : Nat) (Q : Option Value → Heap → Prop) (G : Outcome → State → List Loc → Prop) (m : MethodId) (T : State) (pc : Nat) (ls : Array Slot) (st : List Value) : Prop :=
  ∃ s₂ o, Steps p.tables e below (T.setTop (mkF m pc ls st)) s₂ ∧ s₂.status = .running ∧ Ended s₂ below o ∧ ∃ v L, o = .returned v ∧ (Q v s₂.heap ∧ Fr n0 L) ∧ G o s₂ L
theorem Run.step {T' : State} {pc' : Nat} {ls' : Array Slot} {st' : List Value} (f : ∀ t, Steps p.tables e below (T'.setTop (mkF m pc' ls' st')) t → Steps p.tables e below (T.setTop (mkF m pc ls st)) t) (r : Run p e below n0 Q G m T' pc' ls' st') : Run p e below n0 Q G m T pc ls st := by
  obtain ⟨s₂, o, h1, h2⟩ := r
  exact ⟨s₂, o, f _ h1, h2⟩
theorem Run.steps {T' : State} {pc' : Nat} {ls' : Array Slot} {st' : List Value} (f : Steps p.tables e below (T.setTop (mkF m pc ls st)) (T'.setTop (mkF m pc' ls' st'))) (r : Run p e below n0 Q G m T' pc' ls' st') : Run p e below n0 Q G m T pc ls st := Run.step (fun _ q => f.trans q) r
theorem Run.cast {st' : List Value} (q : st = st') (r : Run p e below n0 Q G m T pc ls st') : Run p e below n0 Q G m T pc ls st := q ▸ r
theorem St.at' (X : St p l e R s m args below meth c n0 T h k n) : Jvm.At T m c below := by obtain ⟨_, X, -⟩ := X; exact X.here
theorem St.sz (X : St p l e R s m args below meth c n0 T h k n) : n0 ≤ h.size := by
  obtain ⟨_, X, rfl, -, q⟩ := X
  exact Nat.le_trans q X.same.2.1
theorem Cx.d {r : Except DecodeError (Instr × Nat)} (C : Cx tabs a0 Z own nm code ml ret p s m meth c) (q : decode code pc = r) : decode c.code pc = r := hb C.2.2.1 q
theorem Cx.w {d : Jvm.Cond} (C : Cx tabs a0 Z own nm code ml ret p s m meth c) (q : d ∈ tabs) : d.before a0 Z = true := C.2.2.2.2.2.2.2.2 d q
theorem s_iloadN (pc' : Nat) (C : Cx tabs a0 Z own nm code ml ret p s m meth c) (X : St p l e R s m args below meth c n0 T h k n) {i : Fin 4} {v : Int32} (hd : decode code pc = .ok (.iload_n i, 1)) (hl : ls[i.val]? = some (.val (.int v))) (r : Run p e below n0 Q G m T pc' ls (.int v :: st)) (hp : pc + 1 = pc' := by rfl) : Run p e below n0 Q G m T pc ls st := by
  subst hp
  exact Run.step (fun t q => XS.iloadN X.at' C.1 rfl (C.d hd) hl q) r
theorem s_iload (pc' : Nat) (C : Cx tabs a0 Z own nm code ml ret p s m meth c) (X : St p l e R s m args below meth c n0 T h k n) {i : Nat} {v : Int32} (hd : decode code pc = .ok (.iload i, 2)) (hl : ls[i]? = some (.val (.int v))) (r : Run p e below n0 Q G m T pc' ls (.int v :: st)) (hp : pc + 2 = pc' := by rfl) : Run p e below n0 Q G m T pc ls st := by
  subst hp
  exact Run.step (fun t q => XS.iload X.at' C.1 rfl (C.d hd) hl q) r
theorem s_aloadN (pc' : Nat) (C : Cx tabs a0 Z own nm code ml ret p s m meth c) (X : St p l e R s m args below meth c n0 T h k n) {i : Fin 4} {v : Value} (hd : decode code pc = .ok (.aload_n i, 1)) (hl : ls[i.val]? = some (.val v)) (hv : v.isRef = true) (r : Run p e below n0 Q G m T pc' ls (v :: st)) (hp : pc + 1 = pc' := by rfl) : Run p e below n0 Q G m T pc ls st := by
  subst hp
  exact Run.step (fun t q => XS.aloadN X.at' C.1 rfl (C.d hd) hl hv q) r
theorem s_aload (pc' : Nat) (C : Cx tabs a0 Z own nm code ml ret p s m meth c) (X : St p l e R s m args below meth c n0 T h k n) {i : Nat} {v : Value} (hd : decode code pc = .ok (.aload i, 2)) (hl : ls[i]? = some (.val v)) (hv : v.isRef = true) (r : Run p e below n0 Q G m T pc' ls (v :: st)) (hp : pc + 2 = pc' := by rfl) : Run p e below n0 Q G m T pc ls st := by
  subst hp
  exact Run.step (fun t q => XS.aload X.at' C.1 rfl (C.d hd) hl hv q) r
theorem s_istoreN (pc' : Nat) (C : Cx tabs a0 Z own nm code ml ret p s m meth c) (X : St p l e R s m args below meth c n0 T h k n) {i : Fin 4} {v : Int32} {l' : Array Slot} (hd : decode code pc = .ok (.istore_n i, 1)) (hl : storeLocals ls i.val (.int v) = some l') (r : Run p e below n0 Q G m T pc' l' st) (hp : pc + 1 = pc' := by rfl) : Run p e below n0 Q G m T pc ls (.int v :: st) := by
  subst hp
  exact Run.step (fun t q => XS.istoreN X.at' C.1 rfl (C.d hd) rfl hl q) r
theorem s_istore (pc' : Nat) (C : Cx tabs a0 Z own nm code ml ret p s m meth c) (X : St p l e R s m args below meth c n0 T h k n) {i : Nat} {v : Int32} {l' : Array Slot} (hd : decode code pc = .ok (.istore i, 2)) (hl : storeLocals ls i (.int v) = some l') (r : Run p e below n0 Q G m T pc' l' st) (hp : pc + 2 = pc' := by rfl) : Run p e below n0 Q G m T pc ls (.int v :: st) := by
  subst hp
  exact Run.step (fun t q => XS.istore X.at' C.1 rfl (C.d hd) rfl hl q) r
theorem s_astoreN (pc' : Nat) (C : Cx tabs a0 Z own nm code ml ret p s m meth c) (X : St p l e R s m args below meth c n0 T h k n) {i : Fin 4} {v : Value} {l' : Array Slot} (hd : decode code pc = .ok (.astore_n i, 1)) (hv : v.isRef = true) (hl : storeLocals ls i.val v = some l') (r : Run p e below n0 Q G m T pc' l' st) (hp : pc + 1 = pc' := by rfl) : Run p e below n0 Q G m T pc ls (v :: st) := by
  subst hp
  exact Run.step (fun t q => XS.astoreN X.at' C.1 rfl (C.d hd) rfl hv hl q) r
theorem s_astore (pc' : Nat) (C : Cx tabs a0 Z own nm code ml ret p s m meth c) (X : St p l e R s m args below meth c n0 T h k n) {i : Nat} {v : Value} {l' : Array Slot} (hd : decode code pc = .ok (.astore i, 2)) (hv : v.isRef = true) (hl : storeLocals ls i v = some l') (r : Run p e below n0 Q G m T pc' l' st) (hp : pc + 2 = pc' := by rfl) : Run p e below n0 Q G m T pc ls (v :: st) := by
  subst hp
  exact Run.step (fun t q => XS.astore X.at' C.1 rfl (C.d hd) rfl hv hl q) r
theorem s_iinc (pc' : Nat) (C : Cx tabs a0 Z own nm code ml ret p s m meth c) (X : St p l e R s m args below meth c n0 T h k n) {i : Nat} {cst : Int} {x z : Int32} {l' : Array Slot} (hd : decode code pc = .ok (.iinc i cst, 3)) (hz : Int32.ofInt cst = z) (hl : ls[i]? = some (.val (.int x))) (hl' : storeLocals ls i (.int (x + z)) = some l') (r : Run p e below n0 Q G m T pc' l' st) (hp : pc + 3 = pc' := by rfl) : Run p e below n0 Q G m T pc ls st := by
  subst hp
  exact Run.step (fun t q => XS.iinc X.at' C.1 rfl (C.d hd) hl (by rw [hz]; exact hl') q) r
theorem s_iconst (pc' : Nat) (C : Cx tabs a0 Z own nm code ml ret p s m meth c) (X : St p l e R s m args below meth c n0 T h k n) {i : Int} {z : Int32} (hd : decode code pc = .ok (.iconst i, 1)) (hz : Int32.ofInt i = z) (r : Run p e below n0 Q G m T pc' ls (.int z :: st)) (hp : pc + 1 = pc' := by rfl) : Run p e below n0 Q G m T pc ls st := by
  subst hp
  exact Run.step (fun t q => XS.iconst X.at' C.1 rfl (C.d hd) (by rw [hz]; exact q)) r
theorem s_bipush (pc' : Nat) (C : Cx tabs a0 Z own nm code ml ret p s m meth c) (X : St p l e R s m args below meth c n0 T h k n) {i : Int} {z : Int32} (hd : decode code pc = .ok (.bipush i, 2)) (hz : (Int8.ofInt i).toInt32 = z) (r : Run p e below n0 Q G m T pc' ls (.int z :: st)) (hp : pc + 2 = pc' := by rfl) : Run p e below n0 Q G m T pc ls st := by
  subst hp
  exact Run.step (fun t q => XS.bipush X.at' C.1 rfl (C.d hd) (by rw [hz]; exact q)) r
theorem s_sipush (pc' : Nat) (C : Cx tabs a0 Z own nm code ml ret p s m meth c) (X : St p l e R s m args below meth c n0 T h k n) {i : Int} {z : Int32} (hd : decode code pc = .ok (.sipush i, 3)) (hz : (Int16.ofInt i).toInt32 = z) (r : Run p e below n0 Q G m T pc' ls (.int z :: st)) (hp : pc + 3 = pc' := by rfl) : Run p e below n0 Q G m T pc ls st := by
  subst hp
  exact Run.step (fun t q => XS.sipush X.at' C.1 rfl (C.d hd) (by rw [hz]; exact q)) r
theorem s_aconstNull (pc' : Nat) (C : Cx tabs a0 Z own nm code ml ret p s m meth c) (X : St p l e R s m args below meth c n0 T h k n) (hd : decode code pc = .ok (.aconst_null, 1)) (r : Run p e below n0 Q G m T pc' ls (.null :: st)) (hp : pc + 1 = pc' := by rfl) : Run p e below n0 Q G m T pc ls st := by
  subst hp
  exact Run.step (fun t q => XS.aconstNull X.at' C.1 rfl (C.d hd) q) r
theorem s_iadd (pc' : Nat) (C : Cx tabs a0 Z own nm code ml ret p s m meth c) (X : St p l e R s m args below meth c n0 T h k n) {x y : Int32} (hd : decode code pc = .ok (.iadd, 1)) (r : Run p e below n0 Q G m T pc' ls (.int (x + y) :: st)) (hp : pc + 1 = pc' := by rfl) : Run p e below n0 Q G m T pc ls (.int y :: .int x :: st) := by
  subst hp
  exact Run.step (fun t q => XS.iadd X.at' C.1 rfl (C.d hd) rfl q) r
theorem s_isub (pc' : Nat) (C : Cx tabs a0 Z own nm code ml ret p s m meth c) (X : St p l e R s m args below meth c n0 T h k n) {x y : Int32} (hd : decode code pc = .ok (.isub, 1)) (r : Run p e below n0 Q G m T pc' ls (.int (x - y) :: st)) (hp : pc + 1 = pc' := by rfl) : Run p e below n0 Q G m T pc ls (.int y :: .int x :: st) := by
  subst hp
  exact Run.step (fun t q => XS.isub X.at' C.1 rfl (C.d hd) rfl q) r
theorem s_iand (pc' : Nat) (C : Cx tabs a0 Z own nm code ml ret p s m meth c) (X : St p l e R s m args below meth c n0 T h k n) {x y : Int32} (hd : decode code pc = .ok (.iand, 1)) (r : Run p e below n0 Q G m T pc' ls (.int (x &&& y) :: st)) (hp : pc + 1 = pc' := by rfl) : Run p e below n0 Q G m T pc ls (.int y :: .int x :: st) := by
  subst hp
  exact Run.step (fun t q => XS.iand X.at' C.1 rfl (C.d hd) rfl q) r
theorem s_ior (pc' : Nat) (C : Cx tabs a0 Z own nm code ml ret p s m meth c) (X : St p l e R s m args below meth c n0 T h k n) {x y : Int32} (hd : decode code pc = .ok (.ior, 1)) (r : Run p e below n0 Q G m T pc' ls (.int (x ||| y) :: st)) (hp : pc + 1 = pc' := by rfl) : Run p e below n0 Q G m T pc ls (.int y :: .int x :: st) := by
  subst hp
  exact Run.step (fun t q => XT.ior X.at' C.1 rfl (C.d hd) rfl q) r
theorem s_ishr (pc' : Nat) (C : Cx tabs a0 Z own nm code ml ret p s m meth c) (X : St p l e R s m args below meth c n0 T h k n) {x y : Int32} (hd : decode code pc = .ok (.ishr, 1)) (r : Run p e below n0 Q G m T pc' ls (.int (x >>> (y &&& 31)) :: st)) (hp : pc + 1 = pc' := by rfl) : Run p e below n0 Q G m T pc ls (.int y :: .int x :: st) := by
  subst hp
  exact Run.step (fun t q => XT.ishr X.at' C.1 rfl (C.d hd) rfl q) r
theorem s_iushr (pc' : Nat) (C : Cx tabs a0 Z own nm code ml ret p s m meth c) (X : St p l e R s m args below meth c n0 T h k n) {x y : Int32} (hd : decode code pc = .ok (.iushr, 1)) (r : Run p e below n0 Q G m T pc' ls (.int ((x.toUInt32 >>> (y &&& 31).toUInt32).toInt32) :: st)) (hp : pc + 1 = pc' := by rfl) : Run p e below n0 Q G m T pc ls (.int y :: .int x :: st) := by
  subst hp
  exact Run.step (fun t q => XT.iushr X.at' C.1 rfl (C.d hd) rfl q) r
theorem s_irem (pc' : Nat) (C : Cx tabs a0 Z own nm code ml ret p s m meth c) (X : St p l e R s m args below meth c n0 T h k n) {x y : Int32} (hd : decode code pc = .ok (.irem, 1)) (hy : y ≠ 0) (r : Run p e below n0 Q G m T pc' ls (.int (x % y) :: st)) (hp : pc + 1 = pc' := by rfl) : Run p e below n0 Q G m T pc ls (.int y :: .int x :: st) := by
  subst hp
  exact Run.step (fun t q => XS.irem X.at' C.1 rfl (C.d hd) rfl hy (by rw [show x - x / y * y = x % y from irem_eq_mod x y]; exact q)) r
theorem s_i2b (pc' : Nat) (C : Cx tabs a0 Z own nm code ml ret p s m meth c) (X : St p l e R s m args below meth c n0 T h k n) {x : Int32} (hd : decode code pc = .ok (.i2b, 1)) (r : Run p e below n0 Q G m T pc' ls (.int x.toInt8.toInt32 :: st)) (hp : pc + 1 = pc' := by rfl) : Run p e below n0 Q G m T pc ls (.int x :: st) := by
  subst hp
  exact Run.step (fun t q => XT.i2b X.at' C.1 rfl (C.d hd) rfl q) r
theorem s_i2c (pc' : Nat) (C : Cx tabs a0 Z own nm code ml ret p s m meth c) (X : St p l e R s m args below meth c n0 T h k n) {x : Int32} (hd : decode code pc = .ok (.i2c, 1)) (r : Run p e below n0 Q G m T pc' ls (.int x.toUInt32.toUInt16.toUInt32.toInt32 :: st)) (hp : pc + 1 = pc' := by rfl) : Run p e below n0 Q G m T pc ls (.int x :: st) := by
  subst hp
  exact Run.step (fun t q => XT.i2c X.at' C.1 rfl (C.d hd) rfl q) r
theorem s_dup (pc' : Nat) (C : Cx tabs a0 Z own nm code ml ret p s m meth c) (X : St p l e R s m args below meth c n0 T h k n) {v : Value} (hd : decode code pc = .ok (.dup, 1)) (hc : v.category = 1) (r : Run p e below n0 Q G m T pc' ls (v :: v :: st)) (hp : pc + 1 = pc' := by rfl) : Run p e below n0 Q G m T pc ls (v :: st) := by
  subst hp
  exact Run.step (fun t q => XS.dup X.at' C.1 rfl (C.d hd) rfl hc q) r
theorem s_pop (pc' : Nat) (C : Cx tabs a0 Z own nm code ml ret p s m meth c) (X : St p l e R s m args below meth c n0 T h k n) {v : Value} (hd : decode code pc = .ok (.pop, 1)) (hc : v.category = 1) (r : Run p e below n0 Q G m T pc' ls st) (hp : pc + 1 = pc' := by rfl) : Run p e below n0 Q G m T pc ls (v :: st) := by
  subst hp
  exact Run.step (fun t q => XT.pop X.at' C.1 rfl (C.d hd) rfl hc q) r
theorem s_goto (pc' : Nat) (C : Cx tabs a0 Z own nm code ml ret p s m meth c) (X : St p l e R s m args below meth c n0 T h k n) {o : Int} (hd : decode code pc = .ok (.goto o, 3)) (r : Run p e below n0 Q G m T pc' ls st) (hp : 0 ≤ (pc : Int) + o ∧ ((pc : Int) + o).toNat = pc' := by decide) : Run p e below n0 Q G m T pc ls st := by
  exact Run.step (fun t q => XS.goto X.at' C.1 rfl rfl (C.d hd) hp.1 hp.2 q) r
theorem s_icmp_lt (pY pN : Nat) (C : Cx tabs a0 Z own nm code ml ret p s m meth c) (X : St p l e R s m args below meth c n0 T h k n) {x y : Int32} {o : Int} (hd : decode code pc = .ok (.if_icmp .lt o, 3)) (ry : x < y → Run p e below n0 Q G m T pY ls st) (rn : ¬ x < y → Run p e below n0 Q G m T pN ls st) (hp : 0 ≤ (pc : Int) + o ∧ ((pc : Int) + o).toNat = pY ∧ pc + 3 = pN := by decide) : Run p e below n0 Q G m T pc ls (.int y :: .int x :: st) := by
  by_cases g : x < y
  · exact Run.step (fun t q => XS.icmpYes X.at' C.1 rfl rfl (C.d hd) rfl (tlt g).1 hp.1 hp.2.1 q) (ry g)
  · obtain rfl := hp.2.2
    exact Run.step (fun t q => XS.icmpNo X.at' C.1 rfl (C.d hd) rfl (flt g).1 q) (rn g)
theorem s_if_lt (pY pN : Nat) (C : Cx tabs a0 Z own nm code ml ret p s m meth c) (X : St p l e R s m args below meth c n0 T h k n) {x : Int32} {o : Int} (hd : decode code pc = .ok (.ifCond .lt o, 3)) (ry : x < (0 : Int32) → Run p e below n0 Q G m T pY ls st) (rn : ¬ x < (0 : Int32) → Run p e below n0 Q G m T pN ls st) (hp : 0 ≤ (pc : Int) + o ∧ ((pc : Int) + o).toNat = pY ∧ pc + 3 = pN := by decide) : Run p e below n0 Q G m T pc ls (.int x :: st) := by
  by_cases g : x < (0 : Int32)
  · exact Run.step (fun t q => XS.ifYes X.at' C.1 rfl rfl (C.d hd) rfl ((if0 _ _).trans (tlt g).1) hp.1 hp.2.1 q) (ry g)
  · obtain rfl := hp.2.2
    exact Run.step (fun t q => XS.ifNo X.at' C.1 rfl (C.d hd) rfl ((if0 _ _).trans (flt g).1) q) (rn g)
theorem s_icmp_ge (pY pN : Nat) (C : Cx tabs a0 Z own nm code ml ret p s m meth c) (X : St p l e R s m args below meth c n0 T h k n) {x y : Int32} {o : Int} (hd : decode code pc = .ok (.if_icmp .ge o, 3)) (ry : ¬ x < y → Run p e below n0 Q G m T pY ls st) (rn : x < y → Run p e below n0 Q G m T pN ls st) (hp : 0 ≤ (pc : Int) + o ∧ ((pc : Int) + o).toNat = pY ∧ pc + 3 = pN := by decide) : Run p e below n0 Q G m T pc ls (.int y :: .int x :: st) := by
  by_cases g : x < y
  · obtain rfl := hp.2.2
    exact Run.step (fun t q => XS.icmpNo X.at' C.1 rfl (C.d hd) rfl (tlt g).2.1 q) (rn g)
  · exact Run.step (fun t q => XS.icmpYes X.at' C.1 rfl rfl (C.d hd) rfl (flt g).2.1 hp.1 hp.2.1 q) (ry g)
theorem s_icmp_le (pY pN : Nat) (C : Cx tabs a0 Z own nm code ml ret p s m meth c) (X : St p l e R s m args below meth c n0 T h k n) {x y : Int32} {o : Int} (hd : decode code pc = .ok (.if_icmp .le o, 3)) (ry : ¬ y < x → Run p e below n0 Q G m T pY ls st) (rn : y < x → Run p e below n0 Q G m T pN ls st) (hp : 0 ≤ (pc : Int) + o ∧ ((pc : Int) + o).toNat = pY ∧ pc + 3 = pN := by decide) : Run p e below n0 Q G m T pc ls (.int y :: .int x :: st) := by
  by_cases g : y < x
  · obtain rfl := hp.2.2
    exact Run.step (fun t q => XS.icmpNo X.at' C.1 rfl (C.d hd) rfl (tlt g).2.2.2 q) (rn g)
  · exact Run.step (fun t q => XS.icmpYes X.at' C.1 rfl rfl (C.d hd) rfl (flt g).2.2.2 hp.1 hp.2.1 q) (ry g)
theorem s_icmp_eq (pY pN : Nat) (C : Cx tabs a0 Z own nm code ml ret p s m meth c) (X : St p l e R s m args below meth c n0 T h k n) {x y : Int32} {o : Int} (hd : decode code pc = .ok (.if_icmp .eq o, 3)) (ry : x = y → Run p e below n0 Q G m T pY ls st) (rn : ¬ x = y → Run p e below n0 Q G m T pN ls st) (hp : 0 ≤ (pc : Int) + o ∧ ((pc : Int) + o).toNat = pY ∧ pc + 3 = pN := by decide) : Run p e below n0 Q G m T pc ls (.int y :: .int x :: st) := by
  by_cases g : x = y
  · exact Run.step (fun t q => XS.icmpYes X.at' C.1 rfl rfl (C.d hd) rfl (teq g).1 hp.1 hp.2.1 q) (ry g)
  · obtain rfl := hp.2.2
    exact Run.step (fun t q => XS.icmpNo X.at' C.1 rfl (C.d hd) rfl (feq g).1 q) (rn g)
theorem s_if_eq (pY pN : Nat) (C : Cx tabs a0 Z own nm code ml ret p s m meth c) (X : St p l e R s m args below meth c n0 T h k n) {x : Int32} {o : Int} (hd : decode code pc = .ok (.ifCond .eq o, 3)) (ry : x = (0 : Int32) → Run p e below n0 Q G m T pY ls st) (rn : ¬ x = (0 : Int32) → Run p e below n0 Q G m T pN ls st) (hp : 0 ≤ (pc : Int) + o ∧ ((pc : Int) + o).toNat = pY ∧ pc + 3 = pN := by decide) : Run p e below n0 Q G m T pc ls (.int x :: st) := by
  by_cases g : x = (0 : Int32)
  · exact Run.step (fun t q => XS.ifYes X.at' C.1 rfl rfl (C.d hd) rfl ((if0 _ _).trans (teq g).1) hp.1 hp.2.1 q) (ry g)
  · obtain rfl := hp.2.2
    exact Run.step (fun t q => XS.ifNo X.at' C.1 rfl (C.d hd) rfl ((if0 _ _).trans (feq g).1) q) (rn g)
theorem s_icmp_ne (pY pN : Nat) (C : Cx tabs a0 Z own nm code ml ret p s m meth c) (X : St p l e R s m args below meth c n0 T h k n) {x y : Int32} {o : Int} (hd : decode code pc = .ok (.if_icmp .ne o, 3)) (ry : ¬ x = y → Run p e below n0 Q G m T pY ls st) (rn : x = y → Run p e below n0 Q G m T pN ls st) (hp : 0 ≤ (pc : Int) + o ∧ ((pc : Int) + o).toNat = pY ∧ pc + 3 = pN := by decide) : Run p e below n0 Q G m T pc ls (.int y :: .int x :: st) := by
  by_cases g : x = y
  · obtain rfl := hp.2.2
    exact Run.step (fun t q => XS.icmpNo X.at' C.1 rfl (C.d hd) rfl (teq g).2 q) (rn g)
  · exact Run.step (fun t q => XS.icmpYes X.at' C.1 rfl rfl (C.d hd) rfl (feq g).2 hp.1 hp.2.1 q) (ry g)
theorem s_if_ne (pY pN : Nat) (C : Cx tabs a0 Z own nm code ml ret p s m meth c) (X : St p l e R s m args below meth c n0 T h k n) {x : Int32} {o : Int} (hd : decode code pc = .ok (.ifCond .ne o, 3)) (ry : ¬ x = (0 : Int32) → Run p e below n0 Q G m T pY ls st) (rn : x = (0 : Int32) → Run p e below n0 Q G m T pN ls st) (hp : 0 ≤ (pc : Int) + o ∧ ((pc : Int) + o).toNat = pY ∧ pc + 3 = pN := by decide) : Run p e below n0 Q G m T pc ls (.int x :: st) := by
  by_cases g : x = (0 : Int32)
  · obtain rfl := hp.2.2
    exact Run.step (fun t q => XS.ifNo X.at' C.1 rfl (C.d hd) rfl ((if0 _ _).trans (teq g).2) q) (rn g)
  · exact Run.step (fun t q => XS.ifYes X.at' C.1 rfl rfl (C.d hd) rfl ((if0 _ _).trans (feq g).2) hp.1 hp.2.1 q) (ry g)
theorem s_acmp_ne (pY pN : Nat) (C : Cx tabs a0 Z own nm code ml ret p s m meth c) (X : St p l e R s m args below meth c n0 T h k n) {v w : Value} {o : Int} (hd : decode code pc = .ok (.if_acmp .ne o, 3)) (hv : v.isRef = true) (hw : w.isRef = true) (ry : ¬ v = w → Run p e below n0 Q G m T pY ls st) (rn : v = w → Run p e below n0 Q G m T pN ls st) (hp : 0 ≤ (pc : Int) + o ∧ ((pc : Int) + o).toNat = pY ∧ pc + 3 = pN := by decide) : Run p e below n0 Q G m T pc ls (w :: v :: st) := by
  by_cases g : v = w
  · obtain rfl := hp.2.2; exact Run.step (fun t q => XT.acmpNo X.at' C.1 rfl (C.d hd) rfl hv hw (by simp [XT.acmp, g]) q) (rn g)
  · exact Run.step (fun t q => XT.acmpYes X.at' C.1 rfl rfl (C.d hd) rfl hv hw (by simp [XT.acmp, g]) hp.1 hp.2.1 q) (ry g)
theorem s_ifnonnullN (pN : Nat) (C : Cx tabs a0 Z own nm code ml ret p s m meth c) (X : St p l e R s m args below meth c n0 T h k n) {o : Int} (hd : decode code pc = .ok (.ifnonnull o, 3)) (rn : Run p e below n0 Q G m T pN ls st) (hp : pc + 3 = pN := by rfl) : Run p e below n0 Q G m T pc ls (.null :: st) := by
  subst hp
  exact Run.step (fun t q => XT.ifnonnullNo X.at' C.1 rfl (C.d hd) rfl q) rn
theorem FE_mono {kc ks : Nat} (hk : k ≤ kc) (hn : n ≤ ks) : ∀ (v : Option Value) (t : State) (L : List Loc), t.heap = h → FrameEnd s (.returned v) t L k n → FrameEnd s (.returned v) t L kc ks := fun v t L _ h => ⟨h.1, h.2.1, h.2.2.mono hk hn⟩
theorem Run.done (C : Cx tabs a0 Z own nm code ml ret p s m meth c) (X : St p l e R s m args below meth c n0 T h k n) {v : Option Value} (hv : ret = none → v = none) (hG : ∀ (v : Option Value) (t : State) (L : List Loc), t.heap = h → FrameEnd s (.returned v) t L k n → G (.returned v) t L) (q : Q v h) (f : ∀ locs fs, Stand p l e R s m args below meth c T locs k n → (∀ (f : JFrame) (acts : List Action), f.method = m → f.locked = none → f.entered = [] → (doReturn e (T.setTop f) acts v).1 = T.setFrames fs) → Steps p.tables e below (T.setTop (mkF m pc ls st)) (T.setFrames fs)) : Run p e below n0 Q G m T pc ls st := by
  obtain ⟨locs, Y, rfl, N, -⟩ := X
  obtain ⟨fs, hr, hrun, hended, hW, hsame⟩ := Y.leave (v := v) (by rw [C.2.2.2.2.2.1]; exact hv) C.2.2.2.2.2.2.1
  exact ⟨_, _, f locs fs Y hr, hrun, hended, _, _, rfl, ⟨q, N⟩, hG _ _ _ rfl ⟨⟨_, rfl⟩, hW, hsame⟩⟩
theorem s_return (C : Cx tabs a0 Z own nm code ml ret p s m meth c) (X : St p l e R s m args below meth c n0 T h k n) (hd : decode code pc = .ok (.return_, 1)) (hr : ret = none) (q : Q none h) (hG : ∀ (v : Option Value) (t : State) (L : List Loc), t.heap = h → FrameEnd s (.returned v) t L k n → G (.returned v) t L := by exact FE_mono (by decide) (by decide)) : Run p e below n0 Q G m T pc ls [] := by
  subst hr
  exact Run.done C X (fun _ => rfl) hG q (fun locs fs Y hr => Y.returnOut C.1 C.2.2.2.2.2.1 (C.d hd) hr)
theorem s_ireturn (C : Cx tabs a0 Z own nm code ml ret p s m meth c) (X : St p l e R s m args below meth c n0 T h k n) {z : Int32} (hd : decode code pc = .ok (.ireturn, 1)) (hr : ret = some .int) (q : Q (some (.int z)) h) (hG : ∀ (v : Option Value) (t : State) (L : List Loc), t.heap = h → FrameEnd s (.returned v) t L k n → G (.returned v) t L := by exact FE_mono (by decide) (by decide)) : Run p e below n0 Q G m T pc ls (.int z :: st) := by
  subst hr
  refine Run.done C X (fun w => by cases w) hG q (fun locs fs Y hr => ?_)
  exact retOut Y C.1 C.2.2.2.2.2.1 (t := .int) rfl (Or.inl ⟨rfl, Or.inl rfl, _, rfl⟩) (C.d hd) hr
theorem s_nreturn (C : Cx tabs a0 Z own nm code ml ret p s m meth c) (X : St p l e R s m args below meth c n0 T h k n) {z z' : Int32} {t : FieldType} (hd : decode code pc = .ok (.ireturn, 1)) (hr : ret = some t) (ht : t = .boolean ∨ t = .byte ∨ t = .char ∨ t = .short) (hz : nar t z = z') (q : Q (some (.int z')) h) (hG : ∀ (v : Option Value) (t : State) (L : List Loc), t.heap = h → FrameEnd s (.returned v) t L k n → G (.returned v) t L := by exact FE_mono (by decide) (by decide)) : Run p e below n0 Q G m T pc ls (.int z :: st) := by
  subst hr hz
  refine Run.done C X (fun w => by cases w) hG q (fun locs fs Y hr => ?_)
  exact retN Y C.1 C.2.2.2.2.2.1 ht (C.d hd) hr
theorem s_areturn (C : Cx tabs a0 Z own nm code ml ret p s m meth c) (X : St p l e R s m args below meth c n0 T h k n) {v : Value} {t : FieldType} (hd : decode code pc = .ok (.areturn, 1)) (hr : ret = some t) (ht : t.isReference = true) (hv : v.isRef = true) (q : Q (some v) h) (hG : ∀ (v : Option Value) (t : State) (L : List Loc), t.heap = h → FrameEnd s (.returned v) t L k n → G (.returned v) t L := by exact FE_mono (by decide) (by decide)) : Run p e below n0 Q G m T pc ls (v :: st) := by
  subst hr
  refine Run.done C X (fun w => by cases w) hG q (fun locs fs Y hr => ?_)
  exact retOut Y C.1 C.2.2.2.2.2.1 (t := t) (by rcases ref_cases hv with rfl | ⟨_, rfl⟩ <;> cases t <;> first | rfl | simp [FieldType.isReference] at ht) (Or.inr (Or.inr (Or.inr (Or.inr ⟨rfl, ht, hv⟩)))) (C.d hd) hr
theorem s_getfield (pc' : Nat) (C : Cx tabs a0 Z own nm code ml ret p s m meth c) (X : St p l e R s m args below meth c n0 T h k n) {R0 O fn d host : String} {idx : Nat} {a : Addr} {v : Value} (hd : decode code pc = .ok (.getfield idx, 3)) (w : Jvm.Cond.fieldLink own idx R0 fn d ∈ tabs ∨ Jvm.Cond.fieldLinkNest own idx R0 fn d host ∈ tabs) (via : Via Z R0 O fn d) (F : Fld Z h a O fn d v) (r : ∀ T', St p l e R s m args below meth c n0 T' h k n → Run p e below n0 Q G m T' pc' ls (v :: st)) (hp : pc + 3 = pc' := by rfl) : Run p e below n0 Q G m T pc ls (.ref a :: st) := by
  subst hp
  obtain ⟨locs, Y, eT, N, q⟩ := X
  obtain ⟨T', Y', e', f⟩ := getF (host := host) Y C.1 C.2.1 C.2.2.2.2.1 (w.imp C.w C.w) via eT F (g := mkF m pc ls (.ref a :: st)) rfl rfl (C.d hd)
  exact Run.step f (r T' ⟨locs, Y', e', N, q⟩)
theorem s_getstatic (pc' : Nat) (C : Cx tabs a0 Z own nm code ml ret p s m meth c) (X : St p l e R s m args below meth c n0 T h k n) {R0 O fn d host : String} {idx : Nat} {v : Value} (hd : decode code pc = .ok (.getstatic idx, 3)) (w : Jvm.Cond.fieldLink own idx R0 fn d ∈ tabs ∨ Jvm.Cond.fieldLinkNest own idx R0 fn d host ∈ tabs) (via : Via Z R0 O fn d) (F : Sta Z h O fn d v) (r : ∀ T', St p l e R s m args below meth c n0 T' h k n → Run p e below n0 Q G m T' pc' ls (v :: st)) (hp : pc + 3 = pc' := by rfl) : Run p e below n0 Q G m T pc ls st := by
  subst hp
  obtain ⟨locs, Y, eT, N, q⟩ := X
  obtain ⟨T', Y', e', f⟩ := getS2 (host := host) Y C.1 C.2.1 C.2.2.2.2.1 (w.imp C.w C.w) via eT F (g := mkF m pc ls st) rfl (C.d hd)
  exact Run.step f (r T' ⟨locs, Y', e', N, q⟩)
theorem s_putfield (pc' : Nat) (C : Cx tabs a0 Z own nm code ml ret p s m meth c) (X : St p l e R s m args below meth c n0 T h k n) {R0 O fn d host K : String} {idx kk : Nat} {ty : FieldType} {a : Addr} {v old : Value} (hd : decode code pc = .ok (.putfield idx, 3)) (w : Jvm.Cond.fieldLink own idx R0 fn d ∈ tabs ∨ Jvm.Cond.fieldLinkNest own idx R0 fn d host ∈ tabs) (via : Via Z R0 O fn d) (F : Fld Z h a O fn d old) (E : Exa Z h a K) (L : Jvm.Cond.lays K O fn d ∈ tabs ∨ (Jvm.Cond.laysFinal K O fn d ∈ tabs ∧ own = O ∧ nm = "<init>")) (wi : Jvm.Cond.instantiable K kk ∈ tabs) (hty : parseFieldDescriptor d = some ty) (hn : narrow ty v = v) (hf : fits ty v = true) (ge : n0 ≤ a)
    (r : ∀ T' h', St p l e R s m args below meth c n0 T' h' k n → Wr h h' a (RoadKit.slotOf Z O fn d) v → Run p e below n0 Q G m T' pc' ls st) (hp : pc + 3 = pc' := by rfl) : Run p e below n0 Q G m T pc ls (v :: .ref a :: st) := by
  subst hp
  obtain ⟨locs, Y, eT, N, q⟩ := X
  obtain ⟨T', h', Y', e', W, f⟩ := putF (host := host) Y C.1 C.2.1 C.2.2.2.2.1 (w.imp C.w C.w) via eT F E (L.imp C.w fun z => ⟨C.w z.1, z.2.1, C.2.2.2.2.2.2.2.1.trans z.2.2⟩) (C.w wi) hty hn hf (g := mkF m pc ls (v :: .ref a :: st)) rfl rfl (C.d hd)
  exact Run.step f (r T' h' ⟨_, Y', e', Fr.snoc Y' N ge, q⟩ W)
theorem s_putfieldN (pc' : Nat) (C : Cx tabs a0 Z own nm code ml ret p s m meth c) (X : St p l e R s m args below meth c n0 T h k n) {R0 O fn d K : String} {idx kk : Nat} {ty : FieldType} {a : Addr} {v v' old : Value} (hd : decode code pc = .ok (.putfield idx, 3)) (w : Jvm.Cond.fieldLink own idx R0 fn d ∈ tabs) (via : Via Z R0 O fn d) (F : Fld Z h a O fn d old) (E : Exa Z h a K) (L : Jvm.Cond.lays K O fn d ∈ tabs ∨ (Jvm.Cond.laysFinal K O fn d ∈ tabs ∧ own = O ∧ nm = "<init>")) (wi : Jvm.Cond.instantiable K kk ∈ tabs) (hty : parseFieldDescriptor d = some ty) (hn : narrow ty v = v') (hf : fits ty v' = true) (ge : n0 ≤ a)
    (r : ∀ T' h', St p l e R s m args below meth c n0 T' h' k n → Wr h h' a (RoadKit.slotOf Z O fn d) v' → Run p e below n0 Q G m T' pc' ls st) (hp : pc + 3 = pc' := by rfl) : Run p e below n0 Q G m T pc ls (v :: .ref a :: st) := by
  subst hp
  obtain ⟨locs, Y, eT, N, q⟩ := X
  obtain ⟨T', h', Y', e', W, f⟩ := putFN Y C.1 C.2.1 C.2.2.2.2.1 (C.w w) via eT F E (L.imp C.w fun z => ⟨C.w z.1, z.2.1, C.2.2.2.2.2.2.2.1.trans z.2.2⟩) (C.w wi) hty hn hf (g := mkF m pc ls (v :: .ref a :: st)) rfl rfl (C.d hd)
  exact Run.step f (r T' h' ⟨_, Y', e', Fr.snoc Y' N ge, q⟩ W)
theorem s_new (pc' : Nat) (C : Cx tabs a0 Z own nm code ml ret p s m meth c) (X : St p l e R s m args below meth c n0 T h k n) {K : String} {idx nn : Nat} (hd : decode code pc = .ok (.new idx, 3)) (w1 : Jvm.Cond.classLink own idx K ∈ tabs) (w2 : Jvm.Cond.instantiable K nn ∈ tabs) (w3 : Jvm.Cond.initialized K ∈ tabs)
    (r : ∀ T' h' b, h.size = b → St p l e R s m args below meth c n0 T' h' (k + 1) (n + nn) → Ext h h' → Exa Z h' b K → (∀ {O fn d : String} {ty : FieldType}, Laid Z a0 K O fn d → parseFieldDescriptor d = some ty → Fld Z h' b O fn d (defaultValue ty)) → n0 ≤ b → Run p e below n0 Q G m T' pc' ls (.ref b :: st)) (hp : pc + 3 = pc' := by rfl) (hc : k + 1 ≤ R.cells ∧ n + nn ≤ R.slots := by decide) : Run p e below n0 Q G m T pc ls st := by
  subst hp
  have hz := X.sz
  obtain ⟨locs, Y, eT, N, q⟩ := X
  obtain ⟨T', h', Y', e', E, A, D, -, f⟩ := newO Y C.1 C.2.1 C.2.2.2.2.1 (C.w w1) (C.w w2) (C.w w3) eT (g := mkF m pc ls st) rfl (C.d hd) hc.1 hc.2
  exact Run.step f (r T' h' _ rfl ⟨locs, Y', e', N, q⟩ E A D hz)
theorem s_objInit (pc' : Nat) (C : Cx tabs a0 Z own nm code ml ret p s m meth c) (X : St p l e R s m args below meth c n0 T h k n) {idx W : Nat} {a : Addr} (hd : decode code pc = .ok (.invokespecial idx, 3)) (w1 : Jvm.Cond.methodLink own idx Lib.objectInit ∈ tabs) (w2 : Jvm.Cond.instanceMethod Lib.objectInit ∈ tabs) (w3 : Jvm.Cond.code Lib.objectInit ⟨#[0xb1]⟩ 1 none ∈ tabs) (hsz : ls.size = ml) (hW : (st.map fun v => v.category).sum = W) (hf : 1 ≤ R.frames ∧ W + 12 ≤ R.locals)
    (r : ∀ T', St p l e R s m args below meth c n0 T' h k n → Run p e below n0 Q G m T' pc' ls st) (hp : pc + 3 = pc' := by rfl) : Run p e below n0 Q G m T pc ls (.ref a :: st) := by
  subst hp
  obtain ⟨locs, Y, eT, N, q⟩ := X
  obtain ⟨T', Y', e', f⟩ := initO Y C.1 C.2.1 C.2.2.2.2.1 (C.w w1) (C.w w2) (C.w w3) eT (g := mkF m pc ls (.ref a :: st)) rfl (hsz.trans C.2.2.2.1.symm) rfl (C.d hd) hf.1 (W := W) (by show 2 * 0 + _ ≤ _; rw [hW]; omega) hf.2
  exact Run.step f (r T' ⟨locs, Y', e', N, q⟩)
theorem s_instY (pc' : Nat) (C : Cx tabs a0 Z own nm code ml ret p s m meth c) (X : St p l e R s m args below meth c n0 T h k n) {K : String} {idx : Nat} {a : Addr} (hd : decode code pc = .ok (.instanceof idx, 3)) (w : Jvm.Cond.classLink own idx K ∈ tabs) (F : Ins Z h a K true) (r : ∀ T', St p l e R s m args below meth c n0 T' h k n → Run p e below n0 Q G m T' pc' ls (.int 1 :: st)) (hp : pc + 3 = pc' := by rfl) : Run p e below n0 Q G m T pc ls (.ref a :: st) := by
  subst hp
  obtain ⟨locs, Y, eT, N, q⟩ := X
  obtain ⟨T', Y', e', f⟩ := instY Y C.1 C.2.1 C.2.2.2.2.1 (C.w w) eT F (g := mkF m pc ls (.ref a :: st)) rfl rfl (C.d hd)
  exact Run.step f (r T' ⟨locs, Y', e', N, q⟩)
theorem s_castY (pc' : Nat) (C : Cx tabs a0 Z own nm code ml ret p s m meth c) (X : St p l e R s m args below meth c n0 T h k n) {K : String} {idx : Nat} {a : Addr} (hd : decode code pc = .ok (.checkcast idx, 3)) (w : Jvm.Cond.classLink own idx K ∈ tabs) (F : Ins Z h a K true) (r : ∀ T', St p l e R s m args below meth c n0 T' h k n → Run p e below n0 Q G m T' pc' ls (.ref a :: st)) (hp : pc + 3 = pc' := by rfl) : Run p e below n0 Q G m T pc ls (.ref a :: st) := by
  subst hp
  obtain ⟨locs, Y, eT, N, q⟩ := X
  obtain ⟨T', Y', e', f⟩ := castY Y C.1 C.2.1 C.2.2.2.2.1 (C.w w) eT F (g := mkF m pc ls (.ref a :: st)) rfl rfl (C.d hd)
  exact Run.step f (r T' ⟨locs, Y', e', N, q⟩)
theorem s_newarray (pc' : Nat) (cap : Nat) (C : Cx tabs a0 Z own nm code ml ret p s m meth c) (X : St p l e R s m args below meth c n0 T h k n) {aty : ArrayType} {z : Int32} (hd : decode code pc = .ok (.newarray aty, 2)) (w : Jvm.Cond.arrayClass (newarray.typeOf aty) ∈ tabs) (hz : ¬ z < 0) (hcap : z.toNatClampNeg ≤ cap)
    (r : ∀ T' h' b kA, h.size = b → St p l e R s m args below meth c n0 T' h' (k + 1) (n + cap) → Ext h h' → Arv Z h' b kA (newarray.typeOf aty) z [] (defaultValue (newarray.typeOf aty)) → n0 ≤ b → Run p e below n0 Q G m T' pc' ls (.ref b :: st)) (hp : pc + 2 = pc' := by rfl) (hc : cap * 8 ≤ 536870912 ∧ k + 1 ≤ R.cells ∧ n + cap ≤ R.slots := by decide) : Run p e below n0 Q G m T pc ls (.int z :: st) := by
  subst hp
  have hs := X.sz
  obtain ⟨locs, Y, eT, N, q⟩ := X
  obtain ⟨T', h', kA, Y', e', E, A, f⟩ := newP Y C.1 C.2.1 (C.w w) eT (g := mkF m pc ls (.int z :: st)) rfl (C.d hd) rfl hz hcap hc.1 hc.2.1 hc.2.2
  exact Run.step f (r T' h' _ kA rfl ⟨locs, Y', e', N, q⟩ E (Arv.new A hz) hs)
theorem s_iastore (pc' : Nat) (i : Nat) (C : Cx tabs a0 Z own nm code ml ret p s m meth c) (X : St p l e R s m args below meth c n0 T h k n) {a : Addr} {kA : ClassId} {z j : Int32} {x : Int32} {vs : List Value} {dv : Value} (hd : decode code pc = .ok (.iastore, 1)) (F : Arv Z h a kA .int z vs dv) (ge : n0 ≤ a) (hj : ¬ j < 0 ∧ j < z) (hi : j.toNatClampNeg = i) (hl : i < vs.length)
    (r : ∀ T' h', St p l e R s m args below meth c n0 T' h' k n → Wr h h' a j.toNatClampNeg (.int x) → Arv Z h' a kA .int z (vs.set i (.int x)) dv → Run p e below n0 Q G m T' pc' ls st) (hp : pc + 1 = pc' := by rfl) : Run p e below n0 Q G m T pc ls (.int x :: .int j :: .ref a :: st) := by
  subst hp
  obtain ⟨locs, Y, eT, N, q⟩ := X
  obtain ⟨cl, A, q1, S, q3, H, G⟩ := F
  obtain ⟨T', h', Y', e', W, f⟩ := stI Y C.1 C.2.1 eT A (j := j) (inb_of S hj) (g := mkF m pc ls (.int x :: .int j :: .ref a :: st)) rfl rfl (C.d hd)
  exact Run.step f (r T' h' ⟨_, Y', e', Fr.snoc Y' N ge, q⟩ W (Arv.set A q1 S q3 H G (rfl) W i hi hl))
theorem s_castore (pc' : Nat) (i : Nat) (C : Cx tabs a0 Z own nm code ml ret p s m meth c) (X : St p l e R s m args below meth c n0 T h k n) {a : Addr} {kA : ClassId} {z j : Int32} {x : Int32} {vs : List Value} {dv : Value} (hd : decode code pc = .ok (.castore, 1)) (F : Arv Z h a kA .char z vs dv) (ge : n0 ≤ a) (hj : ¬ j < 0 ∧ j < z) (hi : j.toNatClampNeg = i) (hl : i < vs.length)
    (r : ∀ T' h', St p l e R s m args below meth c n0 T' h' k n → Wr h h' a j.toNatClampNeg (.int (nar .char x)) → Arv Z h' a kA .char z (vs.set i (.int (nar .char x))) dv → Run p e below n0 Q G m T' pc' ls st) (hp : pc + 1 = pc' := by rfl) : Run p e below n0 Q G m T pc ls (.int x :: .int j :: .ref a :: st) := by
  subst hp
  obtain ⟨locs, Y, eT, N, q⟩ := X
  obtain ⟨cl, A, q1, S, q3, H, G⟩ := F
  obtain ⟨T', h', Y', e', W, f⟩ := stC Y C.1 C.2.1 eT A (j := j) (inb_of S hj) (g := mkF m pc ls (.int x :: .int j :: .ref a :: st)) rfl rfl (C.d hd)
  exact Run.step f (r T' h' ⟨_, Y', e', Fr.snoc Y' N ge, q⟩ W (Arv.set A q1 S q3 H G (fits_nar_char x) W i hi hl))
theorem s_bastore (pc' : Nat) (i : Nat) (C : Cx tabs a0 Z own nm code ml ret p s m meth c) (X : St p l e R s m args below meth c n0 T h k n) {a : Addr} {kA : ClassId} {z j : Int32} {x : Int32} {vs : List Value} {dv : Value} (hd : decode code pc = .ok (.bastore, 1)) (F : Arv Z h a kA .byte z vs dv) (ge : n0 ≤ a) (hj : ¬ j < 0 ∧ j < z) (hi : j.toNatClampNeg = i) (hl : i < vs.length)
    (r : ∀ T' h', St p l e R s m args below meth c n0 T' h' k n → Wr h h' a j.toNatClampNeg (.int (nar .byte x)) → Arv Z h' a kA .byte z (vs.set i (.int (nar .byte x))) dv → Run p e below n0 Q G m T' pc' ls st) (hp : pc + 1 = pc' := by rfl) : Run p e below n0 Q G m T pc ls (.int x :: .int j :: .ref a :: st) := by
  subst hp
  obtain ⟨locs, Y, eT, N, q⟩ := X
  obtain ⟨cl, A, q1, S, q3, H, G⟩ := F
  obtain ⟨T', h', Y', e', W, f⟩ := stB Y C.1 C.2.1 eT A (j := j) (inb_of S hj) (g := mkF m pc ls (.int x :: .int j :: .ref a :: st)) rfl rfl (C.d hd)
  exact Run.step f (r T' h' ⟨_, Y', e', Fr.snoc Y' N ge, q⟩ W (Arv.set A q1 S q3 H G (fits_nar_byte x) W i hi hl))
theorem s_iaload (pc' : Nat) (C : Cx tabs a0 Z own nm code ml ret p s m meth c) (X : St p l e R s m args below meth c n0 T h k n) {a : Addr} {kA : ClassId} {z j : Int32} {v : Value} {vs : List Value} {dv : Value} (hd : decode code pc = .ok (.iaload, 1)) (F : Arv Z h a kA .int z vs dv) (hj : ¬ j < 0 ∧ j < z) (hv : vs.getD j.toNatClampNeg dv = v)
    (r : Run p e below n0 Q G m T pc' ls (v :: st)) (hp : pc + 1 = pc' := by rfl) : Run p e below n0 Q G m T pc ls (.int j :: .ref a :: st) := by
  subst hp
  obtain ⟨locs, Y, eT, N, q⟩ := X
  obtain ⟨cl, A, q1, S, q3, H, G⟩ := F
  exact Run.step (fun t q => Y.iaload C.1 (j := j) (v := v) (by rw [eT]; exact A.1) (State.isArrayOf_alike C.2.1.alike A.2.1) A.2.2 (inb_of S hj) (H.at (inb_of S hj) hv) (g := mkF m pc ls (.int j :: .ref a :: st)) rfl rfl (C.d hd) t q) r
theorem s_caload (pc' : Nat) (C : Cx tabs a0 Z own nm code ml ret p s m meth c) (X : St p l e R s m args below meth c n0 T h k n) {a : Addr} {kA : ClassId} {z j : Int32} {v : Value} {vs : List Value} {dv : Value} (hd : decode code pc = .ok (.caload, 1)) (F : Arv Z h a kA .char z vs dv) (hj : ¬ j < 0 ∧ j < z) (hv : vs.getD j.toNatClampNeg dv = v)
    (r : Run p e below n0 Q G m T pc' ls (v :: st)) (hp : pc + 1 = pc' := by rfl) : Run p e below n0 Q G m T pc ls (.int j :: .ref a :: st) := by
  subst hp
  obtain ⟨locs, Y, eT, N, q⟩ := X
  obtain ⟨cl, A, q1, S, q3, H, G⟩ := F
  exact Run.step (fun t q => Y.caload C.1 (j := j) (v := v) (by rw [eT]; exact A.1) (State.isArrayOf_alike C.2.1.alike A.2.1) A.2.2 (inb_of S hj) (H.at (inb_of S hj) hv) (g := mkF m pc ls (.int j :: .ref a :: st)) rfl rfl (C.d hd) t q) r
theorem s_baload (pc' : Nat) (C : Cx tabs a0 Z own nm code ml ret p s m meth c) (X : St p l e R s m args below meth c n0 T h k n) {a : Addr} {kA : ClassId} {z j : Int32} {v : Value} {vs : List Value} {dv : Value} (hd : decode code pc = .ok (.baload, 1)) (F : Arv Z h a kA .byte z vs dv) (hj : ¬ j < 0 ∧ j < z) (hv : vs.getD j.toNatClampNeg dv = v)
    (r : Run p e below n0 Q G m T pc' ls (v :: st)) (hp : pc + 1 = pc' := by rfl) : Run p e below n0 Q G m T pc ls (.int j :: .ref a :: st) := by
  subst hp
  obtain ⟨locs, Y, eT, N, q⟩ := X
  obtain ⟨cl, A, q1, S, q3, H, G⟩ := F
  exact Run.step (fun t q => Y.baloadBytes C.1 (j := j) (v := v) (by rw [eT]; exact A.1) (State.isArrayOf_alike C.2.1.alike A.2.1) A.2.2 (inb_of S hj) (H.at (inb_of S hj) hv) (g := mkF m pc ls (.int j :: .ref a :: st)) rfl rfl (C.d hd) t q) r
theorem s_aaload (pc' : Nat) (C : Cx tabs a0 Z own nm code ml ret p s m meth c) (X : St p l e R s m args below meth c n0 T h k n) {a : Addr} {kA : ClassId} {z j : Int32} {v : Value} {ty : FieldType} {vs : List Value} {dv : Value} (hd : decode code pc = .ok (.aaload, 1)) (F : Arv Z h a kA ty z vs dv) (ht : ty.isReference = true) (hj : ¬ j < 0 ∧ j < z) (hv : vs.getD j.toNatClampNeg dv = v)
    (r : Run p e below n0 Q G m T pc' ls (v :: st)) (hp : pc + 1 = pc' := by rfl) : Run p e below n0 Q G m T pc ls (.int j :: .ref a :: st) := by
  subst hp
  obtain ⟨locs, Y, eT, N, q⟩ := X
  obtain ⟨cl, A, q1, S, q3, H, G⟩ := F
  exact Run.step (fun t q => Y.aaload C.1 (j := j) (v := v) (by rw [eT]; exact A.1) (State.isArrayOf_alike C.2.1.alike A.2.1) ht A.2.2 (inb_of S hj) (H.at (inb_of S hj) hv) (g := mkF m pc ls (.int j :: .ref a :: st)) rfl rfl (C.d hd) t q) r
theorem s_arraylength (pc' : Nat) (C : Cx tabs a0 Z own nm code ml ret p s m meth c) (X : St p l e R s m args below meth c n0 T h k n) {a : Addr} {kA : ClassId} {z : Int32} {ty : FieldType} {vs : List Value} {dv : Value} (hd : decode code pc = .ok (.arraylength, 1)) (F : Arv Z h a kA ty z vs dv)
    (r : Run p e below n0 Q G m T pc' ls (.int z :: st)) (hp : pc + 1 = pc' := by rfl) : Run p e below n0 Q G m T pc ls (.ref a :: st) := by
  subst hp
  obtain ⟨locs, Y, eT, N, q⟩ := X
  obtain ⟨cl, A, q1, S, q3, H, G⟩ := F
  rw [← len_of S q3] at r
  exact Run.step (fun t q => Y.arraylength C.1 (by rw [eT]; exact A.1) (State.isArrayOf_alike C.2.1.alike A.2.1) (g := mkF m pc ls (.ref a :: st)) rfl rfl (C.d hd) t q) r
theorem s_anewarray (pc' : Nat) (cap : Nat) (ad : String) (C : Cx tabs a0 Z own nm code ml ret p s m meth c) (X : St p l e R s m args below meth c n0 T h k n) {K : String} {idx : Nat} {z : Int32} (hd : decode code pc = .ok (.anewarray idx, 3)) (w1 : Jvm.Cond.classLink own idx K ∈ tabs) (w2 : Jvm.Cond.arrayOver (.object K) ∈ tabs) (hz : ¬ z < 0) (hcap : z.toNatClampNeg ≤ cap) (had : "[" ++ (FieldType.object K).toString = ad)
    (r : ∀ T' h' b kA, h.size = b → St p l e R s m args below meth c n0 T' h' (k + 1) (n + cap) → Ext h h' → Arv Z h' b kA (.object K) z [] .null → Exa Z h' b ad → Ovr Z kA K → n0 ≤ b → Run p e below n0 Q G m T' pc' ls (.ref b :: st)) (hp : pc + 3 = pc' := by rfl) (hc : cap * 8 ≤ 536870912 ∧ k + 1 ≤ R.cells ∧ n + cap ≤ R.slots := by decide) : Run p e below n0 Q G m T pc ls (.int z :: st) := by
  subst hp
  have hs := X.sz
  obtain ⟨locs, Y, eT, N, q⟩ := X
  obtain ⟨T', h', kA, Y', e', E, A, EA, O, f⟩ := newRE Y C.1 C.2.1 C.2.2.2.2.1 (C.w w1) (C.w w2) eT (g := mkF m pc ls (.int z :: st)) rfl (C.d hd) rfl hz hcap hc.1 hc.2.1 hc.2.2 had
  exact Run.step f (r T' h' _ kA rfl ⟨locs, Y', e', N, q⟩ E (Arv.new A hz) EA O hs)
theorem s_aastore (pc' : Nat) (i : Nat) (C : Cx tabs a0 Z own nm code ml ret p s m meth c) (X : St p l e R s m args below meth c n0 T h k n) {a : Addr} {kA : ClassId} {ty : FieldType} {z j : Int32} {v : Value} {vs : List Value} {dv : Value} (hd : decode code pc = .ok (.aastore, 1)) (F : Arv Z h a kA ty z vs dv) (ht : ty.isReference = true) (hf : fits ty v = true) (hS : ∀ cl, Arr Z h a cl ty → cl.cls = kA → Sto Z h a v) (ge : n0 ≤ a) (hj : ¬ j < 0 ∧ j < z) (hi : j.toNatClampNeg = i) (hl : i < vs.length)
    (r : ∀ T' h', St p l e R s m args below meth c n0 T' h' k n → Wr h h' a j.toNatClampNeg v → Arv Z h' a kA ty z (vs.set i v) dv → Run p e below n0 Q G m T' pc' ls st) (hp : pc + 1 = pc' := by rfl) : Run p e below n0 Q G m T pc ls (v :: .int j :: .ref a :: st) := by
  subst hp
  obtain ⟨locs, Y, eT, N, q⟩ := X
  obtain ⟨cl, A, q1, S, q3, H, G⟩ := F
  obtain ⟨T', h', Y', e', W, f⟩ := RoadKit.stR Y C.1 C.2.1 eT A (j := j) (inb_of S hj) ht (hS cl A q1) (g := mkF m pc ls (v :: .int j :: .ref a :: st)) rfl rfl (C.d hd)
  exact Run.step f (r T' h' ⟨_, Y', e', Fr.snoc Y' N ge, q⟩ W (Arv.set A q1 S q3 H G hf W i hi hl))
theorem s_arraycopy (pc' : Nat) (W : Nat) (vs' : List Value) (C : Cx tabs a0 Z own nm code ml ret p s m meth c) (X : St p l e R s m args below meth c n0 T h k n) {idx : Nat} {a b : Addr} {kA kB : ClassId} {ty : FieldType} {z z' sp dp nn : Int32} {va vb : List Value} {da db : Value} (hd : decode code pc = .ok (.invokestatic idx, 3)) (w1 : Jvm.Cond.methodLink own idx Jvm.Stand.acN ∈ tabs) (w2 : Jvm.Cond.native Jvm.Stand.acN ∈ tabs) (w3 : Jvm.Cond.static Jvm.Stand.acN ∈ tabs) (w4 : Jvm.Cond.initialized "java/lang/System" ∈ tabs)
    (A : Arv Z h a kA ty z va da) (B : Arv Z h b kB ty z' vb db) (hty : refKind ty = false) (h1 : ¬ sp < 0) (h2 : ¬ dp < 0) (h3 : ¬ nn < 0) (h4 : sp.toNatClampNeg + nn.toNatClampNeg ≤ z.toNatClampNeg) (h5 : dp.toNatClampNeg + nn.toNatClampNeg ≤ z'.toNatClampNeg) (hl : dp.toNatClampNeg + nn.toNatClampNeg ≤ vb.length) (ge : n0 ≤ b)
    (hv : vb.take dp.toNatClampNeg ++ ((List.range nn.toNatClampNeg).map fun i => va.getD (sp.toNatClampNeg + i) da) ++ vb.drop (dp.toNatClampNeg + nn.toNatClampNeg) = vs') (hsz : ls.size = ml) (hW : (st.map fun v => v.category).sum = W)
    (r : ∀ T' h', St p l e R s m args below meth c n0 T' h' k n → Keep h h' [b] → Arv Z h' b kB ty z' vs' db → Run p e below n0 Q G m T' pc' ls st) (hp : pc + 3 = pc' := by rfl) (hc : 1 ≤ R.frames ∧ W + (nativeFrameWords "java/lang/System" "arraycopy" 5 + 11) ≤ R.locals := by decide) : Run p e below n0 Q G m T pc ls (.int nn :: .int dp :: .ref b :: .int sp :: .ref a :: st) := by
  subst hp hv
  obtain ⟨locs, Y, eT, N, q⟩ := X
  obtain ⟨T', h', L, Y', e', N', K, F, f⟩ := cpA Y C.1 C.2.1 C.2.2.2.2.1 (C.w w1) (C.w w2) (C.w w3) (C.w w4) eT A B (Or.inl ⟨rfl, hty⟩) h1 h2 h3 h4 h5 rfl hl N ge (g := mkF m pc ls (.int nn :: .int dp :: .ref b :: .int sp :: .ref a :: st)) rfl (hsz.trans C.2.2.2.1.symm) rfl (C.d hd) hc.1 (W := W) (by show 2 * 0 + _ ≤ _; rw [hW]; omega) hc.2
  exact Run.step f (r T' h' ⟨_, Y', e', N', q⟩ K F)
/-- a method's contract at given arguments and a given heap -/
def Met (l : Launch) (Z : State) (y : MethodName) (bytes : ByteArray) (ml : Nat) (ret : Option FieldType) (rm : Room) (ws : List Jvm.Cond) (as : Array Value) (h : Heap) (n0 : Nat) (Q : Option Value → Heap → Prop) : Prop :=
  MetFree l y (head1 (Jvm.Cond.code y bytes ml ret :: ws) rm) (fun a U => a = as ∧ Z.Warmed39 U.vm ∧ U.heap = h) (fun _ _ _ _ _ => True) (fun _ U o U' => ∃ v L, o = .returned v ∧ (Q v U'.heap ∧ Fr n0 L) ∧ FrameEnd U o U' L rm.cells rm.slots)
theorem Met.mk {y : MethodName} {rm : Room} {ws : List Jvm.Cond} {as : Array Value} {ls0 : Array Slot} (hpl : plainFor y = true) (hw : ∀ d ∈ tabs, d.before a0 Z = true) (hn : n0 ≤ h.size) (hef : ∀ m, entryFrame m as ml = mkF m 0 ls0 [])
    (body : ∀ p e s m below meth c T, Cx tabs a0 Z y.cls y.name code ml ret p s m meth c → St p l e rm s m as below meth c n0 T h 0 0 → Run p e below n0 Q (fun o t L => FrameEnd s o t L rm.cells rm.slots) m T 0 ls0 []) : Met l Z y code ml ret rm ws as h n0 Q := by
  refine MetFree.of_bodySF hpl hisR ?_
  intro p e s m args below meth c s₁ Bd hml0 hP hK
  obtain ⟨rfl, hZ, rfl⟩ := hP
  have X0 : Stand p l e rm s m args below meth c s₁ [] 0 0 := Stand.of_body Bd
  have e0 : s₁.heap = s.heap := by rw [Bd.state]; rfl
  have r := body p e s m below meth c s₁ ⟨Bd.exec, hZ, Bd.bytes, hml0, findClass_of_methodNamed Bd.named, Bd.returns, Bd.notSynchronized, (name_of_methodNamed Bd.named Bd.method).1, hw⟩ ⟨[], X0, e0, Fr.nil n0, hn⟩
  obtain ⟨s₂, o, h1, h2⟩ := r
  exact ⟨s₂, o, castTop (hef m) h1, h2⟩
theorem Met.imp {y : MethodName} {rm : Room} {ws : List Jvm.Cond} {as : Array Value} {Q' : Option Value → Heap → Prop} (M : Met l Z y code ml ret rm ws as h n0 Q) (f : ∀ v h', Q v h' → Q' v h') : Met l Z y code ml ret rm ws as h n0 Q' := fun p e a b c s m x y z w u v => by
  obtain ⟨s2, o, h1, h2, h3, v', L, h4, h5, h6⟩ := M p e a b c s m x y z w u v
  exact ⟨s2, o, h1, h2, h3, v', L, h4, ⟨f _ _ h5.1, h5.2⟩, h6⟩
theorem s_callS (pc' : Nat) (argsL rest : List Value) (W : Nat) (C : Cx tabs a0 Z own nm code ml ret p s m meth c) (X : St p l e R s m args below meth c n0 T h k n) {idx : Nat} {y : MethodName} {bytes : ByteArray} {maxL : Nat} {rt : Option FieldType} {rm : Room} {stk : List Value} {Q1 : Option Value → Heap → Prop} (hd : decode code pc = .ok (.invokestatic idx, 3)) (w1 : Jvm.Cond.methodLink own idx y ∈ tabs) (w2 : Jvm.Cond.static y ∈ tabs) (w3 : Jvm.Cond.initialized y.cls ∈ tabs) (w4 : Jvm.Cond.code y bytes maxL rt ∈ tabs)
    (M : Met l Z y bytes maxL rt rm [] argsL.toArray h n0 Q1) (hlen : ∀ sig, parseMethodDescriptor y.desc = some sig → argsL.length = sig.parameters.length) (hs : stk = argsL.reverse ++ rest) (hsz : ls.size = ml) (hW : (rest.map fun v => v.category).sum = W)
    (r : ∀ T' v h', St p l e R s m args below meth c n0 T' h' (k + rm.cells) (n + rm.slots) → Q1 v h' → Run p e below n0 Q G m T' pc' ls (v.toList ++ rest)) (hp : pc + 3 = pc' := by rfl) (hr : rm.frames + 1 ≤ R.frames ∧ W + (maxL + 11) + rm.locals ≤ R.locals ∧ k + rm.cells ≤ R.cells ∧ n + rm.slots ≤ R.slots := by decide) (hy : y.cls ≠ "java/lang/invoke/MethodHandle" ∧ y.cls ≠ "java/lang/invoke/VarHandle" := by decide) : Run p e below n0 Q G m T pc ls stk := by
  subst hp hs
  obtain ⟨locs, Y, eT, N, q⟩ := X
  obtain ⟨v, _, ⟨T1, L1, k1, n1⟩, -, Y', ⟨Lc, hQ, l1, y1, z1⟩, f⟩ := Jvm.LawKit.callS Y C.1 C.2.2.2.2.1 (mvT C.2.1 (C.w w1)) (mvT C.2.1 (C.w w2)) (mvT C.2.1 (C.w w3)) (mvT C.2.1 (C.w w4)) hy (backOf (W := W) (Q := fun v h L => Q1 v h ∧ Fr n0 L) M C.2.1 (C.w w4) (C.w w3) hr.1 hr.2.1) (g := mkF m pc ls (argsL.reverse ++ rest)) rfl (hsz.trans C.2.2.2.1.symm) (argsL := argsL) (rest := rest) hlen rfl (by show 2 * 0 + _ ≤ _; rw [hW]; omega) (C.d hd) (fun _ _ => ⟨rfl, eT, hr.2.2.1, hr.2.2.2⟩)
  dsimp only [Pt.U, Pt.locs, Pt.cells, Pt.slots] at Y' l1 y1 z1 f hQ
  subst l1 y1 z1
  exact Run.step f (r T1 v _ ⟨_, Y', rfl, Fr.app N hQ.2, q⟩ hQ.1)
theorem s_callC (pc' : Nat) (argsL rest : List Value) (W : Nat) (C : Cx tabs a0 Z own nm code ml ret p s m meth c) (X : St p l e R s m args below meth c n0 T h k n) {idx : Nat} {y : MethodName} {bytes : ByteArray} {maxL : Nat} {rm : Room} {stk : List Value} {Q1 : Option Value → Heap → Prop} {a : Addr} (hd : decode code pc = .ok (.invokespecial idx, 3)) (hi : y.name = "<init>") (w1 : Jvm.Cond.methodLink own idx y ∈ tabs) (w2 : Jvm.Cond.instanceMethod y ∈ tabs) (w3 : Jvm.Cond.initialized y.cls ∈ tabs) (w4 : Jvm.Cond.code y bytes maxL none ∈ tabs)
    (M : Met l Z y bytes maxL none rm [] (.ref a :: argsL).toArray h n0 Q1) (hlen : ∀ sig, parseMethodDescriptor y.desc = some sig → argsL.length = sig.parameters.length) (hs : stk = argsL.reverse ++ .ref a :: rest) (hsz : ls.size = ml) (hW : (rest.map fun v => v.category).sum = W)
    (r : ∀ T' v h', St p l e R s m args below meth c n0 T' h' (k + rm.cells) (n + rm.slots) → Q1 v h' → Run p e below n0 Q G m T' pc' ls (v.toList ++ rest)) (hp : pc + 3 = pc' := by rfl) (hr : rm.frames + 1 ≤ R.frames ∧ W + (maxL + 11) + rm.locals ≤ R.locals ∧ k + rm.cells ≤ R.cells ∧ n + rm.slots ≤ R.slots := by decide) (hy : y.cls ≠ "java/lang/invoke/MethodHandle" ∧ y.cls ≠ "java/lang/invoke/VarHandle" := by decide) : Run p e below n0 Q G m T pc ls stk := by
  subst hp hs
  obtain ⟨locs, Y, eT, N, q⟩ := X
  obtain ⟨v, _, ⟨T1, L1, k1, n1⟩, -, Y', ⟨Lc, hQ, l1, y1, z1⟩, f⟩ := Y.specialBack C.1 (y := y) hi C.2.2.2.2.1 (mvT C.2.1 (C.w w1)) (mvT C.2.1 (C.w w2)) (mvT C.2.1 (C.w w4)) hy (backOf (W := W) (Q := fun v h L => Q1 v h ∧ Fr n0 L) M C.2.1 (C.w w4) (C.w w3) hr.1 hr.2.1) (g := mkF m pc ls (argsL.reverse ++ .ref a :: rest)) rfl (hsz.trans C.2.2.2.1.symm) (Steps.refl _) (a := a) (argsL := argsL) (rest := rest) hlen rfl (by show 2 * 0 + _ ≤ _; rw [hW]; omega) (C.d hd) (fun _ _ => ⟨rfl, eT, hr.2.2.1, hr.2.2.2⟩)
  dsimp only [Pt.U, Pt.locs, Pt.cells, Pt.slots] at Y' l1 y1 z1 f hQ
  subst l1 y1 z1
  exact Run.steps f (r T1 v _ ⟨_, Y', rfl, Fr.app N hQ.2, q⟩ hQ.1)
theorem s_callV (pc' : Nat) (argsL rest : List Value) (W : Nat) (C : Cx tabs a0 Z own nm code ml ret p s m meth c) (X : St p l e R s m args below meth c n0 T h k n) {idx : Nat} {y : MethodName} {bytes : ByteArray} {maxL : Nat} {rt : Option FieldType} {rm : Room} {stk : List Value} {Q1 : Option Value → Heap → Prop} {y0 : MethodName} {K : String} {a : Addr} (hd : decode code pc = .ok (.invokevirtual idx, 3)) (w1 : Jvm.Cond.methodLink own idx y0 ∈ tabs) (w2 : Jvm.Cond.declares y0 ∈ tabs) (hnf : NotFace s y0) (w5 : Jvm.Cond.selects K y0 y ∈ tabs) (w6 : Jvm.Cond.instanceMethod y ∈ tabs) (w3 : Jvm.Cond.initialized y.cls ∈ tabs) (w4 : Jvm.Cond.code y bytes maxL rt ∈ tabs)
    (E : Exa Z h a K) (M : Met l Z y bytes maxL rt rm [] (.ref a :: argsL).toArray h n0 Q1) (hlen : ∀ sig, parseMethodDescriptor y0.desc = some sig → argsL.length = sig.parameters.length) (hs : stk = argsL.reverse ++ .ref a :: rest) (hsz : ls.size = ml) (hW : (rest.map fun v => v.category).sum = W)
    (r : ∀ T' v h', St p l e R s m args below meth c n0 T' h' (k + rm.cells) (n + rm.slots) → Q1 v h' → Run p e below n0 Q G m T' pc' ls (v.toList ++ rest)) (hp : pc + 3 = pc' := by rfl) (hr : rm.frames + 1 ≤ R.frames ∧ W + (maxL + 11) + rm.locals ≤ R.locals ∧ k + rm.cells ≤ R.cells ∧ n + rm.slots ≤ R.slots := by decide) (hy : y0.cls ≠ "java/lang/invoke/MethodHandle" ∧ y0.cls ≠ "java/lang/invoke/VarHandle" := by decide) : Run p e below n0 Q G m T pc ls stk := by
  subst hp hs
  obtain ⟨locs, Y, eT, N, q⟩ := X
  obtain ⟨cq, kq, qa, qb, qc⟩ := isOf C.2.1 eT E
  obtain ⟨v, _, ⟨T1, L1, k1, n1⟩, -, Y', ⟨Lc, hQ, l1, y1, z1⟩, f⟩ := Y.virtualBack C.1 (y := y0) (z := y) C.2.2.2.2.1 (mvT C.2.1 (C.w w1)) (mvT C.2.1 (C.w w2)) hnf (mvT C.2.1 (C.w w5)) (mvT C.2.1 (C.w w6)) hy (backOf (W := W) (Q := fun v h L => Q1 v h ∧ Fr n0 L) M C.2.1 (C.w w4) (C.w w3) hr.1 hr.2.1) qa qc (g := mkF m pc ls (argsL.reverse ++ .ref a :: rest)) rfl (hsz.trans C.2.2.2.1.symm) (Steps.refl _) (argsL := argsL) (rest := rest) hlen rfl (by show 2 * 0 + _ ≤ _; rw [hW]; omega) (C.d hd) (fun _ _ => ⟨rfl, eT, hr.2.2.1, hr.2.2.2⟩)
  dsimp only [Pt.U, Pt.locs, Pt.cells, Pt.slots] at Y' l1 y1 z1 f hQ
  subst l1 y1 z1
  exact Run.steps f (r T1 v _ ⟨_, Y', rfl, Fr.app N hQ.2, q⟩ hQ.1)
/-- the contract of a method that may intern a text -/
def MetW (l : Launch) (Z : State) (y : MethodName) (bytes : ByteArray) (ml : Nat) (ret : Option FieldType) (rm : Room) (ws : List Jvm.Cond) (as : Array Value) (h : Heap) (n0 : Nat) (Q : Option Value → Heap → Prop) : Prop :=
  MetFree l y (head1 (Jvm.Cond.code y bytes ml ret :: ws) rm) (fun a U => a = as ∧ Z.Warmed39 U.vm ∧ U.heap = h) (fun _ _ _ _ _ => True) (fun _ U o U' => ∃ v L, o = .returned v ∧ (Q v U'.heap ∧ Fr n0 L) ∧ ReturnedEndW U o U' L rm.cells rm.slots)
theorem MetW.mk {y : MethodName} {rm : Room} {ws : List Jvm.Cond} {as : Array Value} {ls0 : Array Slot} (hpl : plainFor y = true) (hw : ∀ d ∈ tabs, d.before a0 Z = true) (hn : n0 ≤ h.size) (hef : ∀ m, entryFrame m as ml = mkF m 0 ls0 [])
    (body : ∀ p e s m below meth c T, Cx tabs a0 Z y.cls y.name code ml ret p s m meth c → St p l e rm s m as below meth c n0 T h 0 0 → Run p e below n0 Q (fun o t L => ReturnedEndW s o t L rm.cells rm.slots) m T 0 ls0 []) : MetW l Z y code ml ret rm ws as h n0 Q := by
  refine MetFree.of_bodySF hpl hisR ?_
  intro p e s m args below meth c s₁ Bd hml0 hP hK
  obtain ⟨rfl, hZ, rfl⟩ := hP
  have X0 : Stand p l e rm s m args below meth c s₁ [] 0 0 := Stand.of_body Bd
  have e0 : s₁.heap = s.heap := by rw [Bd.state]; rfl
  have r := body p e s m below meth c s₁ ⟨Bd.exec, hZ, Bd.bytes, hml0, findClass_of_methodNamed Bd.named, Bd.returns, Bd.notSynchronized, (name_of_methodNamed Bd.named Bd.method).1, hw⟩ ⟨[], X0, e0, Fr.nil n0, hn⟩
  obtain ⟨s₂, o, h1, h2⟩ := r
  exact ⟨s₂, o, castTop (hef m) h1, h2⟩
theorem Met.mkQ {y : MethodName} {rm : Room} {ws : List Jvm.Cond} {as : Array Value} {ls0 : Array Slot} (hpl : plainFor y = true) (hw : ∀ d ∈ tabs, d.before a0 Z = true) (hn : n0 ≤ h.size) (hef : ∀ m, entryFrame m as ml = mkF m 0 ls0 [])
    (body : ∀ p e s m below meth c T (Q' : Option Value → Heap → Prop) (G' : Outcome → State → List Loc → Prop), (∀ v h', Q v h' → Q' v h') → (∀ v t L, FrameEnd s (.returned v) t L rm.cells rm.slots → G' (.returned v) t L) → Cx tabs a0 Z y.cls y.name code ml ret p s m meth c → St p l e rm s m as below meth c n0 T h 0 0 → Run p e below n0 Q' G' m T 0 ls0 []) : Met l Z y code ml ret rm ws as h n0 Q :=
  Met.mk hpl hw hn hef (fun p e s m below meth c T C X => body p e s m below meth c T Q _ (fun _ _ q => q) (fun _ _ _ q => q) C X)
theorem FG {kc ks : Nat} {G' : Outcome → State → List Loc → Prop} (hG : ∀ v t L, FrameEnd s (.returned v) t L kc ks → G' (.returned v) t L) (hk : k ≤ kc) (hn : n ≤ ks) : ∀ (v : Option Value) (t : State) (L : List Loc), t.heap = h → FrameEnd s (.returned v) t L k n → G' (.returned v) t L := fun v t L _ q => hG v t L ⟨q.1, q.2.1, q.2.2.mono hk hn⟩
theorem nF {K : String} {y : MethodName} (C : Cx tabs a0 Z own nm code ml ret p s m meth c) (w : Jvm.Cond.selects K y y ∈ tabs) : NotFace s y := notFace_of_selects (args := #[]) (mvT C.2.1 (C.w w))
theorem mW {α : Type} {l : List α} {a : α} (i : Nat) (h : l[i]? = some a) : a ∈ l := List.mem_of_getElem? h
theorem oth {Z : State} {h h' : Heap} {a b : Addr} {v w : Value} {a0 : Array Value} {K C n d O' n' d' : String} (F : Fld Z h b C n d w) (W : Wr h h' a (Jvm.RoadKit.slotOf Z O' n' d') v) (L : Laid Z a0 K C n d) (L' : Laid Z a0 K O' n' d') (q : (n != n' && (parseFieldDescriptor d).isSome && (parseFieldDescriptor d').isSome) = true) : Fld Z h' b C n d w := by
  simp only [Bool.and_eq_true, bne_iff_ne, Option.isSome_iff_exists] at q
  obtain ⟨⟨q1, t, q2⟩, t', q3⟩ := q
  exact F.other W (Or.inr (slot_ne L L' q1 q2 q3))
variable {EL : List (String × Nat)} {so : List Addr} {vm : Vm} {k1 : Nat}
/-- the contract of a method that may intern texts, where what is held goes on -/
def MetH (l : Launch) (Z : State) (EL : List (String × Nat)) (so : List Addr) (y : MethodName) (bytes : ByteArray) (ml : Nat) (ret : Option FieldType) (rm : Room) (ws : List Jvm.Cond) (as : Array Value) (h : Heap) (n0 : Nat) (Q : Option Value → Heap → Prop) : Prop :=
  MetFree l y (head1 (Jvm.Cond.code y bytes ml ret :: ws) rm) (fun a U => a = as ∧ Z.Warmed39 U.vm ∧ U.heap = h ∧ CHv Z EL U.vm h ∧ ∀ x ∈ so, Safe Z EL U.vm h x) (fun _ _ _ _ _ => True) (fun _ U o U' => ∃ v L, o = .returned v ∧ (Q v U'.heap ∧ Fr n0 L) ∧ CHr Z EL U.vm U.heap U'.vm U'.heap ∧ ReturnedEndW U o U' L rm.cells rm.slots)
theorem Cx.since (C : Cx tabs a0 Z own nm code ml ret p (s.setVm vm) m meth c) {vm' : Vm} {k2 : Nat} (hS : (s.setVm vm).Since vm' k2) : Cx tabs a0 Z own nm code ml ret p (s.setVm vm') m meth c :=
  ⟨C.1, State.Warmed39.trans (t := s.setVm vm) C.2.1 hS.1, C.2.2.1, C.2.2.2.1, (by rw [show (s.setVm vm').vm = vm' from rfl, hS.1.alike.findClass]; exact C.2.2.2.2.1), C.2.2.2.2.2⟩
theorem St.mono {k' n' : Nat} (X : St p l e R s m args below meth c n0 T h k n) (hk : k ≤ k') (hn : n ≤ n') : St p l e R s m args below meth c n0 T h k' n' := by
  obtain ⟨locs, Y, r⟩ := X
  exact ⟨locs, Y.mono hk hn, r⟩
def Rk (Z : State) (EL : List (String × Nat)) (vS : Vm) (h0 : Heap) (vm : Vm) (k1 : Nat) (h : Heap) : Prop := CHr Z EL vS h0 vm h ∧ k1 ≤ h.size
theorem Rk.ext {vS : Vm} {h0 h' : Heap} (R : Rk Z EL vS h0 vm k1 h) (E : Ext h h') : Rk Z EL vS h0 vm k1 h' := ⟨R.1.trans (CHr.ext E R.1.1), Nat.le_trans R.2 E.1⟩
theorem Rk.wr {vS : Vm} {h0 h' : Heap} {a : Addr} {sl : Nat} {v : Value} (R : Rk Z EL vS h0 vm k1 h) (W : Wr h h' a sl v) (S : Safe Z EL vm h a) : Rk Z EL vS h0 vm k1 h' := ⟨R.1.trans (CHr.wr W S R.1.1), Nat.le_trans R.2 (Nat.le_of_eq W.size.symm)⟩
theorem Rk.keep {vS : Vm} {h0 h' : Heap} {ws : List Addr} (R : Rk Z EL vS h0 vm k1 h) (K : Keep h h' ws) (hs : ∀ x ∈ ws, Safe Z EL vm h x) : Rk Z EL vS h0 vm k1 h' := ⟨R.1.trans (CHr.keep K hs R.1.1), Nat.le_trans R.2 K.1⟩
theorem Rk.call {vS vm' : Vm} {h0 h' : Heap} {k2 : Nat} (R : Rk Z EL vS h0 vm k1 h) (Rn : CHr Z EL vm h vm' h') (Nk : k2 ≤ h'.size) : Rk Z EL vS h0 vm' k2 h' := ⟨R.1.trans Rn, Nk⟩
theorem MetH.mkQ {y : MethodName} {rm : Room} {ws : List Jvm.Cond} {as : Array Value} {ls0 : Array Slot} (hpl : plainFor y = true) (hw : ∀ d ∈ tabs, d.before a0 Z = true) (hn : n0 ≤ h.size) (hef : ∀ m, entryFrame m as ml = mkF m 0 ls0 [])
    (body : ∀ p e s m below meth c T (Q' : Option Value → Heap → Prop) (G' : Outcome → State → List Loc → Prop) (vm : Vm) (k1 : Nat), (∀ v h', Q v h' → Q' v h') → (∀ v t L, CHr Z EL s.vm h t.vm t.heap → ReturnedEndW s (.returned v) t L rm.cells rm.slots → G' (.returned v) t L) → Cx tabs a0 Z y.cls y.name code ml ret p (s.setVm vm) m meth c → St p l e rm (s.setVm vm) m as below meth c n0 T h 0 0 → s.Since vm k1 → Rk Z EL s.vm h vm k1 h → (∀ x ∈ so, Safe Z EL vm h x) → Run p e below n0 Q' G' m T 0 ls0 []) : MetH l Z EL so y code ml ret rm ws as h n0 Q := by
  refine MetFree.of_bodySF hpl hisR ?_
  intro p e s m args below meth c s₁ Bd hml0 hP hK
  obtain ⟨rfl, hZ, rfl, hC, hso⟩ := hP
  have X0 : Stand p l e rm s m args below meth c s₁ [] 0 0 := Stand.of_body Bd
  have e0 : s₁.heap = s.heap := by rw [Bd.state]; rfl
  have r := body p e s m below meth c s₁ Q (fun o t L => CHr Z EL s.vm s.heap t.vm t.heap ∧ ReturnedEndW s o t L rm.cells rm.slots) s.vm 0 (fun _ _ q => q) (fun _ _ _ a b => ⟨a, b⟩) ⟨Bd.exec, hZ, Bd.bytes, hml0, findClass_of_methodNamed Bd.named, Bd.returns, Bd.notSynchronized, (name_of_methodNamed Bd.named Bd.method).1, hw⟩ ⟨[], X0, e0, Fr.nil n0, hn⟩ ((State.WarmedH.refl s).since 0) ⟨CHr.refl hC, Nat.zero_le _⟩ hso
  obtain ⟨s₂, o, h1, h2⟩ := r
  exact ⟨s₂, o, castTop (hef m) h1, h2⟩
theorem CHw (hZ : Z.Warmed39 vm) (hEL : EW Z a0 EL) {vm' : Vm} (hW : (s.setVm vm).WarmedH vm') (H : CHv Z EL vm h) : CHr Z EL vm h vm' h := by
  have q := CHv.later (h' := h) hZ (hW := (show (Wst Z vm h).Warmed39 vm' from hW.wide)) hEL ⟨Nat.le_refl _, fun _ _ q => q⟩ (Or.inl hW.interned_eq) H
  exact ⟨q.1, Nat.le_refl _, q.2⟩
theorem FGH {h0 : Heap} {kc ks : Nat} {G' : Outcome → State → List Loc → Prop} (hG : ∀ v t L, CHr Z EL s.vm h0 t.vm t.heap → ReturnedEndW s (.returned v) t L kc ks → G' (.returned v) t L) (hS : s.Since vm k1) (Rc : Rk Z EL s.vm h0 vm k1 h) (C : Cx tabs a0 Z own nm code ml ret p (s.setVm vm) m meth c) (hEL : EW Z a0 EL) (hk : k ≤ kc := by decide) (hn : n ≤ ks := by decide) : ∀ (v : Option Value) (t : State) (L : List Loc), t.heap = h → FrameEnd (s.setVm vm) (.returned v) t L k n → G' (.returned v) t L := fun v t L e q =>
  hG v t L (by rw [e]; exact Rc.1.trans (CHw C.2.1 hEL q.2.1 Rc.1.1)) (by
    have z := hS.ended q.2.1 (by rw [e]; exact Rc.2) q.2.2
    exact ⟨⟨_, rfl⟩, z.1, z.2.1, z.2.2.mono hk hn⟩)
theorem backH {y : MethodName} {bytes : ByteArray} {maxL : Nat} {rt : Option FieldType} {rm : Room} {len W : Nat} {as' : Array Value} {Q1 : Option Value → Heap → Prop}
    (M : MetH l Z EL so y bytes maxL rt rm [] as' h n0 Q1) (hZ : Z.Warmed39 vm) (wc : (Jvm.Cond.code y bytes maxL rt).before a0 Z = true) (wz : (Jvm.Cond.initialized y.cls).before a0 Z = true) (hf : rm.frames + 1 ≤ R.frames) (hl : W + (maxL + 11) + rm.locals ≤ R.locals) (hEL : EW Z a0 EL) (H : CHv Z EL vm h) (hso : ∀ x ∈ so, x < h.size ∧ Safe Z EL vm h x) :
    BackS l R p e below (s.setVm vm) args y len W (fun A a => a = as' ∧ A.U.heap = h ∧ A.cells + rm.cells ≤ R.cells ∧ A.slots + rm.slots ≤ R.slots)
      (fun A _ v B => ∃ L, (Q1 v B.U.heap ∧ Fr n0 L) ∧ B.locs = A.locs ++ L ∧ B.cells = A.cells + rm.cells ∧ B.slots = A.slots + rm.slots ∧ CHr Z EL vm h B.U.vm B.U.heap) :=
  BackS.of_freeW (bytes := bytes) (maxL := maxL) (ret := rt) (E := fun _ first o t L k n => k = rm.cells ∧ n = rm.slots ∧ (∃ v, o = .returned v ∧ Q1 v t.heap ∧ Fr n0 L) ∧ CHr Z EL first.vm first.heap t.vm t.heap) M hf hl
    (fun m meth c A a Y hp => have hU : Z.Warmed39 A.U.vm := wtrans (s := s.setVm vm) hZ Y.warmed
      ⟨by show (Jvm.Cond.and _ .tt).before a A.U = true; rw [Cond.before_and, mv hU wc]; rfl, mv hU wc, mv hU wz, hp.2.2.1, hp.2.2.2⟩)
    (fun m meth c A a g mk Y hp => have q := CHw hZ hEL Y.warmed H; ⟨hp.1, wtrans (s := s.setVm vm) hZ Y.warmed, hp.2.1, q.1, fun x hx => q.safe (hso x hx).1 (hso x hx).2⟩)
    (fun _ _ _ _ _ _ _ _ _ => trivial)
    (fun _ _ _ _ ⟨v, L, h1, h2, h3, h4⟩ => ⟨L, _, _, h4, rfl, rfl, ⟨v, h1, h2⟩, h3⟩)
    (fun m meth c A a g mk v t L k n Y hp _ _ ⟨e1, e2, ⟨v', e3, e4⟩, e5⟩ => by
      cases e3; subst e1 e2
      refine ⟨L, e4, rfl, rfl, rfl, (CHw hZ hEL Y.warmed H).trans ?_⟩
      rw [← hp.2.1]; exact e5)
theorem soS {P : Addr → Prop} {a : Addr} {ws : List Addr} (n : P a) (r : ∀ x ∈ ws, P x) : ∀ x ∈ a :: ws, P x := fun x q => by
  rcases List.mem_cons.mp q with rfl | q
  · exact n
  · exact r x q
theorem so0 {P : Addr → Prop} : ∀ x ∈ ([] : List Addr), P x := fun _ q => nomatch q
theorem s_hcallC (pc' : Nat) (argsL rest : List Value) (W : Nat) (C : Cx tabs a0 Z own nm code ml ret p (s.setVm vm) m meth c) (X : St p l e R (s.setVm vm) m args below meth c n0 T h k n) (hS : s.Since vm k1) (Nk : k1 ≤ h.size) (hEL : EW Z a0 EL) (H : CHv Z EL vm h) {idx : Nat} {y : MethodName} {bytes : ByteArray} {maxL : Nat} {rm : Room} {stk : List Value} {Q1 : Option Value → Heap → Prop} {a : Addr} (hd : decode code pc = .ok (.invokespecial idx, 3)) (hi : y.name = "<init>") (w1 : Jvm.Cond.methodLink own idx y ∈ tabs) (w2 : Jvm.Cond.instanceMethod y ∈ tabs) (w3 : Jvm.Cond.initialized y.cls ∈ tabs) (w4 : Jvm.Cond.code y bytes maxL none ∈ tabs)
    (M : MetH l Z EL so y bytes maxL none rm [] (.ref a :: argsL).toArray h n0 Q1) (hlen : ∀ sig, parseMethodDescriptor y.desc = some sig → argsL.length = sig.parameters.length) (hs : stk = argsL.reverse ++ .ref a :: rest) (hsz : ls.size = ml) (hW : (rest.map fun v => v.category).sum = W)
    (hso : ∀ x ∈ so, x < h.size ∧ Safe Z EL vm h x) (r : ∀ T' v h' vm' k2, Cx tabs a0 Z own nm code ml ret p (s.setVm vm') m meth c → St p l e R (s.setVm vm') m args below meth c n0 T' h' (k + rm.cells) (n + rm.slots) → s.Since vm' k2 → k2 ≤ h'.size → CHr Z EL vm h vm' h' → Q1 v h' → Run p e below n0 Q G m T' pc' ls (v.toList ++ rest)) (hp : pc + 3 = pc' := by rfl) (hr : rm.frames + 1 ≤ R.frames ∧ W + (maxL + 11) + rm.locals ≤ R.locals ∧ k + rm.cells ≤ R.cells ∧ n + rm.slots ≤ R.slots := by decide) (hy : y.cls ≠ "java/lang/invoke/MethodHandle" ∧ y.cls ≠ "java/lang/invoke/VarHandle" := by decide) : Run p e below n0 Q G m T pc ls stk := by
  subst hp hs
  obtain ⟨locs, Y, eT, N, q⟩ := X
  obtain ⟨v, _, ⟨T1, L1, kk1, n1⟩, -, Y', hS2, hgr, ⟨Lc, hQ, l1, y1, z1, hR⟩, f⟩ := Y.specialBackS C.1 (y := y) hi C.2.2.2.2.1 (mvT C.2.1 (C.w w1)) (mvT C.2.1 (C.w w2)) (mvT C.2.1 (C.w w4)) hy (backH (W := W) M C.2.1 (C.w w4) (C.w w3) hr.1 hr.2.1 hEL H hso) (g := mkF m pc ls (argsL.reverse ++ .ref a :: rest)) rfl (hsz.trans C.2.2.2.1.symm) (Steps.refl _) (a := a) (argsL := argsL) (rest := rest) hlen rfl (by show 2 * 0 + _ ≤ _; rw [hW]; omega) (C.d hd) (fun _ _ => ⟨rfl, eT, hr.2.2.1, hr.2.2.2⟩)
  dsimp only [Pt.U, Pt.locs, Pt.cells, Pt.slots] at Y' hS2 hgr l1 y1 z1 hR f hQ
  subst l1 y1 z1
  exact Run.steps f (r T1 v _ T1.vm _ (C.since hS2) ⟨_, Y', rfl, Fr.app N hQ.2, q⟩ (foldS hS (by rw [eT]; exact Nk) hS2 hgr) (Nat.le_refl _) hR hQ.1)
theorem s_hcallV (pc' : Nat) (argsL rest : List Value) (W : Nat) (C : Cx tabs a0 Z own nm code ml ret p (s.setVm vm) m meth c) (X : St p l e R (s.setVm vm) m args below meth c n0 T h k n) (hS : s.Since vm k1) (Nk : k1 ≤ h.size) (hEL : EW Z a0 EL) (H : CHv Z EL vm h) {idx : Nat} {y : MethodName} {bytes : ByteArray} {maxL : Nat} {rt : Option FieldType} {rm : Room} {stk : List Value} {Q1 : Option Value → Heap → Prop} {y0 : MethodName} {K : String} {a : Addr} (hd : decode code pc = .ok (.invokevirtual idx, 3)) (w1 : Jvm.Cond.methodLink own idx y0 ∈ tabs) (w2 : Jvm.Cond.declares y0 ∈ tabs) (hnf : NotFace (s.setVm vm) y0) (w5 : Jvm.Cond.selects K y0 y ∈ tabs) (w6 : Jvm.Cond.instanceMethod y ∈ tabs) (w3 : Jvm.Cond.initialized y.cls ∈ tabs) (w4 : Jvm.Cond.code y bytes maxL rt ∈ tabs)
    (E : Exa Z h a K) (M : MetH l Z EL so y bytes maxL rt rm [] (.ref a :: argsL).toArray h n0 Q1) (hlen : ∀ sig, parseMethodDescriptor y0.desc = some sig → argsL.length = sig.parameters.length) (hs : stk = argsL.reverse ++ .ref a :: rest) (hsz : ls.size = ml) (hW : (rest.map fun v => v.category).sum = W)
    (hso : ∀ x ∈ so, x < h.size ∧ Safe Z EL vm h x) (r : ∀ T' v h' vm' k2, Cx tabs a0 Z own nm code ml ret p (s.setVm vm') m meth c → St p l e R (s.setVm vm') m args below meth c n0 T' h' (k + rm.cells) (n + rm.slots) → s.Since vm' k2 → k2 ≤ h'.size → CHr Z EL vm h vm' h' → Q1 v h' → Run p e below n0 Q G m T' pc' ls (v.toList ++ rest)) (hp : pc + 3 = pc' := by rfl) (hr : rm.frames + 1 ≤ R.frames ∧ W + (maxL + 11) + rm.locals ≤ R.locals ∧ k + rm.cells ≤ R.cells ∧ n + rm.slots ≤ R.slots := by decide) (hy : y0.cls ≠ "java/lang/invoke/MethodHandle" ∧ y0.cls ≠ "java/lang/invoke/VarHandle" := by decide) : Run p e below n0 Q G m T pc ls stk := by
  subst hp hs
  obtain ⟨locs, Y, eT, N, q⟩ := X
  obtain ⟨cq, kq, qa, qb, qc⟩ := isOf C.2.1 eT E
  obtain ⟨v, _, ⟨T1, L1, kk1, n1⟩, -, Y', hS2, hgr, ⟨Lc, hQ, l1, y1, z1, hR⟩, f⟩ := Y.virtualBackS C.1 (y := y0) (z := y) C.2.2.2.2.1 (mvT C.2.1 (C.w w1)) (mvT C.2.1 (C.w w2)) hnf (mvT C.2.1 (C.w w5)) (mvT C.2.1 (C.w w6)) hy (backH (W := W) M C.2.1 (C.w w4) (C.w w3) hr.1 hr.2.1 hEL H hso) qa qc (g := mkF m pc ls (argsL.reverse ++ .ref a :: rest)) rfl (hsz.trans C.2.2.2.1.symm) (Steps.refl _) (argsL := argsL) (rest := rest) hlen rfl (by show 2 * 0 + _ ≤ _; rw [hW]; omega) (C.d hd) (fun _ _ => ⟨rfl, eT, hr.2.2.1, hr.2.2.2⟩)
  dsimp only [Pt.U, Pt.locs, Pt.cells, Pt.slots] at Y' hS2 hgr l1 y1 z1 hR f hQ
  subst l1 y1 z1
  exact Run.steps f (r T1 v _ T1.vm _ (C.since hS2) ⟨_, Y', rfl, Fr.app N hQ.2, q⟩ (foldS hS (by rw [eT]; exact Nk) hS2 hgr) (Nat.le_refl _) hR hQ.1)
theorem s_ldcH (pc' : Nat) (nn : Nat) (C : Cx tabs a0 Z own nm code ml ret p (s.setVm vm) m meth c) (X : St p l e R (s.setVm vm) m args below meth c n0 T h k n) (hS : s.Since vm k1) (Nk : k1 ≤ h.size) (hEL : EW Z a0 EL) (H : CHv Z EL vm h) {idx : Nat} {text : String} {vs : List Value} {z : Int32} (hd : decode code pc = .ok (.ldc idx, 2)) (w : Jvm.Cond.stringLink own idx text ∈ tabs) (wS : ∀ a ∈ Bundle.stringAtoms, a.before a0 Z = true) (hmem : (own, idx) ∈ EL) (ht : (∀ c ∈ text.toList, c.toNat < 256) ∧ text.toList.map (fun c => Value.int (Jvm.Lit.byteI c.toNat.toUInt16)) = vs) (hz : ¬ z < 0) (hl : z.toNatClampNeg = vs.length)
    (r : ∀ T' h' a b kb vm' k2, Cx tabs a0 Z own nm code ml ret p (s.setVm vm') m meth c → St p l e R (s.setVm vm') m args below meth c n0 T' h' (k + 2) (n + (nn + 4)) → Ext h h' → s.Since vm' k2 → k2 ≤ h'.size → CHr Z EL vm h vm' h' → Exa Z h' a "java/lang/String" → Fld Z h' a "java/lang/String" "coder" "B" (.int 0) → Fld Z h' a "java/lang/String" "value" "[B" (.ref b) → Arv Z h' b kb .byte z vs (.int 0) → (∀ x, Safe Z EL vm' h' x → x ≠ a ∧ x ≠ b) → Run p e below n0 Q G m T' pc' ls (.ref a :: st)) (hp : pc + 2 = pc' := by rfl) (hc : 4 * text.toList.length ≤ nn ∧ nn ≤ 536870912 ∧ k + 2 ≤ R.cells ∧ n + (nn + 4) ≤ R.slots := by decide) : Run p e below n0 Q G m T pc ls st := by
  subst hp
  obtain ⟨locs, Y, eT, N, q⟩ := X
  obtain ⟨a, T', h', k2, b, kb, Y2, e', E, hS', hk, hZ, ho, q1, q2, q3, q4, -, -, hR, -, nS, f⟩ := ldcCH Y C.1 C.2.1 C.2.2.2.2.1 (C.w w) wS eT hS Nk hEL hmem H ht hz hl (g := mkF m pc ls st) rfl (C.d hd) hc.1 hc.2.1 hc.2.2.1 hc.2.2.2
  exact Run.step f (r T' h' a b kb T'.vm k2 ⟨C.1, hZ, C.2.2.1, C.2.2.2.1, ho, C.2.2.2.2.2⟩ ⟨locs, Y2, e', N, q⟩ E hS' hk hR q1 q2 q3 q4 nS)
end A
end Jvm.OwnK
namespace Jvm.Pilot.@@N@@
open Jvm Jvm.ClassFile Sem Op Lib Jvm.Free Jvm.Stand Jvm.LawKit Jvm.RoadKit Bundle Jvm.OwnK Jvm.Pilot.@@N@@.Jvm.D
abbrev bA : ByteArray := jdk_42_method_155_code
abbrev bB : ByteArray := jdk_42_method_154_code
abbrev bC : ByteArray := jdk_42_method_152_code
abbrev bD : ByteArray := prog_35_method_12_code
abbrev bE : ByteArray := jdk_42_method_149_code
abbrev bF : ByteArray := prog_35_method_13_code
abbrev bG : ByteArray := jdk_42_method_157_code
abbrev bH : ByteArray := jdk_52_method_16_code
abbrev bI : ByteArray := prog_35_method_7_code
abbrev bJ : ByteArray := prog_35_method_2_code
abbrev bK : ByteArray := jdk_41_method_13_code
abbrev bL : ByteArray := jdk_42_method_56_code
abbrev bM : ByteArray := jdk_52_method_21_code
abbrev bN : ByteArray := jdk_52_method_15_code
abbrev bO : ByteArray := jdk_42_method_54_code
abbrev bP : ByteArray := prog_35_method_9_code
abbrev bQ : ByteArray := jdk_41_method_11_code
abbrev bR : ByteArray := jdk_43_method_13_code
abbrev bS : ByteArray := prog_35_method_1_code
abbrev bT : ByteArray := jdk_42_method_66_code
abbrev bU : ByteArray := jdk_42_method_3_code
abbrev bV : ByteArray := jdk_43_method_2_code
abbrev bW : ByteArray := jdk_42_method_4_code
abbrev bX : ByteArray := jdk_42_method_5_code
abbrev bY : ByteArray := method_2_code
abbrev bZ : ByteArray := method_3_code
abbrev baA : ByteArray := method_5_code
abbrev baB : ByteArray := method_4_code
theorem pn_com_example_medis_medis_engine_ElementAttributesCollapseLastPinLaw : plainName "com/example/medis/medis/engine/ElementAttributesCollapseLastPinLaw" = true := by first | (simp [plainName, overriddenIn]; done) | decide +kernel
theorem d1_0 : decode bY 0 = .ok (.iload_n 0, 1) := by decide +kernel
theorem d1_1 : decode bY 1 = .ok (.iconst 1, 1) := by decide +kernel
theorem kc_iconst_1 : Int32.ofInt 1 = (1 : Int32) := by decide +kernel
theorem d1_2 : decode bY 2 = .ok (.iand, 1) := by decide +kernel
theorem d1_3 : decode bY 3 = .ok (.ifCond .eq 8, 3) := by decide +kernel
theorem d1_11 : decode bY 11 = .ok (.iload_n 0, 1) := by decide +kernel
theorem d1_12 : decode bY 12 = .ok (.iconst 1, 1) := by decide +kernel
theorem d1_13 : decode bY 13 = .ok (.iushr, 1) := by decide +kernel
theorem d1_14 : decode bY 14 = .ok (.sipush 255, 3) := by decide +kernel
theorem kc_sipush_255 : (Int16.ofInt 255).toInt32 = (255 : Int32) := by decide +kernel
theorem d1_17 : decode bY 17 = .ok (.iand, 1) := by decide +kernel
theorem d1_18 : decode bY 18 = .ok (.i2c, 1) := by decide +kernel
theorem d1_19 : decode bY 19 = .ok (.ireturn, 1) := by decide +kernel
theorem d1_6 : decode bY 6 = .ok (.bipush 32, 2) := by decide +kernel
theorem kc_bipush_32 : (Int8.ofInt 32).toInt32 = (32 : Int32) := by decide +kernel
theorem d1_8 : decode bY 8 = .ok (.goto 11, 3) := by decide +kernel
theorem pd__I_C : parseMethodDescriptor "(I)C" = some ⟨[.int], some .char⟩ := by decide +kernel
theorem kc_bipush_9 : (Int8.ofInt 9).toInt32 = (9 : Int32) := by decide +kernel
theorem kc_bipush_18 : (Int8.ofInt 18).toInt32 = (18 : Int32) := by decide +kernel
theorem kc_bipush_7 : (Int8.ofInt 7).toInt32 = (7 : Int32) := by decide +kernel
theorem kc_bipush_6 : (Int8.ofInt 6).toInt32 = (6 : Int32) := by decide +kernel
theorem kc_iconst_3 : Int32.ofInt 3 = (3 : Int32) := by decide +kernel
theorem kc_iconst_5 : Int32.ofInt 5 = (5 : Int32) := by decide +kernel
theorem kc_iconst_0 : Int32.ofInt 0 = (0 : Int32) := by decide +kernel
theorem kc_iconst_2 : Int32.ofInt 2 = (2 : Int32) := by decide +kernel
theorem kc_iconst_4 : Int32.ofInt 4 = (4 : Int32) := by decide +kernel
theorem d2_0 : decode bS 0 = .ok (.aload_n 0, 1) := by decide +kernel
theorem d2_1 : decode bS 1 = .ok (.invokespecial 1, 3) := by decide +kernel
theorem d2_4 : decode bS 4 = .ok (.aload_n 0, 1) := by decide +kernel
theorem d2_5 : decode bS 5 = .ok (.bipush 8, 2) := by decide +kernel
theorem kc_bipush_8 : (Int8.ofInt 8).toInt32 = (8 : Int32) := by decide +kernel
theorem d2_7 : decode bS 7 = .ok (.anewarray 7, 3) := by decide +kernel
theorem d2_10 : decode bS 10 = .ok (.putfield 9, 3) := by decide +kernel
theorem d2_13 : decode bS 13 = .ok (.aload_n 0, 1) := by decide +kernel
theorem d2_14 : decode bS 14 = .ok (.bipush 8, 2) := by decide +kernel
theorem d2_16 : decode bS 16 = .ok (.anewarray 7, 3) := by decide +kernel
theorem d2_19 : decode bS 19 = .ok (.putfield 15, 3) := by decide +kernel
theorem d2_22 : decode bS 22 = .ok (.aload_n 0, 1) := by decide +kernel
theorem d2_23 : decode bS 23 = .ok (.bipush 8, 2) := by decide +kernel
theorem d2_25 : decode bS 25 = .ok (.anewarray 7, 3) := by decide +kernel
theorem d2_28 : decode bS 28 = .ok (.putfield 18, 3) := by decide +kernel
theorem d2_31 : decode bS 31 = .ok (.aload_n 0, 1) := by decide +kernel
theorem d2_32 : decode bS 32 = .ok (.bipush 8, 2) := by decide +kernel
theorem d2_34 : decode bS 34 = .ok (.newarray .int, 2) := by decide +kernel
theorem d2_36 : decode bS 36 = .ok (.putfield 21, 3) := by decide +kernel
theorem d2_39 : decode bS 39 = .ok (.aload_n 0, 1) := by decide +kernel
theorem d2_40 : decode bS 40 = .ok (.bipush 9, 2) := by decide +kernel
theorem d2_42 : decode bS 42 = .ok (.newarray .int, 2) := by decide +kernel
theorem d2_44 : decode bS 44 = .ok (.putfield 25, 3) := by decide +kernel
theorem d2_47 : decode bS 47 = .ok (.aload_n 0, 1) := by decide +kernel
theorem d2_48 : decode bS 48 = .ok (.bipush 8, 2) := by decide +kernel
theorem d2_50 : decode bS 50 = .ok (.anewarray 7, 3) := by decide +kernel
theorem d2_53 : decode bS 53 = .ok (.putfield 28, 3) := by decide +kernel
theorem d2_56 : decode bS 56 = .ok (.aload_n 0, 1) := by decide +kernel
theorem d2_57 : decode bS 57 = .ok (.sipush 256, 3) := by decide +kernel
theorem kc_sipush_256 : (Int16.ofInt 256).toInt32 = (256 : Int32) := by decide +kernel
theorem d2_60 : decode bS 60 = .ok (.newarray .char, 2) := by decide +kernel
theorem d2_62 : decode bS 62 = .ok (.putfield 31, 3) := by decide +kernel
theorem d2_65 : decode bS 65 = .ok (.return_, 1) := by decide +kernel
theorem pn_com_example_medis_medis_engine_ElementAttributes : plainName "com/example/medis/medis/engine/ElementAttributes" = true := by first | (simp [plainName, overriddenIn]; done) | decide +kernel
theorem pd___V : parseMethodDescriptor "()V" = some ⟨[], none⟩ := by decide +kernel
theorem kc_iconst_m1 : Int32.ofInt (-1) = (-1 : Int32) := by decide +kernel
theorem d4_0 : decode bP 0 = .ok (.aload_n 0, 1) := by decide +kernel
theorem d4_1 : decode bP 1 = .ok (.getfield 35, 3) := by decide +kernel
theorem d4_4 : decode bP 4 = .ok (.aload_n 0, 1) := by decide +kernel
theorem d4_5 : decode bP 5 = .ok (.getfield 9, 3) := by decide +kernel
theorem d4_8 : decode bP 8 = .ok (.arraylength, 1) := by decide +kernel
theorem d4_9 : decode bP 9 = .ok (.if_icmp .ne 96, 3) := by decide +kernel
theorem d4_105 : decode bP 105 = .ok (.aload_n 0, 1) := by decide +kernel
theorem d4_106 : decode bP 106 = .ok (.getfield 9, 3) := by decide +kernel
theorem d4_109 : decode bP 109 = .ok (.aload_n 0, 1) := by decide +kernel
theorem d4_110 : decode bP 110 = .ok (.getfield 35, 3) := by decide +kernel
theorem d4_113 : decode bP 113 = .ok (.aload_n 1, 1) := by decide +kernel
theorem d4_114 : decode bP 114 = .ok (.aastore, 1) := by decide +kernel
theorem d4_115 : decode bP 115 = .ok (.aload_n 0, 1) := by decide +kernel
theorem d4_116 : decode bP 116 = .ok (.getfield 21, 3) := by decide +kernel
theorem d4_119 : decode bP 119 = .ok (.aload_n 0, 1) := by decide +kernel
theorem d4_120 : decode bP 120 = .ok (.getfield 35, 3) := by decide +kernel
theorem d4_123 : decode bP 123 = .ok (.iload_n 2, 1) := by decide +kernel
theorem d4_124 : decode bP 124 = .ok (.iastore, 1) := by decide +kernel
theorem d4_125 : decode bP 125 = .ok (.aload_n 0, 1) := by decide +kernel
theorem d4_126 : decode bP 126 = .ok (.getfield 15, 3) := by decide +kernel
theorem d4_129 : decode bP 129 = .ok (.aload_n 0, 1) := by decide +kernel
theorem d4_130 : decode bP 130 = .ok (.getfield 35, 3) := by decide +kernel
theorem d4_133 : decode bP 133 = .ok (.ldc 56, 2) := by decide +kernel
theorem d4_135 : decode bP 135 = .ok (.aastore, 1) := by decide +kernel
theorem d4_136 : decode bP 136 = .ok (.aload_n 0, 1) := by decide +kernel
theorem d4_137 : decode bP 137 = .ok (.getfield 18, 3) := by decide +kernel
theorem d4_140 : decode bP 140 = .ok (.aload_n 0, 1) := by decide +kernel
theorem d4_141 : decode bP 141 = .ok (.getfield 35, 3) := by decide +kernel
theorem d4_144 : decode bP 144 = .ok (.aload_n 1, 1) := by decide +kernel
theorem d4_145 : decode bP 145 = .ok (.aastore, 1) := by decide +kernel
theorem d4_146 : decode bP 146 = .ok (.aload_n 0, 1) := by decide +kernel
theorem d4_147 : decode bP 147 = .ok (.getfield 25, 3) := by decide +kernel
theorem d4_150 : decode bP 150 = .ok (.aload_n 0, 1) := by decide +kernel
theorem d4_151 : decode bP 151 = .ok (.getfield 35, 3) := by decide +kernel
theorem d4_154 : decode bP 154 = .ok (.iconst 1, 1) := by decide +kernel
theorem d4_155 : decode bP 155 = .ok (.iadd, 1) := by decide +kernel
theorem kf_0 : ((0 : Int32) + (1 : Int32)) = (1 : Int32) := by decide +kernel
theorem d4_156 : decode bP 156 = .ok (.aload_n 0, 1) := by decide +kernel
theorem d4_157 : decode bP 157 = .ok (.getfield 25, 3) := by decide +kernel
theorem d4_160 : decode bP 160 = .ok (.aload_n 0, 1) := by decide +kernel
theorem d4_161 : decode bP 161 = .ok (.getfield 35, 3) := by decide +kernel
theorem d4_164 : decode bP 164 = .ok (.iaload, 1) := by decide +kernel
theorem d4_165 : decode bP 165 = .ok (.iastore, 1) := by decide +kernel
theorem d4_166 : decode bP 166 = .ok (.aload_n 0, 1) := by decide +kernel
theorem d4_167 : decode bP 167 = .ok (.dup, 1) := by decide +kernel
theorem d4_168 : decode bP 168 = .ok (.getfield 35, 3) := by decide +kernel
theorem d4_171 : decode bP 171 = .ok (.iconst 1, 1) := by decide +kernel
theorem d4_172 : decode bP 172 = .ok (.iadd, 1) := by decide +kernel
theorem d4_173 : decode bP 173 = .ok (.putfield 35, 3) := by decide +kernel
theorem d4_176 : decode bP 176 = .ok (.return_, 1) := by decide +kernel
theorem pd__Ljava_lang_String_I_V : parseMethodDescriptor "(Ljava/lang/String;I)V" = some ⟨[(.object "java/lang/String"), .int], none⟩ := by decide +kernel
theorem d5_0 : decode bD 0 = .ok (.aload_n 0, 1) := by decide +kernel
theorem d5_1 : decode bD 1 = .ok (.getfield 25, 3) := by decide +kernel
theorem d5_4 : decode bD 4 = .ok (.aload_n 0, 1) := by decide +kernel
theorem d5_5 : decode bD 5 = .ok (.getfield 35, 3) := by decide +kernel
theorem d5_8 : decode bD 8 = .ok (.iaload, 1) := by decide +kernel
theorem d5_9 : decode bD 9 = .ok (.istore 4, 2) := by decide +kernel
theorem d5_11 : decode bD 11 = .ok (.iload 4, 2) := by decide +kernel
theorem d5_13 : decode bD 13 = .ok (.iload_n 3, 1) := by decide +kernel
theorem d5_14 : decode bD 14 = .ok (.iadd, 1) := by decide +kernel
theorem d5_15 : decode bD 15 = .ok (.aload_n 0, 1) := by decide +kernel
theorem d5_16 : decode bD 16 = .ok (.getfield 31, 3) := by decide +kernel
theorem d5_19 : decode bD 19 = .ok (.arraylength, 1) := by decide +kernel
theorem d5_20 : decode bD 20 = .ok (.if_icmp .le 28, 3) := by decide +kernel
theorem d5_48 : decode bD 48 = .ok (.aload_n 1, 1) := by decide +kernel
theorem d5_49 : decode bD 49 = .ok (.iload_n 2, 1) := by decide +kernel
theorem d5_50 : decode bD 50 = .ok (.aload_n 0, 1) := by decide +kernel
theorem d5_51 : decode bD 51 = .ok (.getfield 31, 3) := by decide +kernel
theorem d5_54 : decode bD 54 = .ok (.iload 4, 2) := by decide +kernel
theorem d5_56 : decode bD 56 = .ok (.iload_n 3, 1) := by decide +kernel
theorem d5_57 : decode bD 57 = .ok (.invokestatic 81, 3) := by decide +kernel
theorem d5_60 : decode bD 60 = .ok (.aload_n 0, 1) := by decide +kernel
theorem d5_61 : decode bD 61 = .ok (.getfield 25, 3) := by decide +kernel
theorem d5_64 : decode bD 64 = .ok (.aload_n 0, 1) := by decide +kernel
theorem d5_65 : decode bD 65 = .ok (.getfield 35, 3) := by decide +kernel
theorem d5_68 : decode bD 68 = .ok (.iload 4, 2) := by decide +kernel
theorem d5_70 : decode bD 70 = .ok (.iload_n 3, 1) := by decide +kernel
theorem d5_71 : decode bD 71 = .ok (.iadd, 1) := by decide +kernel
theorem d5_72 : decode bD 72 = .ok (.iastore, 1) := by decide +kernel
theorem d5_73 : decode bD 73 = .ok (.return_, 1) := by decide +kernel
theorem pd___CII_V : parseMethodDescriptor "([CII)V" = some ⟨[(.array .char), .int, .int], none⟩ := by decide +kernel
theorem d6_0 : decode bF 0 = .ok (.aload_n 0, 1) := by decide +kernel
theorem d6_1 : decode bF 1 = .ok (.getfield 25, 3) := by decide +kernel
theorem d6_4 : decode bF 4 = .ok (.aload_n 0, 1) := by decide +kernel
theorem d6_5 : decode bF 5 = .ok (.getfield 35, 3) := by decide +kernel
theorem d6_8 : decode bF 8 = .ok (.iconst 1, 1) := by decide +kernel
theorem d6_9 : decode bF 9 = .ok (.isub, 1) := by decide +kernel
theorem kf_1 : ((1 : Int32) - (1 : Int32)) = (0 : Int32) := by decide +kernel
theorem d6_10 : decode bF 10 = .ok (.iaload, 1) := by decide +kernel
theorem d6_11 : decode bF 11 = .ok (.istore_n 1, 1) := by decide +kernel
theorem d6_12 : decode bF 12 = .ok (.aload_n 0, 1) := by decide +kernel
theorem d6_13 : decode bF 13 = .ok (.getfield 25, 3) := by decide +kernel
theorem d6_16 : decode bF 16 = .ok (.aload_n 0, 1) := by decide +kernel
theorem d6_17 : decode bF 17 = .ok (.getfield 35, 3) := by decide +kernel
theorem d6_20 : decode bF 20 = .ok (.iaload, 1) := by decide +kernel
theorem d6_21 : decode bF 21 = .ok (.istore_n 2, 1) := by decide +kernel
theorem d6_22 : decode bF 22 = .ok (.iload_n 1, 1) := by decide +kernel
theorem d6_23 : decode bF 23 = .ok (.istore_n 3, 1) := by decide +kernel
theorem d6_24 : decode bF 24 = .ok (.iload_n 1, 1) := by decide +kernel
theorem d6_25 : decode bF 25 = .ok (.istore 4, 2) := by decide +kernel
theorem d6_27 : decode bF 27 = .ok (.iload 4, 2) := by decide +kernel
theorem d6_29 : decode bF 29 = .ok (.iload_n 2, 1) := by decide +kernel
theorem d6_30 : decode bF 30 = .ok (.if_icmp .ge 69, 3) := by decide +kernel
theorem d6_99 : decode bF 99 = .ok (.iload_n 3, 1) := by decide +kernel
theorem d6_100 : decode bF 100 = .ok (.iload_n 1, 1) := by decide +kernel
theorem d6_101 : decode bF 101 = .ok (.if_icmp .le 19, 3) := by decide +kernel
theorem d6_104 : decode bF 104 = .ok (.aload_n 0, 1) := by decide +kernel
theorem d6_105 : decode bF 105 = .ok (.getfield 31, 3) := by decide +kernel
theorem d6_108 : decode bF 108 = .ok (.iload_n 3, 1) := by decide +kernel
theorem d6_109 : decode bF 109 = .ok (.iconst 1, 1) := by decide +kernel
theorem d6_110 : decode bF 110 = .ok (.isub, 1) := by decide +kernel
theorem d6_111 : decode bF 111 = .ok (.caload, 1) := by decide +kernel
theorem d6_112 : decode bF 112 = .ok (.bipush 32, 2) := by decide +kernel
theorem d6_114 : decode bF 114 = .ok (.if_icmp .ne 6, 3) := by decide +kernel
theorem d6_117 : decode bF 117 = .ok (.iinc 3 (-1), 3) := by decide +kernel
theorem d6_120 : decode bF 120 = .ok (.aload_n 0, 1) := by decide +kernel
theorem d6_121 : decode bF 121 = .ok (.getfield 25, 3) := by decide +kernel
theorem d6_124 : decode bF 124 = .ok (.aload_n 0, 1) := by decide +kernel
theorem d6_125 : decode bF 125 = .ok (.getfield 35, 3) := by decide +kernel
theorem d6_128 : decode bF 128 = .ok (.iload_n 3, 1) := by decide +kernel
theorem d6_129 : decode bF 129 = .ok (.iastore, 1) := by decide +kernel
theorem d6_130 : decode bF 130 = .ok (.return_, 1) := by decide +kernel
theorem d6_33 : decode bF 33 = .ok (.aload_n 0, 1) := by decide +kernel
theorem d6_34 : decode bF 34 = .ok (.getfield 31, 3) := by decide +kernel
theorem d6_37 : decode bF 37 = .ok (.iload 4, 2) := by decide +kernel
theorem d6_39 : decode bF 39 = .ok (.caload, 1) := by decide +kernel
theorem d6_40 : decode bF 40 = .ok (.bipush 32, 2) := by decide +kernel
theorem d6_42 : decode bF 42 = .ok (.if_icmp .eq 22, 3) := by decide +kernel
theorem d6_64 : decode bF 64 = .ok (.iload_n 3, 1) := by decide +kernel
theorem d6_65 : decode bF 65 = .ok (.iload_n 1, 1) := by decide +kernel
theorem d6_66 : decode bF 66 = .ok (.if_icmp .le 27, 3) := by decide +kernel
theorem d6_69 : decode bF 69 = .ok (.aload_n 0, 1) := by decide +kernel
theorem d6_70 : decode bF 70 = .ok (.getfield 31, 3) := by decide +kernel
theorem d6_73 : decode bF 73 = .ok (.iload_n 3, 1) := by decide +kernel
theorem d6_74 : decode bF 74 = .ok (.iconst 1, 1) := by decide +kernel
theorem d6_75 : decode bF 75 = .ok (.isub, 1) := by decide +kernel
theorem d6_76 : decode bF 76 = .ok (.caload, 1) := by decide +kernel
theorem d6_77 : decode bF 77 = .ok (.bipush 32, 2) := by decide +kernel
theorem d6_79 : decode bF 79 = .ok (.if_icmp .eq 14, 3) := by decide +kernel
theorem d6_82 : decode bF 82 = .ok (.aload_n 0, 1) := by decide +kernel
theorem d6_83 : decode bF 83 = .ok (.getfield 31, 3) := by decide +kernel
theorem d6_86 : decode bF 86 = .ok (.iload_n 3, 1) := by decide +kernel
theorem d6_87 : decode bF 87 = .ok (.iinc 3 1, 3) := by decide +kernel
theorem d6_90 : decode bF 90 = .ok (.bipush 32, 2) := by decide +kernel
theorem d6_92 : decode bF 92 = .ok (.castore, 1) := by decide +kernel
theorem d6_45 : decode bF 45 = .ok (.aload_n 0, 1) := by decide +kernel
theorem d6_46 : decode bF 46 = .ok (.getfield 31, 3) := by decide +kernel
theorem d6_49 : decode bF 49 = .ok (.iload_n 3, 1) := by decide +kernel
theorem d6_50 : decode bF 50 = .ok (.iinc 3 1, 3) := by decide +kernel
theorem d6_53 : decode bF 53 = .ok (.aload_n 0, 1) := by decide +kernel
theorem d6_54 : decode bF 54 = .ok (.getfield 31, 3) := by decide +kernel
theorem d6_57 : decode bF 57 = .ok (.iload 4, 2) := by decide +kernel
theorem d6_59 : decode bF 59 = .ok (.caload, 1) := by decide +kernel
theorem d6_60 : decode bF 60 = .ok (.castore, 1) := by decide +kernel
theorem d6_61 : decode bF 61 = .ok (.goto 32, 3) := by decide +kernel
theorem d6_93 : decode bF 93 = .ok (.iinc 4 1, 3) := by decide +kernel
theorem d6_96 : decode bF 96 = .ok (.goto (-69), 3) := by decide +kernel
theorem d7_0 : decode bZ 0 = .ok (.iload_n 0, 1) := by decide +kernel
theorem d7_1 : decode bZ 1 = .ok (.iload_n 1, 1) := by decide +kernel
theorem d7_2 : decode bZ 2 = .ok (.if_icmp .ge 13, 3) := by decide +kernel
theorem d7_15 : decode bZ 15 = .ok (.iconst 0, 1) := by decide +kernel
theorem d7_16 : decode bZ 16 = .ok (.ireturn, 1) := by decide +kernel
theorem d7_5 : decode bZ 5 = .ok (.iload_n 2, 1) := by decide +kernel
theorem d7_6 : decode bZ 6 = .ok (.bipush 32, 2) := by decide +kernel
theorem d7_8 : decode bZ 8 = .ok (.if_icmp .eq 7, 3) := by decide +kernel
theorem d7_11 : decode bZ 11 = .ok (.iconst 1, 1) := by decide +kernel
theorem d7_12 : decode bZ 12 = .ok (.goto 4, 3) := by decide +kernel
theorem pd__IIC_Z : parseMethodDescriptor "(IIC)Z" = some ⟨[.int, .int, .char], some .boolean⟩ := by decide +kernel
theorem d8_0 : decode baB 0 = .ok (.iload_n 2, 1) := by decide +kernel
theorem d8_1 : decode baB 1 = .ok (.ifCond .eq 11, 3) := by decide +kernel
theorem d8_12 : decode baB 12 = .ok (.iload_n 1, 1) := by decide +kernel
theorem d8_13 : decode baB 13 = .ok (.ireturn, 1) := by decide +kernel
theorem d8_4 : decode baB 4 = .ok (.aload_n 0, 1) := by decide +kernel
theorem d8_5 : decode baB 5 = .ok (.iload_n 1, 1) := by decide +kernel
theorem d8_6 : decode baB 6 = .ok (.iload_n 3, 1) := by decide +kernel
theorem d8_7 : decode baB 7 = .ok (.castore, 1) := by decide +kernel
theorem d8_8 : decode baB 8 = .ok (.iload_n 1, 1) := by decide +kernel
theorem d8_9 : decode baB 9 = .ok (.iconst 1, 1) := by decide +kernel
theorem d8_10 : decode baB 10 = .ok (.iadd, 1) := by decide +kernel
theorem d8_11 : decode baB 11 = .ok (.ireturn, 1) := by decide +kernel
theorem pd___CIZC_I : parseMethodDescriptor "([CIZC)I" = some ⟨[(.array .char), .int, .boolean, .char], some .int⟩ := by decide +kernel
theorem d9_0 : decode bI 0 = .ok (.aload_n 0, 1) := by decide +kernel
theorem d9_1 : decode bI 1 = .ok (.getfield 28, 3) := by decide +kernel
theorem d9_4 : decode bI 4 = .ok (.iload_n 1, 1) := by decide +kernel
theorem d9_5 : decode bI 5 = .ok (.aaload, 1) := by decide +kernel
theorem d9_6 : decode bI 6 = .ok (.ifnonnull 41, 3) := by decide +kernel
theorem d9_9 : decode bI 9 = .ok (.aload_n 0, 1) := by decide +kernel
theorem d9_10 : decode bI 10 = .ok (.getfield 28, 3) := by decide +kernel
theorem d9_13 : decode bI 13 = .ok (.iload_n 1, 1) := by decide +kernel
theorem d9_14 : decode bI 14 = .ok (.new 7, 3) := by decide +kernel
theorem d9_17 : decode bI 17 = .ok (.dup, 1) := by decide +kernel
theorem d9_18 : decode bI 18 = .ok (.aload_n 0, 1) := by decide +kernel
theorem d9_19 : decode bI 19 = .ok (.getfield 31, 3) := by decide +kernel
theorem d9_22 : decode bI 22 = .ok (.aload_n 0, 1) := by decide +kernel
theorem d9_23 : decode bI 23 = .ok (.getfield 25, 3) := by decide +kernel
theorem d9_26 : decode bI 26 = .ok (.iload_n 1, 1) := by decide +kernel
theorem d9_27 : decode bI 27 = .ok (.iaload, 1) := by decide +kernel
theorem d9_28 : decode bI 28 = .ok (.aload_n 0, 1) := by decide +kernel
theorem d9_29 : decode bI 29 = .ok (.getfield 25, 3) := by decide +kernel
theorem d9_32 : decode bI 32 = .ok (.iload_n 1, 1) := by decide +kernel
theorem d9_33 : decode bI 33 = .ok (.iconst 1, 1) := by decide +kernel
theorem d9_34 : decode bI 34 = .ok (.iadd, 1) := by decide +kernel
theorem d9_35 : decode bI 35 = .ok (.iaload, 1) := by decide +kernel
theorem d9_36 : decode bI 36 = .ok (.aload_n 0, 1) := by decide +kernel
theorem d9_37 : decode bI 37 = .ok (.getfield 25, 3) := by decide +kernel
theorem d9_40 : decode bI 40 = .ok (.iload_n 1, 1) := by decide +kernel
theorem d9_41 : decode bI 41 = .ok (.iaload, 1) := by decide +kernel
theorem d9_42 : decode bI 42 = .ok (.isub, 1) := by decide +kernel
theorem d9_43 : decode bI 43 = .ok (.invokespecial 39, 3) := by decide +kernel
theorem d10_0 : decode bW 0 = .ok (.aload_n 0, 1) := by decide +kernel
theorem d10_1 : decode bW 1 = .ok (.aload_n 1, 1) := by decide +kernel
theorem d10_2 : decode bW 2 = .ok (.iload_n 2, 1) := by decide +kernel
theorem d10_3 : decode bW 3 = .ok (.iload_n 3, 1) := by decide +kernel
theorem d10_4 : decode bW 4 = .ok (.aload_n 1, 1) := by decide +kernel
theorem d10_5 : decode bW 5 = .ok (.iload_n 2, 1) := by decide +kernel
theorem d10_6 : decode bW 6 = .ok (.iload_n 3, 1) := by decide +kernel
theorem d10_7 : decode bW 7 = .ok (.invokestatic 30, 3) := by decide +kernel
theorem d11_0 : decode bX 0 = .ok (.iload_n 1, 1) := by decide +kernel
theorem d11_1 : decode bX 1 = .ok (.iload_n 2, 1) := by decide +kernel
theorem d11_2 : decode bX 2 = .ok (.aload_n 0, 1) := by decide +kernel
theorem d11_3 : decode bX 3 = .ok (.arraylength, 1) := by decide +kernel
theorem d11_4 : decode bX 4 = .ok (.invokestatic 34, 3) := by decide +kernel
theorem d12_0 : decode bG 0 = .ok (.iload_n 0, 1) := by decide +kernel
theorem d12_1 : decode bG 1 = .ok (.iload_n 1, 1) := by decide +kernel
theorem d12_2 : decode bG 2 = .ok (.iload_n 2, 1) := by decide +kernel
theorem d12_3 : decode bG 3 = .ok (.getstatic 1053, 3) := by decide +kernel
theorem d12_6 : decode bG 6 = .ok (.invokestatic 1065, 3) := by decide +kernel
theorem d13_0 : decode bK 0 = .ok (.iload_n 2, 1) := by decide +kernel
theorem d13_1 : decode bK 1 = .ok (.iload_n 0, 1) := by decide +kernel
theorem d13_2 : decode bK 2 = .ok (.ior, 1) := by decide +kernel
theorem kf_2 : ((256 : Int32) ||| (0 : Int32)) = (256 : Int32) := by decide +kernel
theorem d13_3 : decode bK 3 = .ok (.iload_n 1, 1) := by decide +kernel
theorem d13_4 : decode bK 4 = .ok (.ior, 1) := by decide +kernel
theorem d13_5 : decode bK 5 = .ok (.ifCond .lt 10, 3) := by decide +kernel
theorem d13_8 : decode bK 8 = .ok (.iload_n 1, 1) := by decide +kernel
theorem d13_9 : decode bK 9 = .ok (.iload_n 2, 1) := by decide +kernel
theorem d13_10 : decode bK 10 = .ok (.iload_n 0, 1) := by decide +kernel
theorem d13_11 : decode bK 11 = .ok (.isub, 1) := by decide +kernel
theorem kf_3 : ((256 : Int32) - (0 : Int32)) = (256 : Int32) := by decide +kernel
theorem d13_12 : decode bK 12 = .ok (.if_icmp .le 11, 3) := by decide +kernel
theorem d13_23 : decode bK 23 = .ok (.iload_n 0, 1) := by decide +kernel
theorem d13_24 : decode bK 24 = .ok (.ireturn, 1) := by decide +kernel
theorem pn_jdk_internal_util_Preconditions : plainName "jdk/internal/util/Preconditions" = true := by first | (simp [plainName, overriddenIn]; done) | decide +kernel
theorem pd__IIILjava_util_function_BiFunction__I : parseMethodDescriptor "(IIILjava/util/function/BiFunction;)I" = some ⟨[.int, .int, .int, (.object "java/util/function/BiFunction")], some .int⟩ := by decide +kernel
theorem d12_9 : decode bG 9 = .ok (.ireturn, 1) := by decide +kernel
theorem pn_java_lang_String : plainName "java/lang/String" = true := by first | (simp [plainName, overriddenIn]; done) | decide +kernel
theorem pd__III_I : parseMethodDescriptor "(III)I" = some ⟨[.int, .int, .int], some .int⟩ := by decide +kernel
theorem d11_7 : decode bX 7 = .ok (.pop, 1) := by decide +kernel
theorem d11_8 : decode bX 8 = .ok (.aconst_null, 1) := by decide +kernel
theorem d11_9 : decode bX 9 = .ok (.areturn, 1) := by decide +kernel
theorem pd___CII_Ljava_lang_Void_ : parseMethodDescriptor "([CII)Ljava/lang/Void;" = some ⟨[(.array .char), .int, .int], some (.object "java/lang/Void")⟩ := by decide +kernel
theorem d10_10 : decode bW 10 = .ok (.invokespecial 27, 3) := by decide +kernel
theorem d14_0 : decode bE 0 = .ok (.aload_n 0, 1) := by decide +kernel
theorem d14_1 : decode bE 1 = .ok (.invokespecial 1, 3) := by decide +kernel
theorem d14_4 : decode bE 4 = .ok (.iload_n 3, 1) := by decide +kernel
theorem d14_5 : decode bE 5 = .ok (.ifCond .ne 22, 3) := by decide +kernel
theorem d14_27 : decode bE 27 = .ok (.getstatic 38, 3) := by decide +kernel
theorem d14_30 : decode bE 30 = .ok (.ifCond .eq 28, 3) := by decide +kernel
theorem d14_33 : decode bE 33 = .ok (.aload_n 1, 1) := by decide +kernel
theorem d14_34 : decode bE 34 = .ok (.iload_n 2, 1) := by decide +kernel
theorem d14_35 : decode bE 35 = .ok (.iload_n 3, 1) := by decide +kernel
theorem d14_36 : decode bE 36 = .ok (.invokestatic 177, 3) := by decide +kernel
theorem d15_0 : decode bH 0 = .ok (.iload_n 2, 1) := by decide +kernel
theorem d15_1 : decode bH 1 = .ok (.newarray .byte, 2) := by decide +kernel
theorem d15_3 : decode bH 3 = .ok (.astore_n 3, 1) := by decide +kernel
theorem d15_4 : decode bH 4 = .ok (.aload_n 0, 1) := by decide +kernel
theorem d15_5 : decode bH 5 = .ok (.iload_n 1, 1) := by decide +kernel
theorem d15_6 : decode bH 6 = .ok (.aload_n 3, 1) := by decide +kernel
theorem d15_7 : decode bH 7 = .ok (.iconst 0, 1) := by decide +kernel
theorem d15_8 : decode bH 8 = .ok (.iload_n 2, 1) := by decide +kernel
theorem d15_9 : decode bH 9 = .ok (.invokestatic 115, 3) := by decide +kernel
theorem d16_0 : decode bM 0 = .ok (.iconst 0, 1) := by decide +kernel
theorem d16_1 : decode bM 1 = .ok (.istore 5, 2) := by decide +kernel
theorem d16_3 : decode bM 3 = .ok (.iload 5, 2) := by decide +kernel
theorem d16_5 : decode bM 5 = .ok (.iload 4, 2) := by decide +kernel
theorem d16_7 : decode bM 7 = .ok (.if_icmp .ge 37, 3) := by decide +kernel
theorem d16_44 : decode bM 44 = .ok (.iload 4, 2) := by decide +kernel
theorem d16_46 : decode bM 46 = .ok (.ireturn, 1) := by decide +kernel
theorem d16_10 : decode bM 10 = .ok (.aload_n 0, 1) := by decide +kernel
theorem d16_11 : decode bM 11 = .ok (.iload_n 1, 1) := by decide +kernel
theorem d16_12 : decode bM 12 = .ok (.caload, 1) := by decide +kernel
theorem d16_13 : decode bM 13 = .ok (.istore 6, 2) := by decide +kernel
theorem d16_15 : decode bM 15 = .ok (.iload 6, 2) := by decide +kernel
theorem d16_17 : decode bM 17 = .ok (.sipush 255, 3) := by decide +kernel
theorem d16_20 : decode bM 20 = .ok (.if_icmp .le 6, 3) := by decide +kernel
theorem d16_26 : decode bM 26 = .ok (.aload_n 2, 1) := by decide +kernel
theorem d16_27 : decode bM 27 = .ok (.iload_n 3, 1) := by decide +kernel
theorem d16_28 : decode bM 28 = .ok (.iload 6, 2) := by decide +kernel
theorem d16_30 : decode bM 30 = .ok (.i2b, 1) := by decide +kernel
theorem d16_31 : decode bM 31 = .ok (.bastore, 1) := by decide +kernel
theorem d16_32 : decode bM 32 = .ok (.iinc 1 1, 3) := by decide +kernel
theorem d16_35 : decode bM 35 = .ok (.iinc 3 1, 3) := by decide +kernel
theorem d16_38 : decode bM 38 = .ok (.iinc 5 1, 3) := by decide +kernel
theorem d16_41 : decode bM 41 = .ok (.goto (-38), 3) := by decide +kernel
theorem pn_java_lang_StringUTF16 : plainName "java/lang/StringUTF16" = true := by first | (simp [plainName, overriddenIn]; done) | decide +kernel
theorem pd___CI_BII_I : parseMethodDescriptor "([CI[BII)I" = some ⟨[(.array .char), .int, (.array .byte), .int, .int], some .int⟩ := by decide +kernel
theorem d15_12 : decode bH 12 = .ok (.istore 4, 2) := by decide +kernel
theorem d15_14 : decode bH 14 = .ok (.iload 4, 2) := by decide +kernel
theorem d15_16 : decode bH 16 = .ok (.iload_n 2, 1) := by decide +kernel
theorem d15_17 : decode bH 17 = .ok (.if_icmp .eq 40, 3) := by decide +kernel
theorem d15_57 : decode bH 57 = .ok (.aload_n 3, 1) := by decide +kernel
theorem d15_58 : decode bH 58 = .ok (.areturn, 1) := by decide +kernel
theorem pd___CII__B : parseMethodDescriptor "([CII)[B" = some ⟨[(.array .char), .int, .int], some (.array .byte)⟩ := by decide +kernel
theorem d14_39 : decode bE 39 = .ok (.astore 5, 2) := by decide +kernel
theorem d14_41 : decode bE 41 = .ok (.aload_n 0, 1) := by decide +kernel
theorem d14_42 : decode bE 42 = .ok (.aload 5, 2) := by decide +kernel
theorem d14_44 : decode bE 44 = .ok (.iload_n 3, 1) := by decide +kernel
theorem d14_45 : decode bE 45 = .ok (.invokestatic 47, 3) := by decide +kernel
theorem d17_0 : decode bN 0 = .ok (.iload_n 1, 1) := by decide +kernel
theorem d17_1 : decode bN 1 = .ok (.aload_n 0, 1) := by decide +kernel
theorem d17_2 : decode bN 2 = .ok (.arraylength, 1) := by decide +kernel
theorem d17_3 : decode bN 3 = .ok (.isub, 1) := by decide +kernel
theorem d17_4 : decode bN 4 = .ok (.bipush 31, 2) := by decide +kernel
theorem kc_bipush_31 : (Int8.ofInt 31).toInt32 = (31 : Int32) := by decide +kernel
theorem d17_6 : decode bN 6 = .ok (.iushr, 1) := by decide +kernel
theorem kf_4 : (((0 : Int32)).toUInt32 >>> ((31 : Int32) &&& 31).toUInt32).toInt32 = (0 : Int32) := by decide +kernel
theorem d17_7 : decode bN 7 = .ok (.i2b, 1) := by decide +kernel
theorem kf_5 : ((0 : Int32)).toInt8.toInt32 = (0 : Int32) := by decide +kernel
theorem d17_8 : decode bN 8 = .ok (.ireturn, 1) := by decide +kernel
theorem pd___BI_B : parseMethodDescriptor "([BI)B" = some ⟨[(.array .byte), .int], some .byte⟩ := by decide +kernel
theorem d14_48 : decode bE 48 = .ok (.putfield 15, 3) := by decide +kernel
theorem d14_51 : decode bE 51 = .ok (.aload_n 0, 1) := by decide +kernel
theorem d14_52 : decode bE 52 = .ok (.aload 5, 2) := by decide +kernel
theorem d14_54 : decode bE 54 = .ok (.putfield 9, 3) := by decide +kernel
theorem d14_57 : decode bE 57 = .ok (.return_, 1) := by decide +kernel
theorem d14_8 : decode bE 8 = .ok (.aload_n 0, 1) := by decide +kernel
theorem d14_9 : decode bE 9 = .ok (.ldc 7, 2) := by decide +kernel
theorem d14_11 : decode bE 11 = .ok (.getfield 9, 3) := by decide +kernel
theorem d14_14 : decode bE 14 = .ok (.putfield 9, 3) := by decide +kernel
theorem d14_17 : decode bE 17 = .ok (.aload_n 0, 1) := by decide +kernel
theorem d14_18 : decode bE 18 = .ok (.ldc 7, 2) := by decide +kernel
theorem d14_20 : decode bE 20 = .ok (.getfield 15, 3) := by decide +kernel
theorem d14_23 : decode bE 23 = .ok (.putfield 15, 3) := by decide +kernel
theorem d14_26 : decode bE 26 = .ok (.return_, 1) := by decide +kernel
theorem pd___CIILjava_lang_Void__V : parseMethodDescriptor "([CIILjava/lang/Void;)V" = some ⟨[(.array .char), .int, .int, (.object "java/lang/Void")], none⟩ := by decide +kernel
theorem d10_13 : decode bW 13 = .ok (.return_, 1) := by decide +kernel
theorem d9_46 : decode bI 46 = .ok (.aastore, 1) := by decide +kernel
theorem d9_47 : decode bI 47 = .ok (.aload_n 0, 1) := by decide +kernel
theorem d9_48 : decode bI 48 = .ok (.getfield 28, 3) := by decide +kernel
theorem d9_51 : decode bI 51 = .ok (.iload_n 1, 1) := by decide +kernel
theorem d9_52 : decode bI 52 = .ok (.aaload, 1) := by decide +kernel
theorem d9_53 : decode bI 53 = .ok (.areturn, 1) := by decide +kernel
theorem pd__I_Ljava_lang_String_ : parseMethodDescriptor "(I)Ljava/lang/String;" = some ⟨[.int], some (.object "java/lang/String")⟩ := by decide +kernel
theorem d18_0 : decode bJ 0 = .ok (.aload_n 0, 1) := by decide +kernel
theorem d18_1 : decode bJ 1 = .ok (.getfield 35, 3) := by decide +kernel
theorem d18_4 : decode bJ 4 = .ok (.ireturn, 1) := by decide +kernel
theorem pd___I : parseMethodDescriptor "()I" = some ⟨[], some .int⟩ := by decide +kernel
theorem d19_0 : decode bO 0 = .ok (.aload_n 0, 1) := by decide +kernel
theorem d19_1 : decode bO 1 = .ok (.getfield 9, 3) := by decide +kernel
theorem d19_4 : decode bO 4 = .ok (.arraylength, 1) := by decide +kernel
theorem d19_5 : decode bO 5 = .ok (.aload_n 0, 1) := by decide +kernel
theorem d19_6 : decode bO 6 = .ok (.invokevirtual 335, 3) := by decide +kernel
theorem d20_0 : decode bC 0 = .ok (.getstatic 38, 3) := by decide +kernel
theorem d20_3 : decode bC 3 = .ok (.ifCond .eq 10, 3) := by decide +kernel
theorem d20_6 : decode bC 6 = .ok (.aload_n 0, 1) := by decide +kernel
theorem d20_7 : decode bC 7 = .ok (.getfield 15, 3) := by decide +kernel
theorem d20_10 : decode bC 10 = .ok (.goto 4, 3) := by decide +kernel
theorem d20_14 : decode bC 14 = .ok (.ireturn, 1) := by decide +kernel
theorem pd___B : parseMethodDescriptor "()B" = some ⟨[], some .byte⟩ := by decide +kernel
theorem d19_9 : decode bO 9 = .ok (.ishr, 1) := by decide +kernel
theorem d19_10 : decode bO 10 = .ok (.ireturn, 1) := by decide +kernel
theorem d21_0 : decode baA 0 = .ok (.iload_n 3, 1) := by decide +kernel
theorem d21_1 : decode baA 1 = .ok (.iload_n 2, 1) := by decide +kernel
theorem d21_2 : decode baA 2 = .ok (.if_icmp .ge 14, 3) := by decide +kernel
theorem d21_16 : decode baA 16 = .ok (.iconst 1, 1) := by decide +kernel
theorem d21_17 : decode baA 17 = .ok (.goto 4, 3) := by decide +kernel
theorem d21_21 : decode baA 21 = .ok (.ireturn, 1) := by decide +kernel
theorem d21_5 : decode baA 5 = .ok (.aload_n 0, 1) := by decide +kernel
theorem d21_6 : decode baA 6 = .ok (.iload_n 3, 1) := by decide +kernel
theorem d21_7 : decode baA 7 = .ok (.invokevirtual 7, 3) := by decide +kernel
theorem d22_0 : decode bL 0 = .ok (.aload_n 0, 1) := by decide +kernel
theorem d22_1 : decode bL 1 = .ok (.invokevirtual 492, 3) := by decide +kernel
theorem d23_0 : decode bB 0 = .ok (.getstatic 38, 3) := by decide +kernel
theorem d23_3 : decode bB 3 = .ok (.ifCond .eq 14, 3) := by decide +kernel
theorem d23_6 : decode bB 6 = .ok (.aload_n 0, 1) := by decide +kernel
theorem d23_7 : decode bB 7 = .ok (.getfield 15, 3) := by decide +kernel
theorem d23_10 : decode bB 10 = .ok (.ifCond .ne 7, 3) := by decide +kernel
theorem d23_13 : decode bB 13 = .ok (.iconst 1, 1) := by decide +kernel
theorem d23_14 : decode bB 14 = .ok (.goto 4, 3) := by decide +kernel
theorem d23_18 : decode bB 18 = .ok (.ireturn, 1) := by decide +kernel
theorem pd___Z : parseMethodDescriptor "()Z" = some ⟨[], some .boolean⟩ := by decide +kernel
theorem d22_4 : decode bL 4 = .ok (.ifCond .eq 12, 3) := by decide +kernel
theorem d22_7 : decode bL 7 = .ok (.aload_n 0, 1) := by decide +kernel
theorem d22_8 : decode bL 8 = .ok (.getfield 9, 3) := by decide +kernel
theorem d22_11 : decode bL 11 = .ok (.iload_n 1, 1) := by decide +kernel
theorem d22_12 : decode bL 12 = .ok (.invokestatic 495, 3) := by decide +kernel
theorem d24_0 : decode bV 0 = .ok (.iload_n 1, 1) := by decide +kernel
theorem d24_1 : decode bV 1 = .ok (.aload_n 0, 1) := by decide +kernel
theorem d24_2 : decode bV 2 = .ok (.arraylength, 1) := by decide +kernel
theorem d24_3 : decode bV 3 = .ok (.invokestatic 9, 3) := by decide +kernel
theorem d25_0 : decode bA 0 = .ok (.iload_n 0, 1) := by decide +kernel
theorem d25_1 : decode bA 1 = .ok (.iload_n 1, 1) := by decide +kernel
theorem d25_2 : decode bA 2 = .ok (.getstatic 1053, 3) := by decide +kernel
theorem d25_5 : decode bA 5 = .ok (.invokestatic 1059, 3) := by decide +kernel
theorem d26_0 : decode bQ 0 = .ok (.iload_n 0, 1) := by decide +kernel
theorem d26_1 : decode bQ 1 = .ok (.ifCond .lt 8, 3) := by decide +kernel
theorem d26_4 : decode bQ 4 = .ok (.iload_n 0, 1) := by decide +kernel
theorem d26_5 : decode bQ 5 = .ok (.iload_n 1, 1) := by decide +kernel
theorem d26_6 : decode bQ 6 = .ok (.if_icmp .lt 10, 3) := by decide +kernel
theorem d26_16 : decode bQ 16 = .ok (.iload_n 0, 1) := by decide +kernel
theorem d26_17 : decode bQ 17 = .ok (.ireturn, 1) := by decide +kernel
theorem pd__IILjava_util_function_BiFunction__I : parseMethodDescriptor "(IILjava/util/function/BiFunction;)I" = some ⟨[.int, .int, (.object "java/util/function/BiFunction")], some .int⟩ := by decide +kernel
theorem d25_8 : decode bA 8 = .ok (.pop, 1) := by decide +kernel
theorem d25_9 : decode bA 9 = .ok (.return_, 1) := by decide +kernel
theorem pd__II_V : parseMethodDescriptor "(II)V" = some ⟨[.int, .int], none⟩ := by decide +kernel
theorem d24_6 : decode bV 6 = .ok (.aload_n 0, 1) := by decide +kernel
theorem d24_7 : decode bV 7 = .ok (.iload_n 1, 1) := by decide +kernel
theorem d24_8 : decode bV 8 = .ok (.baload, 1) := by decide +kernel
theorem d24_9 : decode bV 9 = .ok (.sipush 255, 3) := by decide +kernel
theorem d24_12 : decode bV 12 = .ok (.iand, 1) := by decide +kernel
theorem d24_13 : decode bV 13 = .ok (.i2c, 1) := by decide +kernel
theorem d24_14 : decode bV 14 = .ok (.ireturn, 1) := by decide +kernel
theorem pn_java_lang_StringLatin1 : plainName "java/lang/StringLatin1" = true := by first | (simp [plainName, overriddenIn]; done) | decide +kernel
theorem pd___BI_C : parseMethodDescriptor "([BI)C" = some ⟨[(.array .byte), .int], some .char⟩ := by decide +kernel
theorem d22_15 : decode bL 15 = .ok (.ireturn, 1) := by decide +kernel
theorem d21_10 : decode baA 10 = .ok (.aload_n 1, 1) := by decide +kernel
theorem d21_11 : decode baA 11 = .ok (.iload_n 3, 1) := by decide +kernel
theorem d21_12 : decode baA 12 = .ok (.caload, 1) := by decide +kernel
theorem d21_13 : decode baA 13 = .ok (.if_icmp .ne 7, 3) := by decide +kernel
theorem d21_20 : decode baA 20 = .ok (.iconst 0, 1) := by decide +kernel
theorem pd__Ljava_lang_String__CII_Z : parseMethodDescriptor "(Ljava/lang/String;[CII)Z" = some ⟨[(.object "java/lang/String"), (.array .char), .int, .int], some .boolean⟩ := by decide +kernel
theorem kf_6 : ((0 : Int32) + (0 : Int32)) = (0 : Int32) := by decide +kernel
theorem kf_7 : ((1 : Int32) + (1 : Int32)) = (2 : Int32) := by decide +kernel
theorem kf_8 : ((2 : Int32) - (1 : Int32)) = (1 : Int32) := by decide +kernel
theorem kf_9 : ((0 : Int32) - (0 : Int32)) = (0 : Int32) := by decide +kernel
theorem d27_0 : decode bU 0 = .ok (.aload_n 0, 1) := by decide +kernel
theorem d27_1 : decode bU 1 = .ok (.aload_n 1, 1) := by decide +kernel
theorem d27_2 : decode bU 2 = .ok (.iconst 0, 1) := by decide +kernel
theorem d27_3 : decode bU 3 = .ok (.aload_n 1, 1) := by decide +kernel
theorem d27_4 : decode bU 4 = .ok (.arraylength, 1) := by decide +kernel
theorem d27_5 : decode bU 5 = .ok (.aconst_null, 1) := by decide +kernel
theorem d27_6 : decode bU 6 = .ok (.invokespecial 27, 3) := by decide +kernel
theorem d27_9 : decode bU 9 = .ok (.return_, 1) := by decide +kernel
theorem pd___C_V : parseMethodDescriptor "([C)V" = some ⟨[(.array .char)], none⟩ := by decide +kernel
theorem d28_0 : decode bT 0 = .ok (.aload_n 0, 1) := by decide +kernel
theorem d28_1 : decode bT 1 = .ok (.aload_n 1, 1) := by decide +kernel
theorem d28_2 : decode bT 2 = .ok (.if_acmp .ne 5, 3) := by decide +kernel
theorem d28_7 : decode bT 7 = .ok (.aload_n 1, 1) := by decide +kernel
theorem d28_8 : decode bT 8 = .ok (.instanceof 10, 3) := by decide +kernel
theorem d28_11 : decode bT 11 = .ok (.ifCond .eq 43, 3) := by decide +kernel
theorem d28_14 : decode bT 14 = .ok (.aload_n 1, 1) := by decide +kernel
theorem d28_15 : decode bT 15 = .ok (.checkcast 10, 3) := by decide +kernel
theorem d28_18 : decode bT 18 = .ok (.astore_n 2, 1) := by decide +kernel
theorem d28_19 : decode bT 19 = .ok (.getstatic 38, 3) := by decide +kernel
theorem d28_22 : decode bT 22 = .ok (.ifCond .eq 14, 3) := by decide +kernel
theorem d28_25 : decode bT 25 = .ok (.aload_n 0, 1) := by decide +kernel
theorem d28_26 : decode bT 26 = .ok (.getfield 15, 3) := by decide +kernel
theorem d28_29 : decode bT 29 = .ok (.aload_n 2, 1) := by decide +kernel
theorem d28_30 : decode bT 30 = .ok (.getfield 15, 3) := by decide +kernel
theorem d28_33 : decode bT 33 = .ok (.if_icmp .ne 21, 3) := by decide +kernel
theorem d28_36 : decode bT 36 = .ok (.aload_n 0, 1) := by decide +kernel
theorem d28_37 : decode bT 37 = .ok (.getfield 9, 3) := by decide +kernel
theorem d28_40 : decode bT 40 = .ok (.aload_n 2, 1) := by decide +kernel
theorem d28_41 : decode bT 41 = .ok (.getfield 9, 3) := by decide +kernel
theorem d28_44 : decode bT 44 = .ok (.invokestatic 541, 3) := by decide +kernel
theorem d29_0 : decode bR 0 = .ok (.aload_n 0, 1) := by decide +kernel
theorem d29_1 : decode bR 1 = .ok (.arraylength, 1) := by decide +kernel
theorem d29_2 : decode bR 2 = .ok (.aload_n 1, 1) := by decide +kernel
theorem d29_3 : decode bR 3 = .ok (.arraylength, 1) := by decide +kernel
theorem d29_4 : decode bR 4 = .ok (.if_icmp .ne 30, 3) := by decide +kernel
theorem d29_7 : decode bR 7 = .ok (.iconst 0, 1) := by decide +kernel
theorem d29_8 : decode bR 8 = .ok (.istore_n 2, 1) := by decide +kernel
theorem d29_9 : decode bR 9 = .ok (.iload_n 2, 1) := by decide +kernel
theorem d29_10 : decode bR 10 = .ok (.aload_n 0, 1) := by decide +kernel
theorem d29_11 : decode bR 11 = .ok (.arraylength, 1) := by decide +kernel
theorem d29_12 : decode bR 12 = .ok (.if_icmp .ge 20, 3) := by decide +kernel
theorem d29_32 : decode bR 32 = .ok (.iconst 1, 1) := by decide +kernel
theorem d29_33 : decode bR 33 = .ok (.ireturn, 1) := by decide +kernel
theorem pd___B_B_Z : parseMethodDescriptor "([B[B)Z" = some ⟨[(.array .byte), (.array .byte)], some .boolean⟩ := by decide +kernel
theorem d28_47 : decode bT 47 = .ok (.ifCond .eq 7, 3) := by decide +kernel
theorem d28_50 : decode bT 50 = .ok (.iconst 1, 1) := by decide +kernel
theorem d28_51 : decode bT 51 = .ok (.goto 4, 3) := by decide +kernel
theorem d28_55 : decode bT 55 = .ok (.ireturn, 1) := by decide +kernel
theorem pd__Ljava_lang_Object__Z : parseMethodDescriptor "(Ljava/lang/Object;)Z" = some ⟨[(.object "java/lang/Object")], some .boolean⟩ := by decide +kernel
theorem kf_10 : ((0 : Int32) + (2 : Int32)) = (2 : Int32) := by decide +kernel
theorem kf_11 : ((256 : Int32) ||| (2 : Int32)) = (258 : Int32) := by decide +kernel
theorem kf_12 : ((256 : Int32) - (2 : Int32)) = (254 : Int32) := by decide +kernel
theorem kf_13 : ((2 : Int32) - (0 : Int32)) = (2 : Int32) := by decide +kernel
theorem kf_14 : ((2 : Int32) - (2 : Int32)) = (0 : Int32) := by decide +kernel
theorem d29_15 : decode bR 15 = .ok (.aload_n 0, 1) := by decide +kernel
theorem d29_16 : decode bR 16 = .ok (.iload_n 2, 1) := by decide +kernel
theorem d29_17 : decode bR 17 = .ok (.baload, 1) := by decide +kernel
theorem d29_18 : decode bR 18 = .ok (.aload_n 1, 1) := by decide +kernel
theorem d29_19 : decode bR 19 = .ok (.iload_n 2, 1) := by decide +kernel
theorem d29_20 : decode bR 20 = .ok (.baload, 1) := by decide +kernel
theorem d29_21 : decode bR 21 = .ok (.if_icmp .eq 5, 3) := by decide +kernel
theorem d29_26 : decode bR 26 = .ok (.iinc 2 1, 3) := by decide +kernel
theorem d29_29 : decode bR 29 = .ok (.goto (-20), 3) := by decide +kernel
theorem kf_15 : ((256 : Int32) ||| (1 : Int32)) = (257 : Int32) := by decide +kernel
theorem kf_16 : ((256 : Int32) - (1 : Int32)) = (255 : Int32) := by decide +kernel
theorem kf_17 : ((1 : Int32) - (0 : Int32)) = (1 : Int32) := by decide +kernel
def EL1 : List (String × Nat) := [("com/example/medis/medis/engine/ElementAttributes", 56), ("com/example/medis/medis/engine/ElementAttributesCollapseLastPinLaw", 21), ("com/example/medis/medis/engine/ElementAttributesCollapseLastPinLaw", 31), ("java/lang/String", 7)]
theorem own_EL {Z : State} {a0 : Array Value} (hw : ∀ d ∈ tables_1, d.before a0 Z = true) : EW Z a0 EL1 :=
  EW.cons (hw _ (List.mem_of_getElem? (i := 47) rfl)) (by decide) (EW.cons (hw _ (List.mem_of_getElem? (i := 142) rfl)) (by decide) (EW.cons (hw _ (List.mem_of_getElem? (i := 31) rfl)) (by decide) (EW.cons (hw _ (List.mem_of_getElem? (i := 156) rfl)) (by decide) (EW.nil))))
theorem own_wS {Z : State} {a0 : Array Value} (hw : ∀ d ∈ tables_1, d.before a0 Z = true) : ∀ a ∈ Bundle.stringAtoms, a.before a0 Z = true := by
  intro a ha
  simp only [Bundle.stringAtoms, List.mem_cons, List.not_mem_nil, or_false] at ha
  rcases ha with rfl | rfl | rfl | rfl | rfl | rfl | rfl
  · exact (hw _ (List.mem_of_getElem? (i := 32) rfl))
  · exact (hw _ (List.mem_of_getElem? (i := 33) rfl))
  · exact (hw _ (List.mem_of_getElem? (i := 34) rfl))
  · exact (hw _ (List.mem_of_getElem? (i := 35) rfl))
  · exact (hw _ (List.mem_of_getElem? (i := 36) rfl))
  · exact (hw _ (List.mem_of_getElem? (i := 37) rfl))
  · exact (hw _ (List.mem_of_getElem? (i := 38) rfl))
abbrev Y (xs : List Int32) : List Value := xs.map Value.int
theorem own_setX (xs : List Int32) (i : Nat) (v : Int32) : (Y xs).set i (.int v) = Y (xs.set i v) := (List.map_set ..).symm
theorem own_getX (xs : List Int32) (i : Nat) : (Y xs).getD i (.int 0) = .int (xs.getD i 0) := by
  rw [List.getD_eq_getElem?_getD, List.getD_eq_getElem?_getD, List.getElem?_map]
  cases xs[i]? <;> rfl
theorem own_ane {Z : State} {h : Heap} {a b : Addr} {k1 k2 : ClassId} {t1 t2 : FieldType} {z1 z2 : Int32} {v1 v2 : List Value} {d1 d2 : Value} (A : Arv Z h a k1 t1 z1 v1 d1) (B : Arv Z h b k2 t2 z2 v2 d2) (q : t1 ≠ t2) : a ≠ b := fun e => by
  subst e
  obtain ⟨c, ⟨a1, ⟨-, k, a3, cm, a4⟩, -⟩, -⟩ := A
  obtain ⟨c', ⟨b1, ⟨-, k', b3, cm', b4⟩, -⟩, -⟩ := B
  cases a1.symm.trans b1
  cases a3.symm.trans b3
  rw [a4] at b4
  injection b4 with _ r
  exact q r
theorem own_aen {Z : State} {h : Heap} {a0 : Array Value} {a b : Addr} {k1 : ClassId} {t1 : FieldType} {z1 : Int32} {v1 : List Value} {d1 : Value} {K : String} {n : Nat} (A : Arv Z h a k1 t1 z1 v1 d1) (E : Exa Z h b K) (w : (Jvm.Cond.instantiable K n).before a0 Z = true) : a ≠ b := fun e => by
  subst e
  obtain ⟨c, ⟨a1, ⟨-, k, a3, cm, a4⟩, -⟩, -⟩ := A
  obtain ⟨c', k', b1, b2, b3, -⟩ := E
  obtain ⟨ci, ki, i1, i2, i3, -⟩ := Cond.instantiable_spec w
  cases a1.symm.trans b1
  cases b2.symm.trans i1
  cases a3.symm.trans i2
  rw [a4] at i3
  cases i3
theorem own_een {Z : State} {h : Heap} {a b : Addr} {K L : String} (E : Exa Z h a K) (F : Exa Z h b L) (q : K ≠ L) : a ≠ b := fun e => by
  subst e
  obtain ⟨c, k, a1, a2, -⟩ := E
  obtain ⟨c', k', b1, b2, -⟩ := F
  cases a1.symm.trans b1
  exact ids_ne a2 b2 q rfl
def own_B (x : Int32) : Prop := 0 ≤ x.toInt ∧ x.toInt ≤ 255
def bv (x : Int32) : Int32 := nar .byte x.toInt8.toInt32
theorem own_and (x : Int32) : own_B (x &&& (255 : Int32)) := c_and x 255 (by decide)
theorem own_i2c {x : Int32} (h : own_B x) : x.toUInt32.toUInt16.toUInt32.toInt32 = x := by
  obtain ⟨h1, h2⟩ := h
  have c := c_i2c x
  exact Int32.toInt_inj.mp (by omega)
theorem own_nc {x : Int32} (h : own_B x) : nar .char x = x := own_i2c h
theorem own_le {x : Int32} (h : own_B x) : ¬ (255 : Int32) < x := fun q => by
  have := Int32.lt_iff_toInt_lt.mp q
  have k : (255 : Int32).toInt = 255 := by decide
  have := h.2
  omega
theorem own_bvc {x : Int32} (h : own_B x) : (bv x &&& (255 : Int32)).toUInt32.toUInt16.toUInt32.toInt32 = x := by
  have e : bv x = x.toInt8.toInt32 := by simp [bv, nar]
  have a := c_i2b x
  have m := c_mask (bv x) 255 8 (by decide) (by decide)
  have e8 : (((2 ^ 8 : Nat) : Int)) = 256 := by decide
  rw [e8] at m
  rw [own_i2c (own_and _)]
  apply Int32.toInt_inj.mp
  rw [m, e]
  obtain ⟨_, _⟩ := h
  omega
def own_N (n : Int32) : Prop := 0 ≤ n.toInt ∧ n.toInt ≤ 5
theorem own_n (x : Int32) : own_N ((x &&& (7 : Int32)) % (6 : Int32)) := by
  have h := c_and x 7 (by decide)
  have k3 : (6 : Int32).toInt = 6 := by decide
  have q := (c_iremV (x &&& (7 : Int32)) 6).1 h.1 (by decide)
  unfold own_N
  omega
theorem own_N6 {n : Int32} (h : own_N n) : n = 0 ∨ n = 1 ∨ n = 2 ∨ n = 3 ∨ n = 4 ∨ n = 5 := by
  have k : ∀ z : Int32, n.toInt = z.toInt → n = z := fun z q => Int32.toInt_inj.mp q
  obtain ⟨h1, h2⟩ := h
  have : n.toInt = 0 ∨ n.toInt = 1 ∨ n.toInt = 2 ∨ n.toInt = 3 ∨ n.toInt = 4 ∨ n.toInt = 5 := by omega
  rcases this with q | q | q | q | q | q
  · exact Or.inl (k 0 q)
  · exact Or.inr (Or.inl (k 1 q))
  · exact Or.inr (Or.inr (Or.inl (k 2 q)))
  · exact Or.inr (Or.inr (Or.inr (Or.inl (k 3 q))))
  · exact Or.inr (Or.inr (Or.inr (Or.inr (Or.inl (k 4 q)))))
  · exact Or.inr (Or.inr (Or.inr (Or.inr (Or.inr (k 5 q)))))
theorem own_nn {n : Int32} (h : own_N n) : ¬ n < 0 ∧ n.toNatClampNeg ≤ 5 := by
  rcases own_N6 h with rfl | rfl | rfl | rfl | rfl | rfl <;> decide
def own_ap (ps cs : List Int32) (n : Nat) : List Int32 := ps ++ cs.take n ++ List.replicate (8 - ps.length - n) 0
def cst (out : List Int32) (c : Int32) : List Int32 := if c = 32 ∧ (out.length = 0 ∨ out.getD (out.length - 1) 0 = 32) then out else out ++ [c]
def trim (out : List Int32) : List Int32 := if out.length ≠ 0 ∧ out.getD (out.length - 1) 0 = 32 then out.take (out.length - 1) else out
def col (cs : List Int32) (n : Nat) : List Int32 := trim ((cs.take n).foldl cst [])
def own_I (s : Nat) (ps cs : List Int32) (i : Nat) (n : Int32) (xs : List Int32) (t : Int32) (out : List Int32) : Prop :=
  xs.length = 8 ∧ t.toInt = s + out.length ∧ out.length ≤ i ∧ (∀ k, k < s → xs.getD k 0 = ps.getD k 0) ∧ (∀ k, k < out.length → xs.getD (s + k) 0 = out.getD k 0) ∧ (∀ k : Nat, i ≤ k → (k : Int) < n.toInt → xs.getD (s + k) 0 = cs.getD k 0)
def own_C (s : Nat) (ps cs : List Int32) (n : Int32) (xs : List Int32) (t : Int32) : Prop :=
  xs.length = 8 ∧ (∀ k, k < s → xs.getD k 0 = ps.getD k 0) ∧ t.toInt = s + (col cs n.toNatClampNeg).length ∧ (col cs n.toNatClampNeg).length ≤ 5 ∧ ∀ k, k < (col cs n.toNatClampNeg).length → xs.getD (s + k) 0 = (col cs n.toNatClampNeg).getD k 0
theorem own_tn {t : Int32} {k : Nat} (h : t.toInt = k) : t.toNatClampNeg = k := by
  show t.toInt.toNat = k
  rw [h]; rfl
theorem own_I0 {s : Nat} {ps : List Int32} {c0 c1 c2 c3 c4 n t : Int32} (hn : own_N n) (hs : s ≤ 2) (hp : ps.length = s) (ht : t.toInt = s) : own_I s ps [c0, c1, c2, c3, c4] 0 n (own_ap ps [c0, c1, c2, c3, c4] n.toNatClampNeg) t [] := by
  have hl := (own_nn hn).2
  refine ⟨?_, by simpa using ht, Nat.le_refl _, fun k hk => ?_, fun k hk => absurd hk (Nat.not_lt_zero _), fun k _ hk => ?_⟩
  · simp only [own_ap, List.length_append, List.length_take, List.length_replicate, List.length_cons, List.length_nil]
    omega
  · simp only [own_ap, List.getD_eq_getElem?_getD]
    rw [List.getElem?_append_left (by simp only [List.length_append]; omega), List.getElem?_append_left (by omega)]
  · have hk2 : k < n.toNatClampNeg := by
      have : (n.toNatClampNeg : Int) = n.toInt := Int.toNat_of_nonneg hn.1
      omega
    simp only [own_ap, List.getD_eq_getElem?_getD]
    rw [List.getElem?_append_left (by simp only [List.length_append, List.length_take, List.length_cons, List.length_nil]; omega), List.getElem?_append_right (by omega), hp, Nat.add_sub_cancel_left, List.getElem?_take_of_lt hk2]
theorem own_ld {s i : Nat} {ps cs : List Int32} {n t en j c : Int32} {xs out : List Int32} {q : Int} (I : own_I s ps cs i n xs t out) (h1 : q < en.toInt) (h2 : en.toInt = s + n.toInt) (hq : q = s + i) (hj : j.toNatClampNeg = s + i) (hc : cs.getD i 0 = c) : (Y xs).getD j.toNatClampNeg (.int 0) = .int c := by
  rw [own_getX, hj, I.2.2.2.2.2 i (Nat.le_refl _) (by omega), hc]
theorem own_ix {s i : Nat} {ps cs : List Int32} {n t : Int32} {xs out : List Int32} (I : own_I s ps cs i n xs t out) (hs : s ≤ 2) (hi : i ≤ 5) : (¬ t < 0 ∧ t < 256) ∧ (i ≤ 4 → t.toNatClampNeg < (Y xs).length) := by
  obtain ⟨h1, h2, h3, -⟩ := I
  have k0 : (0 : Int32).toInt = 0 := by decide
  have k1 : (256 : Int32).toInt = 256 := by decide
  have ht := own_tn (t := t) (k := s + out.length) (by omega)
  refine ⟨⟨?_, ?_⟩, fun _ => ?_⟩
  · rw [Int32.lt_iff_toInt_lt]; omega
  · rw [Int32.lt_iff_toInt_lt]; omega
  · rw [ht, List.length_map, h1]; omega
theorem own_sb {t : Int32} {k : Nat} (h : t.toInt = k + 1) (hk : k < 100) : (t - (1 : Int32)).toInt = k := by
  have c := c_isub t 1
  have k1 : (1 : Int32).toInt = 1 := by decide
  have r := rng32 (t - (1 : Int32))
  omega
theorem own_ix1 {s i : Nat} {ps cs : List Int32} {n t : Int32} {xs out : List Int32} {S : Int} (I : own_I s ps cs i n xs t out) (hs : s ≤ 2) (hi : i ≤ 5) (hS : S = s) (h : S < t.toInt) : ¬ t - (1 : Int32) < 0 ∧ t - (1 : Int32) < 256 := by
  obtain ⟨h1, h2, h3, -⟩ := I
  have k0 : (0 : Int32).toInt = 0 := by decide
  have k1 : (256 : Int32).toInt = 256 := by decide
  have q := own_sb (t := t) (k := s + out.length - 1) (by omega) (by omega)
  rw [Int32.lt_iff_toInt_lt, Int32.lt_iff_toInt_lt]
  omega
theorem own_last {s i : Nat} {ps cs : List Int32} {n t : Int32} {xs out : List Int32} (I : own_I s ps cs i n xs t out) (hi : i ≤ 5) (hs : s ≤ 2) (h : (s : Int) < t.toInt) : out.length ≠ 0 ∧ xs.getD (t - (1 : Int32)).toNatClampNeg 0 = out.getD (out.length - 1) 0 := by
  obtain ⟨h1, h2, h3, h4, h5, h6⟩ := I
  have hl : out.length ≠ 0 := by omega
  have q := own_tn (own_sb (t := t) (k := s + (out.length - 1)) (by omega) (by omega))
  exact ⟨hl, by rw [q]; exact h5 _ (by omega)⟩
theorem own_keep {s i : Nat} {ps cs : List Int32} {n t c : Int32} {xs out : List Int32} (I : own_I s ps cs i n xs t out) (h : c = 32 ∧ (out.length = 0 ∨ out.getD (out.length - 1) 0 = 32)) : own_I s ps cs (i + 1) n xs t (cst out c) := by
  obtain ⟨h1, h2, h3, h4, h5, h6⟩ := I
  have e : cst out c = out := if_pos h
  rw [e]
  exact ⟨h1, h2, by omega, h4, h5, fun k hk => h6 k (by omega)⟩
theorem own_push {s i : Nat} {ps cs : List Int32} {n t c : Int32} {xs out : List Int32} (I : own_I s ps cs i n xs t out) (hs : s ≤ 2) (hi : i ≤ 4) (h : ¬ (c = 32 ∧ (out.length = 0 ∨ out.getD (out.length - 1) 0 = 32))) : own_I s ps cs (i + 1) n (xs.set t.toNatClampNeg c) (t + (1 : Int32)) (cst out c) := by
  obtain ⟨h1, h2, h3, h4, h5, h6⟩ := I
  have e : cst out c = out ++ [c] := if_neg h
  have ht := own_tn (t := t) (k := s + out.length) (by omega)
  have c1 := c_iadd t 1
  have k1 : (1 : Int32).toInt = 1 := by decide
  have r := rng32 (t + (1 : Int32))
  have g : ∀ j, j ≠ s + out.length → (xs.set (s + out.length) c).getD j 0 = xs.getD j 0 := fun j hj => by
    rw [List.getD_eq_getElem?_getD, List.getD_eq_getElem?_getD, List.getElem?_set_ne (Ne.symm hj)]
  rw [e, ht]
  refine ⟨by rw [List.length_set]; exact h1, by simp only [List.length_append, List.length_cons, List.length_nil]; omega, by simp only [List.length_append, List.length_cons, List.length_nil]; omega, fun k hk => ?_, fun k hk => ?_, fun k hk hk2 => ?_⟩
  · rw [g k (by omega)]; exact h4 k hk
  · simp only [List.length_append, List.length_cons, List.length_nil] at hk
    by_cases q : k = out.length
    · subst q
      rw [List.getD_eq_getElem?_getD, List.getD_eq_getElem?_getD, List.getElem?_set_self (by omega)]
      simp
    · rw [g (s + k) (by omega), h5 k (by omega), List.getD_eq_getElem?_getD, List.getD_eq_getElem?_getD, List.getElem?_append_left (by omega)]
  · rw [g (s + k) (by omega)]; exact h6 k (by omega) hk2
theorem own_32 {x : Int32} (h : x.toInt = 32) : x = 32 := Int32.toInt_inj.mp h
theorem own_stp {s i : Nat} {ps cs : List Int32} {n t c y : Int32} {xs out ys : List Int32} {S : Int} (I : own_I s ps cs i n xs t out) (hs : s ≤ 2) (hi : i ≤ 4) (hS : S = s)
    (D : (c.toInt = 32 ∧ (¬ (S < t.toInt)) ∧ y = t ∧ ys = xs) ∨ (c.toInt = 32 ∧ S < t.toInt ∧ (xs.getD (t - (1 : Int32)).toNatClampNeg 0).toInt = 32 ∧ y = t ∧ ys = xs) ∨ (c.toInt = 32 ∧ S < t.toInt ∧ (¬ ((xs.getD (t - (1 : Int32)).toNatClampNeg 0).toInt = 32)) ∧ y = t + (1 : Int32) ∧ ys = xs.set t.toNatClampNeg (32 : Int32)) ∨ ((¬ (c.toInt = 32)) ∧ y = t + (1 : Int32) ∧ ys = xs.set t.toNatClampNeg c)) : own_I s ps cs (i + 1) n ys y (cst out c) := by
  subst hS
  rcases D with ⟨a, b, rfl, rfl⟩ | ⟨a, b, d, rfl, rfl⟩ | ⟨a, b, d, rfl, rfl⟩ | ⟨a, rfl, rfl⟩
  · refine own_keep I ⟨own_32 a, Or.inl ?_⟩
    have := I.2.1
    omega
  · obtain ⟨l1, l2⟩ := own_last I (by omega) hs b
    exact own_keep I ⟨own_32 a, Or.inr (l2 ▸ own_32 d)⟩
  · obtain ⟨l1, l2⟩ := own_last I (by omega) hs b
    rw [own_32 a]
    refine own_push I hs hi fun q => ?_
    rcases q.2 with q | q
    · exact l1 q
    · rw [l2, q] at d; exact d rfl
  · exact own_push I hs hi fun q => a (by rw [q.1]; rfl)
theorem own_ex {s i : Nat} {n en : Int32} {a b : Int} (h1 : ¬ (a < en.toInt)) (h0 : b < en.toInt) (he : en.toInt = s + n.toInt) (ha : a = s + i) (hb : b + 1 = a) : n.toInt = i := by omega
theorem own_ex0 {s : Nat} {n en : Int32} {a : Int} (h1 : ¬ (a < en.toInt)) (hn : own_N n) (he : en.toInt = s + n.toInt) (ha : a = s) : n.toInt = 0 := by
  have := hn.1
  omega
theorem own_ex5 {s : Nat} {n en : Int32} {b : Int} (h0 : b < en.toInt) (hn : own_N n) (he : en.toInt = s + n.toInt) (hb : b = s + 4) : n.toInt = 5 := by
  have := hn.2
  omega
theorem own_fin {s i : Nat} {ps cs : List Int32} {n t y : Int32} {xs out : List Int32} {S : Int} (I : own_I s ps cs i n xs t out) (hs : s ≤ 2) (hi : i ≤ 5) (hn : n.toInt = i) (ho : (cs.take i).foldl cst [] = out) (hS : S = s)
    (D : ((¬ (S < t.toInt)) ∧ y = t) ∨ (S < t.toInt ∧ (¬ ((xs.getD (t - (1 : Int32)).toNatClampNeg 0).toInt = 32)) ∧ y = t) ∨ (S < t.toInt ∧ (xs.getD (t - (1 : Int32)).toNatClampNeg 0).toInt = 32 ∧ y = t + (-1 : Int32))) : own_C s ps cs n xs y := by
  subst hS
  have e : col cs n.toNatClampNeg = trim out := by rw [col, own_tn hn, ho]
  have I' := I
  obtain ⟨h1, h2, h3, h4, h5, -⟩ := I
  rw [own_C, e]
  rcases D with ⟨a, rfl⟩ | ⟨a, b, rfl⟩ | ⟨a, b, rfl⟩
  · have q : trim out = out := if_neg fun z => z.1 (by omega)
    rw [q]
    exact ⟨h1, h4, h2, by omega, h5⟩
  · obtain ⟨l1, l2⟩ := own_last I' hi hs a
    have q : trim out = out := if_neg fun z => b (by rw [l2, z.2]; rfl)
    rw [q]
    exact ⟨h1, h4, h2, by omega, h5⟩
  · obtain ⟨l1, l2⟩ := own_last I' hi hs a
    have q : trim out = out.take (out.length - 1) := if_pos ⟨l1, by rw [← l2]; exact own_32 b⟩
    have c1 := c_iadd t (-1)
    have k1 : (-1 : Int32).toInt = -1 := by decide
    have r := rng32 (t + (-1 : Int32))
    have hl : (out.take (out.length - 1)).length = out.length - 1 := by rw [List.length_take]; omega
    rw [q, hl]
    refine ⟨h1, h4, by omega, by omega, fun k hk => ?_⟩
    rw [h5 k (by omega), List.getD_eq_getElem?_getD, List.getD_eq_getElem?_getD, List.getElem?_take_of_lt hk]
theorem kn32 : nar .char (32 : Int32) = 32 := by decide
theorem own_c5 {n : Int32} (h : own_N n) : (0 : Int32).toNatClampNeg + n.toNatClampNeg ≤ (5 : Int32).toNatClampNeg := by have := (own_nn h).2; simpa using this
theorem own_c256 {n d : Int32} (h : own_N n) (hd : d.toNatClampNeg ≤ 2 := by decide) : d.toNatClampNeg + n.toNatClampNeg ≤ (256 : Int32).toNatClampNeg := by
  have := (own_nn h).2
  have e : (256 : Int32).toNatClampNeg = 256 := by decide
  omega
theorem own_c8 {n d : Int32} {vs : List Value} (h : own_N n) (hd : d.toNatClampNeg ≤ 2 := by decide) (hv : vs.length = 8 := by rfl) : d.toNatClampNeg + n.toNatClampNeg ≤ vs.length := by
  have := (own_nn h).2
  omega
theorem own_cp0 {c0 c1 c2 c3 c4 n : Int32} (h : own_N n) : ([.int 0, .int 0, .int 0, .int 0, .int 0, .int 0, .int 0, .int 0] : List Value).take (0 : Int32).toNatClampNeg ++ ((List.range n.toNatClampNeg).map fun i => ([.int c0, .int c1, .int c2, .int c3, .int c4] : List Value).getD ((0 : Int32).toNatClampNeg + i) (.int 0)) ++ ([.int 0, .int 0, .int 0, .int 0, .int 0, .int 0, .int 0, .int 0] : List Value).drop ((0 : Int32).toNatClampNeg + n.toNatClampNeg) = Y (own_ap [] [c0, c1, c2, c3, c4] n.toNatClampNeg) := by
  rcases own_N6 h with rfl | rfl | rfl | rfl | rfl | rfl <;> rfl
theorem own_cp1 {p0 c0 c1 c2 c3 c4 n : Int32} (h : own_N n) : ([.int p0, .int 0, .int 0, .int 0, .int 0, .int 0, .int 0, .int 0] : List Value).take (1 : Int32).toNatClampNeg ++ ((List.range n.toNatClampNeg).map fun i => ([.int c0, .int c1, .int c2, .int c3, .int c4] : List Value).getD ((0 : Int32).toNatClampNeg + i) (.int 0)) ++ ([.int p0, .int 0, .int 0, .int 0, .int 0, .int 0, .int 0, .int 0] : List Value).drop ((1 : Int32).toNatClampNeg + n.toNatClampNeg) = Y (own_ap [p0] [c0, c1, c2, c3, c4] n.toNatClampNeg) := by
  rcases own_N6 h with rfl | rfl | rfl | rfl | rfl | rfl <;> rfl
theorem own_cp2 {p0 p1 c0 c1 c2 c3 c4 n : Int32} (h : own_N n) : ([.int p0, .int p1, .int 0, .int 0, .int 0, .int 0, .int 0, .int 0] : List Value).take (2 : Int32).toNatClampNeg ++ ((List.range n.toNatClampNeg).map fun i => ([.int c0, .int c1, .int c2, .int c3, .int c4] : List Value).getD ((0 : Int32).toNatClampNeg + i) (.int 0)) ++ ([.int p0, .int p1, .int 0, .int 0, .int 0, .int 0, .int 0, .int 0] : List Value).drop ((2 : Int32).toNatClampNeg + n.toNatClampNeg) = Y (own_ap [p0, p1] [c0, c1, c2, c3, c4] n.toNatClampNeg) := by
  rcases own_N6 h with rfl | rfl | rfl | rfl | rfl | rfl <;> rfl
theorem own_en {s : Nat} {S n en : Int32} (e : en = S + n) (hn : own_N n) (hS : S.toInt = s) (hs : s ≤ 2) : en.toInt = (s : Int) + n.toInt := by
  have c := c_iadd S n
  have r := rng32 (S + n)
  obtain ⟨_, _⟩ := hn
  rw [e]; omega
theorem own_en0 {n en : Int32} (e : en = n) : en.toInt = ((0 : Nat) : Int) + n.toInt := by rw [e]; omega
theorem own_stop {s : Nat} {n en j : Int32} (hn : own_N n) (he : en.toInt = (s : Int) + n.toInt) (hj : j.toInt = s + 5) : ¬ j < en := fun q => by
  have := Int32.lt_iff_toInt_lt.mp q
  have := hn.2
  omega
theorem own_gt {s : Nat} {S n : Int32} (hn : own_N n) (hS : S.toInt = s) (hs : s ≤ 2) : ¬ (256 : Int32) < S + n := fun q => by
  have := Int32.lt_iff_toInt_lt.mp q
  have e := own_en (en := S + n) rfl hn hS hs
  have k : (256 : Int32).toInt = 256 := by decide
  have := hn.2
  omega
theorem own_gt0 {n : Int32} (hn : own_N n) : ¬ (256 : Int32) < n := fun q => by
  have := Int32.lt_iff_toInt_lt.mp q
  have k : (256 : Int32).toInt = 256 := by decide
  have := hn.2
  omega
theorem own_n5 {n : Int32} (hn : own_N n) : ¬ (5 : Int32) < n := fun q => by
  have := Int32.lt_iff_toInt_lt.mp q
  have k : (5 : Int32).toInt = 5 := by decide
  have := hn.2
  omega
theorem own_or {n a : Int32} (hn : own_N n) (ha : 0 ≤ a.toInt) : ¬ (a ||| n) < 0 := fun q => by
  have := Int32.lt_iff_toInt_lt.mp q
  have k : (0 : Int32).toInt = 0 := by decide
  have := (c_orS a n).1 ha hn.1
  omega
theorem own_szs {n a : Int32} (hn : own_N n) (ha : 5 ≤ a.toInt) : ¬ a < n := fun q => by
  have := Int32.lt_iff_toInt_lt.mp q
  have := hn.2
  omega
def own_W (s : Nat) (xs : List Int32) (m : Int32) : Prop := ∀ k : Nat, (k : Int) < m.toInt → own_B (xs.getD (s + k) 0)
def own_Z (s : Nat) (xs : List Int32) (m : Int32) (zs : List Int32) : Prop := ∀ k : Nat, (k : Int) < m.toInt → zs.getD k 0 = bv (xs.getD (s + k) 0)
theorem own_wk {s i k : Nat} {xs : List Int32} {m : Int32} {q : Int} (h : own_W s xs m) (hq : q < m.toInt) (e1 : q = i) (e2 : s + i = k) : own_B (xs.getD k 0) := e2 ▸ h i (e1 ▸ hq)
theorem own_cstB {out : List Int32} {c : Int32} (h : ∀ x ∈ out, own_B x) (hc : own_B c) : ∀ x ∈ cst out c, own_B x := by
  intro x hx
  unfold cst at hx
  split at hx
  · exact h x hx
  · rcases List.mem_append.mp hx with q | q
    · exact h x q
    · rw [List.mem_singleton.mp q]; exact hc
theorem own_folB {cs out : List Int32} (h : ∀ x ∈ out, own_B x) (hc : ∀ x ∈ cs, own_B x) : ∀ x ∈ cs.foldl cst out, own_B x := by
  induction cs generalizing out with
  | nil => exact h
  | cons c cs ih => exact ih (own_cstB h (hc c (List.mem_cons_self ..))) (fun x hx => hc x (List.mem_cons_of_mem _ hx))
theorem own_colB {cs : List Int32} {n : Nat} (hc : ∀ x ∈ cs, own_B x) : ∀ x ∈ col cs n, own_B x := by
  have q := own_folB (out := []) (cs := cs.take n) (fun x hx => nomatch hx) (fun x hx => hc x (List.mem_of_mem_take hx))
  intro x hx
  unfold col trim at hx
  split at hx
  · exact q x (List.mem_of_mem_take hx)
  · exact q x hx
theorem own_B5 {a b c d e : Int32} (h1 : own_B a) (h2 : own_B b) (h3 : own_B c) (h4 : own_B d) (h5 : own_B e) : ∀ x ∈ [a, b, c, d, e], own_B x := by
  intro x hx
  simp only [List.mem_cons, List.not_mem_nil, or_false] at hx
  rcases hx with rfl | rfl | rfl | rfl | rfl <;> assumption
theorem own_m {s : Nat} {ps cs xs : List Int32} {n t S m : Int32} (h : own_C s ps cs n xs t) (e : m = t - S) (hS : S.toInt = s) (hs : s ≤ 2) (hc : ∀ x ∈ cs, own_B x) : own_N m ∧ own_W s xs m ∧ m.toInt = (col cs n.toNatClampNeg).length := by
  obtain ⟨h1, h2, h3, h4, h5⟩ := h
  have c := c_isub t S
  have r := rng32 (t - S)
  have em : m.toInt = (col cs n.toNatClampNeg).length := by rw [e]; omega
  refine ⟨⟨by omega, by omega⟩, fun k hk => ?_, em⟩
  rw [h5 k (by omega)]
  have hl : k < (col cs n.toNatClampNeg).length := by omega
  rw [List.getD_eq_getElem?_getD, List.getElem?_eq_getElem hl]
  exact own_colB hc _ (List.getElem_mem hl)
theorem own_m0 {ps cs xs : List Int32} {n t m : Int32} (h : own_C 0 ps cs n xs t) (e : m = t) (hc : ∀ x ∈ cs, own_B x) : own_N m ∧ own_W 0 xs m ∧ m.toInt = (col cs n.toNatClampNeg).length := own_m (S := 0) h (by rw [e, Int32.sub_zero]) rfl (by decide) hc
theorem own_sub0 (m : Int32) : m - m = 0 := Int32.sub_self m
theorem own_shr0 (m : Int32) : m >>> ((0 : Int32) &&& 31) = m := by
  have e : ((0 : Int32) &&& 31) = 0 := by decide
  rw [e]
  show Int32.ofBitVec (m.toBitVec.sshiftRight (((0 : Int32).toBitVec.smod 32)).toNat) = m
  have e2 : ((0 : Int32).toBitVec.smod 32).toNat = 0 := by decide
  rw [e2, BitVec.sshiftRight_zero]; rfl
theorem own_0 {m : Int32} (h : m.toInt = 0) : m = 0 := Int32.toInt_inj.mp h
def own_Q (i : Nat) (es : List Int32) (m : Int32) : Prop := es.length = 5 ∧ 0 ≤ m.toInt ∧ m.toInt ≤ i
def own_P (es : List Int32) (m k c : Int32) (fs : List Int32) (r : Int32) : Prop := (¬ k.toInt = 0 ∧ fs = es.set m.toNatClampNeg c ∧ r = m + 1) ∨ (k.toInt = 0 ∧ fs = es ∧ r = m)
theorem own_q1 {i : Nat} {es : List Int32} {m : Int32} (h : own_Q i es m) (hi : i ≤ 4) : (¬ m < 0 ∧ m < 5) ∧ m.toNatClampNeg < (Y es).length := by
  obtain ⟨h1, h2, h3⟩ := h
  have k0 : (0 : Int32).toInt = 0 := by decide
  have k1 : (5 : Int32).toInt = 5 := by decide
  refine ⟨⟨?_, ?_⟩, ?_⟩
  · rw [Int32.lt_iff_toInt_lt]; omega
  · rw [Int32.lt_iff_toInt_lt]; omega
  · rw [List.length_map, h1]
    show m.toInt.toNat < 5
    omega
theorem own_q4 {i : Nat} {es : List Int32} {m : Int32} (h : own_Q i es m) (hi : i ≤ 4) : own_Q 4 es m := ⟨h.1, h.2.1, by have := h.2.2; omega⟩
theorem own_q2 {i : Nat} {es fs : List Int32} {m k c r : Int32} (h : own_Q i es m) (hi : i ≤ 4) (p : own_P es m k c fs r) : own_Q (i + 1) fs r := by
  obtain ⟨h1, h2, h3⟩ := h
  rcases p with ⟨-, rfl, rfl⟩ | ⟨-, rfl, rfl⟩
  · have c := c_iadd m 1
    have k1 : (1 : Int32).toInt = 1 := by decide
    have r := rng32 (m + 1)
    exact ⟨by rw [List.length_set]; exact h1, by omega, by omega⟩
  · exact ⟨h1, h2, by omega⟩
theorem own_pl {s k : Nat} {ps cs xs : List Int32} {n t j p : Int32} (h : own_C s ps cs n xs t) (hk : k < s) (hj : j.toNatClampNeg = k) (hp : ps.getD k 0 = p) : (Y xs).getD j.toNatClampNeg (.int 0) = .int p := by rw [own_getX, hj, h.2.1 k hk, hp]
theorem own_z00 {xs : List Int32} {m : Int32} (h : m.toInt ≤ 0) : own_Z 0 xs m [0, 0, 0, 0, 0] := fun k hk => by
  omega
theorem own_z01 {xs : List Int32} {m : Int32} (h : m.toInt ≤ 1) : own_Z 0 xs m [bv (xs.getD 0 0), 0, 0, 0, 0] := fun k hk => by
  have : k = 0 := by omega
  rcases this with rfl <;> rfl
theorem own_z02 {xs : List Int32} {m : Int32} (h : m.toInt ≤ 2) : own_Z 0 xs m [bv (xs.getD 0 0), bv (xs.getD 1 0), 0, 0, 0] := fun k hk => by
  have : k = 0 ∨ k = 1 := by omega
  rcases this with rfl | rfl <;> rfl
theorem own_z03 {xs : List Int32} {m : Int32} (h : m.toInt ≤ 3) : own_Z 0 xs m [bv (xs.getD 0 0), bv (xs.getD 1 0), bv (xs.getD 2 0), 0, 0] := fun k hk => by
  have : k = 0 ∨ k = 1 ∨ k = 2 := by omega
  rcases this with rfl | rfl | rfl <;> rfl
theorem own_z04 {xs : List Int32} {m : Int32} (h : m.toInt ≤ 4) : own_Z 0 xs m [bv (xs.getD 0 0), bv (xs.getD 1 0), bv (xs.getD 2 0), bv (xs.getD 3 0), 0] := fun k hk => by
  have : k = 0 ∨ k = 1 ∨ k = 2 ∨ k = 3 := by omega
  rcases this with rfl | rfl | rfl | rfl <;> rfl
theorem own_z05 {xs : List Int32} {m : Int32} (h : m.toInt ≤ 5) : own_Z 0 xs m [bv (xs.getD 0 0), bv (xs.getD 1 0), bv (xs.getD 2 0), bv (xs.getD 3 0), bv (xs.getD 4 0)] := fun k hk => by
  have : k = 0 ∨ k = 1 ∨ k = 2 ∨ k = 3 ∨ k = 4 := by omega
  rcases this with rfl | rfl | rfl | rfl | rfl <;> rfl
theorem own_z10 {xs : List Int32} {m : Int32} (h : m.toInt ≤ 0) : own_Z 1 xs m [0, 0, 0, 0, 0] := fun k hk => by
  omega
theorem own_z11 {xs : List Int32} {m : Int32} (h : m.toInt ≤ 1) : own_Z 1 xs m [bv (xs.getD 1 0), 0, 0, 0, 0] := fun k hk => by
  have : k = 0 := by omega
  rcases this with rfl <;> rfl
theorem own_z12 {xs : List Int32} {m : Int32} (h : m.toInt ≤ 2) : own_Z 1 xs m [bv (xs.getD 1 0), bv (xs.getD 2 0), 0, 0, 0] := fun k hk => by
  have : k = 0 ∨ k = 1 := by omega
  rcases this with rfl | rfl <;> rfl
theorem own_z13 {xs : List Int32} {m : Int32} (h : m.toInt ≤ 3) : own_Z 1 xs m [bv (xs.getD 1 0), bv (xs.getD 2 0), bv (xs.getD 3 0), 0, 0] := fun k hk => by
  have : k = 0 ∨ k = 1 ∨ k = 2 := by omega
  rcases this with rfl | rfl | rfl <;> rfl
theorem own_z14 {xs : List Int32} {m : Int32} (h : m.toInt ≤ 4) : own_Z 1 xs m [bv (xs.getD 1 0), bv (xs.getD 2 0), bv (xs.getD 3 0), bv (xs.getD 4 0), 0] := fun k hk => by
  have : k = 0 ∨ k = 1 ∨ k = 2 ∨ k = 3 := by omega
  rcases this with rfl | rfl | rfl | rfl <;> rfl
theorem own_z15 {xs : List Int32} {m : Int32} (h : m.toInt ≤ 5) : own_Z 1 xs m [bv (xs.getD 1 0), bv (xs.getD 2 0), bv (xs.getD 3 0), bv (xs.getD 4 0), bv (xs.getD 5 0)] := fun k hk => by
  have : k = 0 ∨ k = 1 ∨ k = 2 ∨ k = 3 ∨ k = 4 := by omega
  rcases this with rfl | rfl | rfl | rfl | rfl <;> rfl
theorem own_z20 {xs : List Int32} {m : Int32} (h : m.toInt ≤ 0) : own_Z 2 xs m [0, 0, 0, 0, 0] := fun k hk => by
  omega
theorem own_z21 {xs : List Int32} {m : Int32} (h : m.toInt ≤ 1) : own_Z 2 xs m [bv (xs.getD 2 0), 0, 0, 0, 0] := fun k hk => by
  have : k = 0 := by omega
  rcases this with rfl <;> rfl
theorem own_z22 {xs : List Int32} {m : Int32} (h : m.toInt ≤ 2) : own_Z 2 xs m [bv (xs.getD 2 0), bv (xs.getD 3 0), 0, 0, 0] := fun k hk => by
  have : k = 0 ∨ k = 1 := by omega
  rcases this with rfl | rfl <;> rfl
theorem own_z23 {xs : List Int32} {m : Int32} (h : m.toInt ≤ 3) : own_Z 2 xs m [bv (xs.getD 2 0), bv (xs.getD 3 0), bv (xs.getD 4 0), 0, 0] := fun k hk => by
  have : k = 0 ∨ k = 1 ∨ k = 2 := by omega
  rcases this with rfl | rfl | rfl <;> rfl
theorem own_z24 {xs : List Int32} {m : Int32} (h : m.toInt ≤ 4) : own_Z 2 xs m [bv (xs.getD 2 0), bv (xs.getD 3 0), bv (xs.getD 4 0), bv (xs.getD 5 0), 0] := fun k hk => by
  have : k = 0 ∨ k = 1 ∨ k = 2 ∨ k = 3 := by omega
  rcases this with rfl | rfl | rfl | rfl <;> rfl
theorem own_z25 {xs : List Int32} {m : Int32} (h : m.toInt ≤ 5) : own_Z 2 xs m [bv (xs.getD 2 0), bv (xs.getD 3 0), bv (xs.getD 4 0), bv (xs.getD 5 0), bv (xs.getD 6 0)] := fun k hk => by
  have : k = 0 ∨ k = 1 ∨ k = 2 ∨ k = 3 ∨ k = 4 := by omega
  rcases this with rfl | rfl | rfl | rfl | rfl <;> rfl
theorem own_dec (c : Int32) : (c.toInt = 32 ∧ c = 32) ∨ (¬ c.toInt = 32 ∧ ¬ c = 32) := by
  by_cases h : c = 32
  · subst h; exact Or.inl ⟨by decide, rfl⟩
  · exact Or.inr ⟨fun q => h (own_32 q), h⟩
theorem tk0 : (0 : Int32).toNatClampNeg = 0 := by decide
theorem tk1 : (1 : Int32).toNatClampNeg = 1 := by decide
theorem tk2 : (2 : Int32).toNatClampNeg = 2 := by decide
theorem tk3 : (3 : Int32).toNatClampNeg = 3 := by decide
theorem tk4 : (4 : Int32).toNatClampNeg = 4 := by decide
theorem tk5 : (5 : Int32).toNatClampNeg = 5 := by decide
theorem ti1 : (0 : Int32) + 1 = 1 := by decide
theorem ti2 : (1 : Int32) + 1 = 2 := by decide
theorem ti3 : (2 : Int32) + 1 = 3 := by decide
theorem ti4 : (3 : Int32) + 1 = 4 := by decide
theorem ti5 : (4 : Int32) + 1 = 5 := by decide
theorem own_main {c0 c1 c2 c3 c4 n k0 k1 k2 k3 k4 m1 m2 m3 m4 m5 : Int32} {e1 e2 e3 e4 e5 : List Int32} (hn : own_N n)
    (K0 : (¬ k0.toInt = 0) ↔ ((0 : Int) < n.toInt ∧ ¬ c0.toInt = 32))
    (K1 : (¬ k1.toInt = 0) ↔ ((1 : Int) < n.toInt ∧ (¬ c1.toInt = 32 ∨ (((0 : Int) < n.toInt ∧ ¬ c0.toInt = 32) ∧ (((2 : Int) < n.toInt ∧ ¬ c2.toInt = 32) ∨ (((3 : Int) < n.toInt ∧ ¬ c3.toInt = 32) ∨ ((4 : Int) < n.toInt ∧ ¬ c4.toInt = 32)))))))
    (K2 : (¬ k2.toInt = 0) ↔ ((2 : Int) < n.toInt ∧ (¬ c2.toInt = 32 ∨ (((1 : Int) < n.toInt ∧ ¬ c1.toInt = 32) ∧ (((3 : Int) < n.toInt ∧ ¬ c3.toInt = 32) ∨ ((4 : Int) < n.toInt ∧ ¬ c4.toInt = 32))))))
    (K3 : (¬ k3.toInt = 0) ↔ ((3 : Int) < n.toInt ∧ (¬ c3.toInt = 32 ∨ (((2 : Int) < n.toInt ∧ ¬ c2.toInt = 32) ∧ ((4 : Int) < n.toInt ∧ ¬ c4.toInt = 32)))))
    (K4 : (¬ k4.toInt = 0) ↔ ((4 : Int) < n.toInt ∧ ¬ c4.toInt = 32))
    (P0 : own_P [0, 0, 0, 0, 0] 0 k0 c0 e1 m1) (P1 : own_P e1 m1 k1 c1 e2 m2) (P2 : own_P e2 m2 k2 c2 e3 m3) (P3 : own_P e3 m3 k3 c3 e4 m4) (P4 : own_P e4 m4 k4 c4 e5 m5) :
    m5.toInt = (col [c0, c1, c2, c3, c4] n.toNatClampNeg).length ∧ ∀ k, k < (col [c0, c1, c2, c3, c4] n.toNatClampNeg).length → e5.getD k 0 = (col [c0, c1, c2, c3, c4] n.toNatClampNeg).getD k 0 := by
  have z := own_dec
  have j0 : (0 : Int32).toInt = 0 := by decide
  have j1 : (1 : Int32).toInt = 1 := by decide
  have j2 : (2 : Int32).toInt = 2 := by decide
  have j3 : (3 : Int32).toInt = 3 := by decide
  have j4 : (4 : Int32).toInt = 4 := by decide
  have j5 : (5 : Int32).toInt = 5 := by decide
  suffices M : m5.toInt = (col [c0, c1, c2, c3, c4] n.toNatClampNeg).length ∧ col [c0, c1, c2, c3, c4] n.toNatClampNeg = e5.take m5.toNatClampNeg by
    refine ⟨M.1, fun k hk => ?_⟩
    rw [M.2] at hk ⊢
    rw [List.getD_eq_getElem?_getD, List.getD_eq_getElem?_getD, List.getElem?_take_of_lt (by rw [List.length_take] at hk; omega)]
  rcases own_N6 hn with rfl | rfl | rfl | rfl | rfl | rfl
  · (simp [j0] at K0 K1 K2 K3 K4; (rcases P0 with ⟨a0, rfl, rfl⟩ | ⟨a0, rfl, rfl⟩ <;> first | (exact absurd a0 K0) | (exact absurd K0 a0) | (rcases P1 with ⟨a1, rfl, rfl⟩ | ⟨a1, rfl, rfl⟩ <;> first | (exact absurd a1 K1) | (exact absurd K1 a1) | (rcases P2 with ⟨a2, rfl, rfl⟩ | ⟨a2, rfl, rfl⟩ <;> first | (exact absurd a2 K2) | (exact absurd K2 a2) | (rcases P3 with ⟨a3, rfl, rfl⟩ | ⟨a3, rfl, rfl⟩ <;> first | (exact absurd a3 K3) | (exact absurd K3 a3) | (rcases P4 with ⟨a4, rfl, rfl⟩ | ⟨a4, rfl, rfl⟩ <;> first | (exact absurd a4 K4) | (exact absurd K4 a4) | (simp [col, trim, cst, tk0, tk1, tk2, tk3, tk4, tk5, ti1, ti2, ti3, ti4, ti5, j0, j1, j2, j3, j4, j5])))))))
  · rcases z c0 with ⟨h0, g0⟩ | ⟨h0, g0⟩ <;> (simp [j1, h0] at K0 K1 K2 K3 K4; (rcases P0 with ⟨a0, rfl, rfl⟩ | ⟨a0, rfl, rfl⟩ <;> first | (exact absurd a0 K0) | (exact absurd K0 a0) | (rcases P1 with ⟨a1, rfl, rfl⟩ | ⟨a1, rfl, rfl⟩ <;> first | (exact absurd a1 K1) | (exact absurd K1 a1) | (rcases P2 with ⟨a2, rfl, rfl⟩ | ⟨a2, rfl, rfl⟩ <;> first | (exact absurd a2 K2) | (exact absurd K2 a2) | (rcases P3 with ⟨a3, rfl, rfl⟩ | ⟨a3, rfl, rfl⟩ <;> first | (exact absurd a3 K3) | (exact absurd K3 a3) | (rcases P4 with ⟨a4, rfl, rfl⟩ | ⟨a4, rfl, rfl⟩ <;> first | (exact absurd a4 K4) | (exact absurd K4 a4) | (simp [col, trim, cst, tk0, tk1, tk2, tk3, tk4, tk5, ti1, ti2, ti3, ti4, ti5, j0, j1, j2, j3, j4, j5, g0])))))))
  · rcases z c0 with ⟨h0, g0⟩ | ⟨h0, g0⟩ <;> rcases z c1 with ⟨h1, g1⟩ | ⟨h1, g1⟩ <;> (simp [j2, h0, h1] at K0 K1 K2 K3 K4; (rcases P0 with ⟨a0, rfl, rfl⟩ | ⟨a0, rfl, rfl⟩ <;> first | (exact absurd a0 K0) | (exact absurd K0 a0) | (rcases P1 with ⟨a1, rfl, rfl⟩ | ⟨a1, rfl, rfl⟩ <;> first | (exact absurd a1 K1) | (exact absurd K1 a1) | (rcases P2 with ⟨a2, rfl, rfl⟩ | ⟨a2, rfl, rfl⟩ <;> first | (exact absurd a2 K2) | (exact absurd K2 a2) | (rcases P3 with ⟨a3, rfl, rfl⟩ | ⟨a3, rfl, rfl⟩ <;> first | (exact absurd a3 K3) | (exact absurd K3 a3) | (rcases P4 with ⟨a4, rfl, rfl⟩ | ⟨a4, rfl, rfl⟩ <;> first | (exact absurd a4 K4) | (exact absurd K4 a4) | (simp [col, trim, cst, tk0, tk1, tk2, tk3, tk4, tk5, ti1, ti2, ti3, ti4, ti5, j0, j1, j2, j3, j4, j5, g0, g1])))))))
  · rcases z c0 with ⟨h0, g0⟩ | ⟨h0, g0⟩ <;> rcases z c1 with ⟨h1, g1⟩ | ⟨h1, g1⟩ <;> rcases z c2 with ⟨h2, g2⟩ | ⟨h2, g2⟩ <;> (simp [j3, h0, h1, h2] at K0 K1 K2 K3 K4; (rcases P0 with ⟨a0, rfl, rfl⟩ | ⟨a0, rfl, rfl⟩ <;> first | (exact absurd a0 K0) | (exact absurd K0 a0) | (rcases P1 with ⟨a1, rfl, rfl⟩ | ⟨a1, rfl, rfl⟩ <;> first | (exact absurd a1 K1) | (exact absurd K1 a1) | (rcases P2 with ⟨a2, rfl, rfl⟩ | ⟨a2, rfl, rfl⟩ <;> first | (exact absurd a2 K2) | (exact absurd K2 a2) | (rcases P3 with ⟨a3, rfl, rfl⟩ | ⟨a3, rfl, rfl⟩ <;> first | (exact absurd a3 K3) | (exact absurd K3 a3) | (rcases P4 with ⟨a4, rfl, rfl⟩ | ⟨a4, rfl, rfl⟩ <;> first | (exact absurd a4 K4) | (exact absurd K4 a4) | (simp [col, trim, cst, tk0, tk1, tk2, tk3, tk4, tk5, ti1, ti2, ti3, ti4, ti5, j0, j1, j2, j3, j4, j5, g0, g1, g2])))))))
  · rcases z c0 with ⟨h0, g0⟩ | ⟨h0, g0⟩ <;> rcases z c1 with ⟨h1, g1⟩ | ⟨h1, g1⟩ <;> rcases z c2 with ⟨h2, g2⟩ | ⟨h2, g2⟩ <;> rcases z c3 with ⟨h3, g3⟩ | ⟨h3, g3⟩ <;> (simp [j4, h0, h1, h2, h3] at K0 K1 K2 K3 K4; (rcases P0 with ⟨a0, rfl, rfl⟩ | ⟨a0, rfl, rfl⟩ <;> first | (exact absurd a0 K0) | (exact absurd K0 a0) | (rcases P1 with ⟨a1, rfl, rfl⟩ | ⟨a1, rfl, rfl⟩ <;> first | (exact absurd a1 K1) | (exact absurd K1 a1) | (rcases P2 with ⟨a2, rfl, rfl⟩ | ⟨a2, rfl, rfl⟩ <;> first | (exact absurd a2 K2) | (exact absurd K2 a2) | (rcases P3 with ⟨a3, rfl, rfl⟩ | ⟨a3, rfl, rfl⟩ <;> first | (exact absurd a3 K3) | (exact absurd K3 a3) | (rcases P4 with ⟨a4, rfl, rfl⟩ | ⟨a4, rfl, rfl⟩ <;> first | (exact absurd a4 K4) | (exact absurd K4 a4) | (simp [col, trim, cst, tk0, tk1, tk2, tk3, tk4, tk5, ti1, ti2, ti3, ti4, ti5, j0, j1, j2, j3, j4, j5, g0, g1, g2, g3])))))))
  · rcases z c0 with ⟨h0, g0⟩ | ⟨h0, g0⟩ <;> rcases z c1 with ⟨h1, g1⟩ | ⟨h1, g1⟩ <;> rcases z c2 with ⟨h2, g2⟩ | ⟨h2, g2⟩ <;> rcases z c3 with ⟨h3, g3⟩ | ⟨h3, g3⟩ <;> rcases z c4 with ⟨h4, g4⟩ | ⟨h4, g4⟩ <;> (simp [j5, h0, h1, h2, h3, h4] at K0 K1 K2 K3 K4; (rcases P0 with ⟨a0, rfl, rfl⟩ | ⟨a0, rfl, rfl⟩ <;> first | (exact absurd a0 K0) | (exact absurd K0 a0) | (rcases P1 with ⟨a1, rfl, rfl⟩ | ⟨a1, rfl, rfl⟩ <;> first | (exact absurd a1 K1) | (exact absurd K1 a1) | (rcases P2 with ⟨a2, rfl, rfl⟩ | ⟨a2, rfl, rfl⟩ <;> first | (exact absurd a2 K2) | (exact absurd K2 a2) | (rcases P3 with ⟨a3, rfl, rfl⟩ | ⟨a3, rfl, rfl⟩ <;> first | (exact absurd a3 K3) | (exact absurd K3 a3) | (rcases P4 with ⟨a4, rfl, rfl⟩ | ⟨a4, rfl, rfl⟩ <;> first | (exact absurd a4 K4) | (exact absurd K4 a4) | (simp [col, trim, cst, tk0, tk1, tk2, tk3, tk4, tk5, ti1, ti2, ti3, ti4, ti5, j0, j1, j2, j3, j4, j5, g0, g1, g2, g3, g4])))))))
def own_X5 (x : Int32) : Prop := 0 ≤ x.toInt ∧ x.toInt < 5
theorem own_x0 {x : Int32} (h : own_X5 x) : ¬ x < (0 : Int32) := fun q => by
  have := Int32.lt_iff_toInt_lt.mp q
  have k : (0 : Int32).toInt = 0 := by decide
  have := h.1
  omega
theorem own_x5 {x : Int32} (h : own_X5 x) : x < (5 : Int32) := Int32.lt_iff_toInt_lt.mpr (by
  have k : (5 : Int32).toInt = 5 := by decide
  have := h.2
  omega)
theorem own_aty {s i : Nat} {ps cs xs zs es : List Int32} {n t m mL y ix : Int32} (hC : own_C s ps cs n xs t) (hZ : own_Z s xs m zs) (hmm : m = mL) (hl : m.toInt = (col cs n.toNatClampNeg).length) (he : i < (col cs n.toNatClampNeg).length → es.getD i 0 = (col cs n.toNatClampNeg).getD i 0) (hB : ∀ x ∈ cs, own_B x) (hq : ix.toInt = i)
    (D : ((¬ (ix.toInt < mL.toInt)) ∧ y = (1 : Int32)) ∨ (ix.toInt < mL.toInt ∧ (¬ ((zs.getD ix.toNatClampNeg 0 &&& (255 : Int32)).toInt = (es.getD ix.toNatClampNeg 0).toInt)) ∧ y = (0 : Int32)) ∨ (ix.toInt < mL.toInt ∧ (zs.getD ix.toNatClampNeg 0 &&& (255 : Int32)).toInt = (es.getD ix.toNatClampNeg 0).toInt ∧ y = (1 : Int32))) : ¬ y = (0 : Int32) := by
  have hx := own_tn hq
  subst hmm
  rw [hx] at D
  rcases D with ⟨-, rfl⟩ | ⟨a, b, rfl⟩ | ⟨-, -, rfl⟩
  · decide
  · exfalso
    have hk : i < (col cs n.toNatClampNeg).length := by omega
    apply b
    have e1 := hZ i (by omega)
    have e2 := hC.2.2.2.2 i hk
    have hb : own_B ((col cs n.toNatClampNeg).getD i 0) := by
      rw [List.getD_eq_getElem?_getD, List.getElem?_eq_getElem hk]
      exact own_colB hB _ (List.getElem_mem hk)
    have e3 := own_bvc hb
    rw [own_i2c (own_and _)] at e3
    rw [e1, e2, he hk, e3]
  · decide
theorem own_rl {y n c : Int32} {q : Int} (D : (y = (1 : Int32) ∧ (q < n.toInt ∧ ¬ c.toInt = 32)) ∨ (y = (0 : Int32) ∧ ¬ (q < n.toInt ∧ ¬ c.toInt = 32))) : (¬ y.toInt = 0) ↔ (q < n.toInt ∧ ¬ c.toInt = 32) := by
  rcases D with ⟨rfl, e⟩ | ⟨rfl, e⟩
  · exact ⟨fun _ => e, fun _ => by decide⟩
  · exact ⟨fun h => absurd (by decide) h, fun h => absurd h e⟩
theorem own_ro {y a b : Int32} {A B : Prop} (ha : (¬ a.toInt = 0) ↔ A) (hb : (¬ b.toInt = 0) ↔ B) (D : (¬ a.toInt = 0 ∧ y = (1 : Int32)) ∨ (a.toInt = 0 ∧ b.toInt = 0 ∧ y = (0 : Int32)) ∨ (a.toInt = 0 ∧ ¬ b.toInt = 0 ∧ y = (1 : Int32))) : (¬ y.toInt = 0) ↔ (A ∨ B) := by
  rw [← ha, ← hb]
  rcases D with ⟨e, rfl⟩ | ⟨e, f, rfl⟩ | ⟨e, f, rfl⟩
  · exact ⟨fun _ => Or.inl e, fun _ => by decide⟩
  · exact ⟨fun h => absurd (by decide) h, fun h => h.elim (fun z => absurd e z) (fun z => absurd f z)⟩
  · exact ⟨fun _ => Or.inr f, fun _ => by decide⟩
theorem own_rk {y n c a b : Int32} {q : Int} {A B : Prop} (ha : (¬ a.toInt = 0) ↔ A) (hb : (¬ b.toInt = 0) ↔ B) (D : (¬ q < n.toInt ∧ y = (0 : Int32)) ∨ (q < n.toInt ∧ ¬ c.toInt = 32 ∧ y = (1 : Int32)) ∨ (q < n.toInt ∧ c.toInt = 32 ∧ a.toInt = 0 ∧ y = (0 : Int32)) ∨ (q < n.toInt ∧ c.toInt = 32 ∧ ¬ a.toInt = 0 ∧ b.toInt = 0 ∧ y = (0 : Int32)) ∨ (q < n.toInt ∧ c.toInt = 32 ∧ ¬ a.toInt = 0 ∧ ¬ b.toInt = 0 ∧ y = (1 : Int32))) : (¬ y.toInt = 0) ↔ (q < n.toInt ∧ (¬ c.toInt = 32 ∨ (A ∧ B))) := by
  rw [← ha, ← hb]
  rcases D with ⟨e, rfl⟩ | ⟨e, f, rfl⟩ | ⟨e, f, g, rfl⟩ | ⟨e, f, g, i, rfl⟩ | ⟨e, f, g, i, rfl⟩
  · exact ⟨fun h => absurd (by decide) h, fun h => absurd h.1 e⟩
  · exact ⟨fun _ => ⟨e, Or.inl f⟩, fun _ => by decide⟩
  · exact ⟨fun h => absurd (by decide) h, fun h => h.2.elim (fun z => absurd f z) (fun z => absurd g z.1)⟩
  · exact ⟨fun h => absurd (by decide) h, fun h => h.2.elim (fun z => absurd f z) (fun z => absurd i z.2)⟩
  · exact ⟨fun _ => ⟨e, Or.inr ⟨g, i⟩⟩, fun _ => by decide⟩
theorem own_r4 {y n c : Int32} {q : Int} (D : (¬ q < n.toInt ∧ y = (0 : Int32)) ∨ (q < n.toInt ∧ c.toInt = 32 ∧ y = (0 : Int32)) ∨ (q < n.toInt ∧ ¬ c.toInt = 32 ∧ y = (1 : Int32))) : (¬ y.toInt = 0) ↔ (q < n.toInt ∧ ¬ c.toInt = 32) := by
  rcases D with ⟨e, rfl⟩ | ⟨e, f, rfl⟩ | ⟨e, f, rfl⟩
  · exact ⟨fun h => absurd (by decide) h, fun h => absurd h.1 e⟩
  · exact ⟨fun h => absurd (by decide) h, fun h => absurd f h.2⟩
  · exact ⟨fun _ => ⟨e, f⟩, fun _ => by decide⟩
theorem own_fr {s i : Nat} {fr : Int32} (hf : fr.toInt = (s : Int) + i) (hs : s ≤ 2) (hi : i ≤ 5) : ¬ fr < 0 ∧ fr < 256 := by
  have k0 : (0 : Int32).toInt = 0 := by decide
  have k1 : (256 : Int32).toInt = 256 := by decide
  rw [Int32.lt_iff_toInt_lt, Int32.lt_iff_toInt_lt]
  omega
theorem own_fr1 {s i : Nat} {fr : Int32} (hf : fr.toInt = (s : Int) + i) (hs : s ≤ 2) (hi : i ≤ 4) : (fr + (1 : Int32)).toInt = (s : Int) + ((i + 1 : Nat) : Int) := by
  have c := c_iadd fr 1
  have k1 : (1 : Int32).toInt = 1 := by decide
  have r := rng32 (fr + (1 : Int32))
  omega
theorem own_sti {s : Nat} {n en fr : Int32} (hn : own_N n) (he : en.toInt = (s : Int) + n.toInt) (hf : fr.toInt = (s : Int) + ((5 : Nat) : Int)) : ¬ fr < en := fun q => by
  have := Int32.lt_iff_toInt_lt.mp q
  have := hn.2
  omega
theorem own_exi {s i : Nat} {n en fr : Int32} (h : ¬ (fr.toInt < en.toInt)) (hf : fr.toInt = (s : Int) + i) (he : en.toInt = (s : Int) + n.toInt) (hi : (i : Int) ≤ n.toInt) : n.toInt = i := by omega
theorem own_ex5i {n : Int32} (hi : ((5 : Nat) : Int) ≤ n.toInt) (hn : own_N n) : n.toInt = ((5 : Nat) : Int) := by
  have := hn.2
  omega
theorem own_lti {s i : Nat} {n en fr : Int32} (h : fr.toInt < en.toInt) (hf : fr.toInt = (s : Int) + i) (he : en.toInt = (s : Int) + n.toInt) : ((i + 1 : Nat) : Int) ≤ n.toInt := by omega
theorem own_ldi {s i : Nat} {ps cs : List Int32} {n t en fr c : Int32} {xs out : List Int32} (I : own_I s ps cs i n xs t out) (h : fr.toInt < en.toInt) (hf : fr.toInt = (s : Int) + i) (he : en.toInt = (s : Int) + n.toInt) (hc : c = cs.getD i 0) : (Y xs).getD fr.toNatClampNeg (.int 0) = .int c := by
  rw [own_getX, own_tn (t := fr) (k := s + i) (by omega), I.2.2.2.2.2 i (Nat.le_refl _) (by omega), hc]
theorem own_fold {cs out : List Int32} {i : Nat} {c : Int32} (h : i < cs.length) (ho : (cs.take i).foldl cst [] = out) (hc : c = cs.getD i 0) : (cs.take (i + 1)).foldl cst [] = cst out c := by
  have e : cs.take (i + 1) = cs.take i ++ [c] := by
    rw [hc, List.getD_eq_getElem?_getD, List.getElem?_eq_getElem h, List.take_succ, List.getElem?_eq_getElem h]; rfl
  rw [e, List.foldl_append, ho]; rfl
theorem own_getB {cs : List Int32} {i : Nat} {c : Int32} (hB : ∀ x ∈ cs, own_B x) (h : i < cs.length) (hc : c = cs.getD i 0) : own_B c := by
  rw [hc, List.getD_eq_getElem?_getD, List.getElem?_eq_getElem h]
  exact hB _ (List.getElem_mem h)
theorem own_nn5 {n : Int32} (h : own_N n) : n.toInt ≤ 5 := h.2
theorem ilt {x y : Int32} (h : x < y) : x.toInt < y.toInt := Int32.lt_iff_toInt_lt.mp h
theorem inl {x y : Int32} (h : ¬ x < y) : ¬ x.toInt < y.toInt := fun q => h (Int32.lt_iff_toInt_lt.mpr q)
theorem ieq {x y : Int32} (h : x = y) : x.toInt = y.toInt := congrArg Int32.toInt h
theorem ine {x y : Int32} (h : ¬ x = y) : ¬ x.toInt = y.toInt := fun q => h (Int32.toInt_inj.mp q)
abbrev Hw (a0 : Array Value) (Z : State) : Prop := ∀ d ∈ tables_1, d.before a0 Z = true
theorem own_isref {t : Term} {args : Array Value} {s : State} (h : (Jvm.Cond.isRef t).before args s = true) : ∃ v : Value, t.eval args s none [] s = some v ∧ v.isRef = true := by
  have h := Cond.before_iff.mp h
  simp only [Cond.value] at h
  cases ht : t.eval args s none [] s with
  | none => simp [ht] at h
  | some v => refine ⟨v, rfl, ?_⟩; rw [ht] at h; cases v <;> simp [Value.isRef] at h ⊢
set_option maxRecDepth 65536
set_option maxHeartbeats 40000000
abbrev i1 : Int32 := 1
abbrev i255 : Int32 := 255
abbrev i32 : Int32 := 32
abbrev i0 : Int32 := 0
abbrev i8 : Int32 := 8
abbrev i9 : Int32 := 9
abbrev i256 : Int32 := 256
abbrev im1 : Int32 := -1
abbrev i5 : Int32 := 5
abbrev i2 : Int32 := 2
abbrev i3 : Int32 := 3
abbrev i4 : Int32 := 4
abbrev i258 : Int32 := 258
abbrev i254 : Int32 := 254
abbrev i6 : Int32 := 6
abbrev i7 : Int32 := 7
abbrev i257 : Int32 := 257
abbrev i18 : Int32 := 18
abbrev i113 : Int32 := 113
abbrev i112 : Int32 := 112
abbrev rv (a : Addr) : Slot := .val (.ref a)
abbrev iv (a : Int32) : Slot := .val (.int a)
abbrev un : Slot := .unset
abbrev cE : String := "com/example/medis/medis/engine/ElementAttributes"
abbrev cS : String := "java/lang/String"
abbrev cL : String := "com/example/medis/medis/engine/ElementAttributesCollapseLastPinLaw"
abbrev cP : String := "jdk/internal/util/Preconditions"
abbrev cF : String := "Ljava/util/function/BiFunction;"
abbrev cM : String := "SIOOBE_FORMATTER"
abbrev cG : String := "[Ljava/lang/String;"
abbrev fq : String := "qualifiedNames"
abbrev fu : String := "namespaceUris"
abbrev fl : String := "localNames"
abbrev fc : String := "colons"
abbrev fs : String := "valueStarts"
abbrev fg : String := "valueStrings"
abbrev fv : String := "values"
abbrev cC : String := "COMPACT_STRINGS"
abbrev cU : String := "java/lang/StringUTF16"
abbrev cW : String := "java/lang/StringLatin1"
abbrev sA : String := "(Ljava/lang/String;[CII)Z"
abbrev sV : String := "([CIILjava/lang/Void;)V"
abbrev sI : String := "(IIILjava/util/function/BiFunction;)I"
variable (l : Launch) (Z : State) (a0 : Array Value)
abbrev rM (f c s l : Nat) : Room := { frames := f, cells := c, slots := s, locals := l }
theorem rc {p : Program} {e : Env} {below : List Frame} {n0 : Nat} {Q : Option Value → Heap → Prop} {G : Outcome → State → List Loc → Prop} {m : MethodId} {T : State} {pc : Nat} {ls : Array Slot} {st st' : List Value} (q : st = st') (r : Run p e below n0 Q G m T pc ls st') : Run p e below n0 Q G m T pc ls st := Run.cast q r
theorem rm_a1 (hw : Hw a0 Z) (ga0 : Int32) (h0 : Heap) (n0 : Nat) (Z0 : n0 ≤ h0.size)  :
    Met l Z (⟨cL, "ch", "(I)C"⟩ : MethodName) method_2_code 1 (some .char) (rM 0 0 0 0) [] #[(.int ga0)] h0 n0 (fun v h => ∃ (yF : Int32), v = some (.int yF) ∧ own_B yF ∧ Keep h0 h []) := by
  refine Met.mkQ (tabs := tables_1) (a0 := a0) (ls0 := #[iv ga0]) (plainFor_of_name pn_com_example_medis_medis_engine_ElementAttributesCollapseLastPinLaw) hw Z0 (fun m => by first | (simp [entryFrame, mkF, argsToLocals, Value.category]; done) | rfl) ?_
  intro p e s m below meth c T Q' G' hQ hG C X
  have Kp : Keep h0 h0 [] := Keep.refl _ _
  refine s_iloadN 1 C X d1_0 rfl ?_
  refine s_iconst 2 C X d1_1 kc_iconst_1 ?_
  refine s_iand 3 C X d1_2 ?_
  refine s_if_eq 11 6 C X d1_3 (fun c3_1 => ?_) (fun c3_1 => ?_)
  · have t_c3_1 : ((ga0 &&& i1)).toInt = (0 : Int) := congrArg Int32.toInt c3_1
    refine s_iloadN 12 C X d1_11 rfl ?_
    refine s_iconst 13 C X d1_12 kc_iconst_1 ?_
    refine s_iushr 14 C X d1_13 ?_
    refine s_sipush 17 C X d1_14 kc_sipush_255 ?_
    refine s_iand 18 C X d1_17 ?_
    refine s_i2c 19 C X d1_18 ?_
    refine rc (st' := [(.int (((ga0).toUInt32 >>> (i1 &&& 31).toUInt32).toInt32 &&& i255))]) (by rw [own_i2c (own_and _)]) ?_
    refine s_nreturn C X d1_19 rfl (by simp) (own_nc (own_and _)) ?_ (FG hG (by decide) (by decide))
    obtain ⟨yF, e_yF⟩ : ∃ z : Int32, z = (((ga0).toUInt32 >>> (i1 &&& 31).toUInt32).toInt32 &&& i255) := ⟨_, rfl⟩
    show Q' (some (.int (((ga0).toUInt32 >>> (i1 &&& 31).toUInt32).toInt32 &&& i255))) _
    rw [← e_yF]
    have hvB : own_B yF := by rw [e_yF]; exact own_and _
    exact hQ _ _ ⟨yF, rfl, hvB, Kp⟩
  refine s_bipush 8 C X d1_6 kc_bipush_32 ?_
  refine s_goto 19 C X d1_8 ?_
  refine s_nreturn C X d1_19 rfl (by simp) rfl ?_ (FG hG (by decide) (by decide))
  obtain ⟨yF, e_yF⟩ : ∃ z : Int32, z = i32 := ⟨_, rfl⟩
  show Q' (some (.int i32)) _
  rw [← e_yF]
  have hvB : own_B yF := by rw [e_yF]; exact (by unfold own_B; decide)
  exact hQ _ _ ⟨yF, rfl, hvB, Kp⟩
theorem rm_a2 (hw : Hw a0 Z) (o46 : Addr) (h0 : Heap) (n0 : Nat) (Z0 : n0 ≤ h0.size) (E_o46 : Exa Z h0 o46 cE) (F_o46_q : Fld Z h0 o46 cE fq cG .null) (F_o46_u : Fld Z h0 o46 cE fu cG .null) (F_o46_l : Fld Z h0 o46 cE fl cG .null) (F_o46_c : Fld Z h0 o46 cE fc "[I" .null) (F_o46_s : Fld Z h0 o46 cE fs "[I" .null) (F_o46_g : Fld Z h0 o46 cE fg cG .null) (F_o46_v : Fld Z h0 o46 cE fv "[C" .null) (F_o46_n : Fld Z h0 o46 cE "length" "I" (.int i0)) (g_o46 : n0 ≤ o46) :
    Met l Z (⟨cE, "<init>", "()V"⟩ : MethodName) prog_35_method_1_code 1 none (rM 1 7 305 12) [] #[(.ref o46)] h0 n0 (fun v h => ∃ (k_o47 : ClassId) (k_o48 : ClassId) (k_o49 : ClassId) (k_o50 : ClassId) (k_o51 : ClassId) (k_o52 : ClassId) (k_o53 : ClassId) (o47 : Addr) (o48 : Addr) (o49 : Addr) (o50 : Addr) (o51 : Addr) (o52 : Addr) (o53 : Addr), v = none ∧ Exa Z h o46 cE ∧ Fld Z h o46 cE fq cG (.ref o47) ∧ Fld Z h o46 cE fu cG (.ref o48) ∧ Fld Z h o46 cE fl cG (.ref o49) ∧ Fld Z h o46 cE fc "[I" (.ref o50) ∧ Fld Z h o46 cE fs "[I" (.ref o51) ∧ Fld Z h o46 cE fg cG (.ref o52) ∧ Fld Z h o46 cE fv "[C" (.ref o53) ∧ Fld Z h o46 cE "length" "I" (.int i0) ∧ Keep h0 h [o46] ∧ Arv Z h o47 k_o47 (.object cS) i8 [.null, .null, .null, .null, .null, .null, .null, .null] .null ∧ Arv Z h o48 k_o48 (.object cS) i8 [.null, .null, .null, .null, .null, .null, .null, .null] .null ∧ Arv Z h o49 k_o49 (.object cS) i8 [.null, .null, .null, .null, .null, .null, .null, .null] .null ∧ Arv Z h o50 k_o50 .int i8 [(.int i0), (.int i0), (.int i0), (.int i0), (.int i0), (.int i0), (.int i0), (.int i0)] (.int i0) ∧ Arv Z h o51 k_o51 .int i9 [(.int i0), (.int i0), (.int i0), (.int i0), (.int i0), (.int i0), (.int i0), (.int i0), (.int i0)] (.int i0) ∧ Arv Z h o52 k_o52 (.object cS) i8 [.null, .null, .null, .null, .null, .null, .null, .null] .null ∧ Arv Z h o53 k_o53 .char i256 [(.int i0), (.int i0), (.int i0), (.int i0), (.int i0), (.int i0), (.int i0), (.int i0)] (.int i0) ∧ o46 ≠ o47 ∧ h0.size ≤ o47 ∧ n0 ≤ o47 ∧ o46 ≠ o48 ∧ h0.size ≤ o48 ∧ o47 ≠ o48 ∧ n0 ≤ o48 ∧ o46 ≠ o49 ∧ h0.size ≤ o49 ∧ o47 ≠ o49 ∧ o48 ≠ o49 ∧ n0 ≤ o49 ∧ o46 ≠ o50 ∧ h0.size ≤ o50 ∧ o47 ≠ o50 ∧ o48 ≠ o50 ∧ o49 ≠ o50 ∧ n0 ≤ o50 ∧ o46 ≠ o51 ∧ h0.size ≤ o51 ∧ o47 ≠ o51 ∧ o48 ≠ o51 ∧ o49 ≠ o51 ∧ o50 ≠ o51 ∧ n0 ≤ o51 ∧ o46 ≠ o52 ∧ h0.size ≤ o52 ∧ o47 ≠ o52 ∧ o48 ≠ o52 ∧ o49 ≠ o52 ∧ o50 ≠ o52 ∧ o51 ≠ o52 ∧ n0 ≤ o52 ∧ o46 ≠ o53 ∧ h0.size ≤ o53 ∧ o47 ≠ o53 ∧ o48 ≠ o53 ∧ o49 ≠ o53 ∧ o50 ≠ o53 ∧ o51 ≠ o53 ∧ o52 ≠ o53 ∧ n0 ≤ o53 ∧ Ovr Z k_o47 cS ∧ Ovr Z k_o48 cS ∧ Ovr Z k_o49 cS ∧ Ovr Z k_o52 cS) := by
  refine Met.mkQ (tabs := tables_1) (a0 := a0) (ls0 := #[rv o46]) (plainFor_of_name pn_com_example_medis_medis_engine_ElementAttributes) hw Z0 (fun m => by first | (simp [entryFrame, mkF, argsToLocals, Value.category]; done) | rfl) ?_
  intro p e s m below meth c T Q' G' hQ hG C X
  have Kp : Keep h0 h0 [o46] := Keep.refl _ _
  refine s_aloadN 1 C X d2_0 rfl rfl ?_
  refine s_objInit 4 C X d2_1 (mW 11 rfl) (mW 12 rfl) (mW 13 rfl) rfl (W := 0) rfl (by decide) (fun T X => ?_)
  refine s_aloadN 5 C X d2_4 rfl rfl ?_
  refine s_bipush 7 C X d2_5 kc_bipush_8 ?_
  refine s_anewarray 10 8 cG C X d2_7 (mW 14 rfl) (mW 15 rfl) (by decide) (by decide) rfl (fun T hh o47 k_o47 hb_o47 X E A_o47 E_o47 O_o47 g_o47 => ?_)
  have ne_o46_o47 : o46 ≠ o47 := Nat.ne_of_lt (Nat.lt_of_lt_of_le E_o46.lt (Nat.le_of_eq hb_o47))
  have sz_o47 : h0.size ≤ o47 := Nat.le_trans Kp.1 (Nat.le_of_eq hb_o47)
  have E_o46 := E_o46.ext E
  have F_o46_q := F_o46_q.ext E
  have F_o46_u := F_o46_u.ext E
  have F_o46_l := F_o46_l.ext E
  have F_o46_c := F_o46_c.ext E
  have F_o46_s := F_o46_s.ext E
  have F_o46_g := F_o46_g.ext E
  have F_o46_v := F_o46_v.ext E
  have F_o46_n := F_o46_n.ext E
  have Kp := Kp.ext E
  have A_o47 : Arv Z _ o47 k_o47 (.object cS) i8 [.null, .null, .null, .null, .null, .null, .null, .null] .null := A_o47.pad (pad_rep [] _ 8)
  refine s_putfield 13 C X (host := "") d2_10 (Or.inl (mW 16 rfl)) Via.refl F_o46_q E_o46 (Or.inl (mW 17 rfl)) (mW 6 rfl) (ty := (.array (.object cS))) (by decide) rfl rfl g_o46 (fun T hh X W => ?_)
  have E_o46 := E_o46.wr W
  have F_o46_q := F_o46_q.same W
  have F_o46_u := oth F_o46_u W (Or.inl (hw _ (mW 19 rfl))) (Or.inl (hw _ (mW 17 rfl))) (by decide)
  have F_o46_l := oth F_o46_l W (Or.inl (hw _ (mW 21 rfl))) (Or.inl (hw _ (mW 17 rfl))) (by decide)
  have F_o46_c := oth F_o46_c W (Or.inl (hw _ (mW 24 rfl))) (Or.inl (hw _ (mW 17 rfl))) (by decide)
  have F_o46_s := oth F_o46_s W (Or.inl (hw _ (mW 26 rfl))) (Or.inl (hw _ (mW 17 rfl))) (by decide)
  have F_o46_g := oth F_o46_g W (Or.inl (hw _ (mW 28 rfl))) (Or.inl (hw _ (mW 17 rfl))) (by decide)
  have F_o46_v := oth F_o46_v W (Or.inl (hw _ (mW 30 rfl))) (Or.inl (hw _ (mW 17 rfl))) (by decide)
  have F_o46_n := oth F_o46_n W (Or.inl (hw _ (mW 45 rfl))) (Or.inl (hw _ (mW 17 rfl))) (by decide)
  have Kp := Kp.wr W (Or.inl (by simp))
  have A_o47 := A_o47.other W (Ne.symm ne_o46_o47)
  refine s_aloadN 14 C X d2_13 rfl rfl ?_
  refine s_bipush 16 C X d2_14 kc_bipush_8 ?_
  refine s_anewarray 19 8 cG C X d2_16 (mW 14 rfl) (mW 15 rfl) (by decide) (by decide) rfl (fun T hh o48 k_o48 hb_o48 X E A_o48 E_o48 O_o48 g_o48 => ?_)
  have ne_o46_o48 : o46 ≠ o48 := Nat.ne_of_lt (Nat.lt_of_lt_of_le E_o46.lt (Nat.le_of_eq hb_o48))
  have sz_o48 : h0.size ≤ o48 := Nat.le_trans Kp.1 (Nat.le_of_eq hb_o48)
  have ne_o47_o48 : o47 ≠ o48 := Nat.ne_of_lt (Nat.lt_of_lt_of_le A_o47.lt (Nat.le_of_eq hb_o48))
  have E_o46 := E_o46.ext E
  have F_o46_q := F_o46_q.ext E
  have F_o46_u := F_o46_u.ext E
  have F_o46_l := F_o46_l.ext E
  have F_o46_c := F_o46_c.ext E
  have F_o46_s := F_o46_s.ext E
  have F_o46_g := F_o46_g.ext E
  have F_o46_v := F_o46_v.ext E
  have F_o46_n := F_o46_n.ext E
  have Kp := Kp.ext E
  have A_o47 := A_o47.ext E
  have A_o48 : Arv Z _ o48 k_o48 (.object cS) i8 [.null, .null, .null, .null, .null, .null, .null, .null] .null := A_o48.pad (pad_rep [] _ 8)
  refine s_putfield 22 C X (host := "") d2_19 (Or.inl (mW 18 rfl)) Via.refl F_o46_u E_o46 (Or.inl (mW 19 rfl)) (mW 6 rfl) (ty := (.array (.object cS))) (by decide) rfl rfl g_o46 (fun T hh X W => ?_)
  have E_o46 := E_o46.wr W
  have F_o46_q := oth F_o46_q W (Or.inl (hw _ (mW 17 rfl))) (Or.inl (hw _ (mW 19 rfl))) (by decide)
  have F_o46_u := F_o46_u.same W
  have F_o46_l := oth F_o46_l W (Or.inl (hw _ (mW 21 rfl))) (Or.inl (hw _ (mW 19 rfl))) (by decide)
  have F_o46_c := oth F_o46_c W (Or.inl (hw _ (mW 24 rfl))) (Or.inl (hw _ (mW 19 rfl))) (by decide)
  have F_o46_s := oth F_o46_s W (Or.inl (hw _ (mW 26 rfl))) (Or.inl (hw _ (mW 19 rfl))) (by decide)
  have F_o46_g := oth F_o46_g W (Or.inl (hw _ (mW 28 rfl))) (Or.inl (hw _ (mW 19 rfl))) (by decide)
  have F_o46_v := oth F_o46_v W (Or.inl (hw _ (mW 30 rfl))) (Or.inl (hw _ (mW 19 rfl))) (by decide)
  have F_o46_n := oth F_o46_n W (Or.inl (hw _ (mW 45 rfl))) (Or.inl (hw _ (mW 19 rfl))) (by decide)
  have Kp := Kp.wr W (Or.inl (by simp))
  have A_o47 := A_o47.other W (Ne.symm ne_o46_o47)
  have A_o48 := A_o48.other W (Ne.symm ne_o46_o48)
  refine s_aloadN 23 C X d2_22 rfl rfl ?_
  refine s_bipush 25 C X d2_23 kc_bipush_8 ?_
  refine s_anewarray 28 8 cG C X d2_25 (mW 14 rfl) (mW 15 rfl) (by decide) (by decide) rfl (fun T hh o49 k_o49 hb_o49 X E A_o49 E_o49 O_o49 g_o49 => ?_)
  have ne_o46_o49 : o46 ≠ o49 := Nat.ne_of_lt (Nat.lt_of_lt_of_le E_o46.lt (Nat.le_of_eq hb_o49))
  have sz_o49 : h0.size ≤ o49 := Nat.le_trans Kp.1 (Nat.le_of_eq hb_o49)
  have ne_o47_o49 : o47 ≠ o49 := Nat.ne_of_lt (Nat.lt_of_lt_of_le A_o47.lt (Nat.le_of_eq hb_o49))
  have ne_o48_o49 : o48 ≠ o49 := Nat.ne_of_lt (Nat.lt_of_lt_of_le A_o48.lt (Nat.le_of_eq hb_o49))
  have E_o46 := E_o46.ext E
  have F_o46_q := F_o46_q.ext E
  have F_o46_u := F_o46_u.ext E
  have F_o46_l := F_o46_l.ext E
  have F_o46_c := F_o46_c.ext E
  have F_o46_s := F_o46_s.ext E
  have F_o46_g := F_o46_g.ext E
  have F_o46_v := F_o46_v.ext E
  have F_o46_n := F_o46_n.ext E
  have Kp := Kp.ext E
  have A_o47 := A_o47.ext E
  have A_o48 := A_o48.ext E
  have A_o49 : Arv Z _ o49 k_o49 (.object cS) i8 [.null, .null, .null, .null, .null, .null, .null, .null] .null := A_o49.pad (pad_rep [] _ 8)
  refine s_putfield 31 C X (host := "") d2_28 (Or.inl (mW 20 rfl)) Via.refl F_o46_l E_o46 (Or.inl (mW 21 rfl)) (mW 6 rfl) (ty := (.array (.object cS))) (by decide) rfl rfl g_o46 (fun T hh X W => ?_)
  have E_o46 := E_o46.wr W
  have F_o46_q := oth F_o46_q W (Or.inl (hw _ (mW 17 rfl))) (Or.inl (hw _ (mW 21 rfl))) (by decide)
  have F_o46_u := oth F_o46_u W (Or.inl (hw _ (mW 19 rfl))) (Or.inl (hw _ (mW 21 rfl))) (by decide)
  have F_o46_l := F_o46_l.same W
  have F_o46_c := oth F_o46_c W (Or.inl (hw _ (mW 24 rfl))) (Or.inl (hw _ (mW 21 rfl))) (by decide)
  have F_o46_s := oth F_o46_s W (Or.inl (hw _ (mW 26 rfl))) (Or.inl (hw _ (mW 21 rfl))) (by decide)
  have F_o46_g := oth F_o46_g W (Or.inl (hw _ (mW 28 rfl))) (Or.inl (hw _ (mW 21 rfl))) (by decide)
  have F_o46_v := oth F_o46_v W (Or.inl (hw _ (mW 30 rfl))) (Or.inl (hw _ (mW 21 rfl))) (by decide)
  have F_o46_n := oth F_o46_n W (Or.inl (hw _ (mW 45 rfl))) (Or.inl (hw _ (mW 21 rfl))) (by decide)
  have Kp := Kp.wr W (Or.inl (by simp))
  have A_o47 := A_o47.other W (Ne.symm ne_o46_o47)
  have A_o48 := A_o48.other W (Ne.symm ne_o46_o48)
  have A_o49 := A_o49.other W (Ne.symm ne_o46_o49)
  refine s_aloadN 32 C X d2_31 rfl rfl ?_
  refine s_bipush 34 C X d2_32 kc_bipush_8 ?_
  refine s_newarray 36 8 C X d2_34 (mW 22 rfl) (by decide) (by decide) (fun T hh o50 k_o50 hb_o50 X E A_o50 g_o50 => ?_)
  have ne_o46_o50 : o46 ≠ o50 := Nat.ne_of_lt (Nat.lt_of_lt_of_le E_o46.lt (Nat.le_of_eq hb_o50))
  have sz_o50 : h0.size ≤ o50 := Nat.le_trans Kp.1 (Nat.le_of_eq hb_o50)
  have ne_o47_o50 : o47 ≠ o50 := Nat.ne_of_lt (Nat.lt_of_lt_of_le A_o47.lt (Nat.le_of_eq hb_o50))
  have ne_o48_o50 : o48 ≠ o50 := Nat.ne_of_lt (Nat.lt_of_lt_of_le A_o48.lt (Nat.le_of_eq hb_o50))
  have ne_o49_o50 : o49 ≠ o50 := Nat.ne_of_lt (Nat.lt_of_lt_of_le A_o49.lt (Nat.le_of_eq hb_o50))
  have E_o46 := E_o46.ext E
  have F_o46_q := F_o46_q.ext E
  have F_o46_u := F_o46_u.ext E
  have F_o46_l := F_o46_l.ext E
  have F_o46_c := F_o46_c.ext E
  have F_o46_s := F_o46_s.ext E
  have F_o46_g := F_o46_g.ext E
  have F_o46_v := F_o46_v.ext E
  have F_o46_n := F_o46_n.ext E
  have Kp := Kp.ext E
  have A_o47 := A_o47.ext E
  have A_o48 := A_o48.ext E
  have A_o49 := A_o49.ext E
  have A_o50 : Arv Z _ o50 k_o50 .int i8 [(.int i0), (.int i0), (.int i0), (.int i0), (.int i0), (.int i0), (.int i0), (.int i0)] (.int i0) := A_o50.pad (pad_rep [] _ 8)
  refine s_putfield 39 C X (host := "") d2_36 (Or.inl (mW 23 rfl)) Via.refl F_o46_c E_o46 (Or.inl (mW 24 rfl)) (mW 6 rfl) (ty := (.array .int)) (by decide) rfl rfl g_o46 (fun T hh X W => ?_)
  have E_o46 := E_o46.wr W
  have F_o46_q := oth F_o46_q W (Or.inl (hw _ (mW 17 rfl))) (Or.inl (hw _ (mW 24 rfl))) (by decide)
  have F_o46_u := oth F_o46_u W (Or.inl (hw _ (mW 19 rfl))) (Or.inl (hw _ (mW 24 rfl))) (by decide)
  have F_o46_l := oth F_o46_l W (Or.inl (hw _ (mW 21 rfl))) (Or.inl (hw _ (mW 24 rfl))) (by decide)
  have F_o46_c := F_o46_c.same W
  have F_o46_s := oth F_o46_s W (Or.inl (hw _ (mW 26 rfl))) (Or.inl (hw _ (mW 24 rfl))) (by decide)
  have F_o46_g := oth F_o46_g W (Or.inl (hw _ (mW 28 rfl))) (Or.inl (hw _ (mW 24 rfl))) (by decide)
  have F_o46_v := oth F_o46_v W (Or.inl (hw _ (mW 30 rfl))) (Or.inl (hw _ (mW 24 rfl))) (by decide)
  have F_o46_n := oth F_o46_n W (Or.inl (hw _ (mW 45 rfl))) (Or.inl (hw _ (mW 24 rfl))) (by decide)
  have Kp := Kp.wr W (Or.inl (by simp))
  have A_o47 := A_o47.other W (Ne.symm ne_o46_o47)
  have A_o48 := A_o48.other W (Ne.symm ne_o46_o48)
  have A_o49 := A_o49.other W (Ne.symm ne_o46_o49)
  have A_o50 := A_o50.other W (Ne.symm ne_o46_o50)
  refine s_aloadN 40 C X d2_39 rfl rfl ?_
  refine s_bipush 42 C X d2_40 kc_bipush_9 ?_
  refine s_newarray 44 9 C X d2_42 (mW 22 rfl) (by decide) (by decide) (fun T hh o51 k_o51 hb_o51 X E A_o51 g_o51 => ?_)
  have ne_o46_o51 : o46 ≠ o51 := Nat.ne_of_lt (Nat.lt_of_lt_of_le E_o46.lt (Nat.le_of_eq hb_o51))
  have sz_o51 : h0.size ≤ o51 := Nat.le_trans Kp.1 (Nat.le_of_eq hb_o51)
  have ne_o47_o51 : o47 ≠ o51 := Nat.ne_of_lt (Nat.lt_of_lt_of_le A_o47.lt (Nat.le_of_eq hb_o51))
  have ne_o48_o51 : o48 ≠ o51 := Nat.ne_of_lt (Nat.lt_of_lt_of_le A_o48.lt (Nat.le_of_eq hb_o51))
  have ne_o49_o51 : o49 ≠ o51 := Nat.ne_of_lt (Nat.lt_of_lt_of_le A_o49.lt (Nat.le_of_eq hb_o51))
  have ne_o50_o51 : o50 ≠ o51 := Nat.ne_of_lt (Nat.lt_of_lt_of_le A_o50.lt (Nat.le_of_eq hb_o51))
  have E_o46 := E_o46.ext E
  have F_o46_q := F_o46_q.ext E
  have F_o46_u := F_o46_u.ext E
  have F_o46_l := F_o46_l.ext E
  have F_o46_c := F_o46_c.ext E
  have F_o46_s := F_o46_s.ext E
  have F_o46_g := F_o46_g.ext E
  have F_o46_v := F_o46_v.ext E
  have F_o46_n := F_o46_n.ext E
  have Kp := Kp.ext E
  have A_o47 := A_o47.ext E
  have A_o48 := A_o48.ext E
  have A_o49 := A_o49.ext E
  have A_o50 := A_o50.ext E
  have A_o51 : Arv Z _ o51 k_o51 .int i9 [(.int i0), (.int i0), (.int i0), (.int i0), (.int i0), (.int i0), (.int i0), (.int i0), (.int i0)] (.int i0) := A_o51.pad (pad_rep [] _ 9)
  refine s_putfield 47 C X (host := "") d2_44 (Or.inl (mW 25 rfl)) Via.refl F_o46_s E_o46 (Or.inl (mW 26 rfl)) (mW 6 rfl) (ty := (.array .int)) (by decide) rfl rfl g_o46 (fun T hh X W => ?_)
  have E_o46 := E_o46.wr W
  have F_o46_q := oth F_o46_q W (Or.inl (hw _ (mW 17 rfl))) (Or.inl (hw _ (mW 26 rfl))) (by decide)
  have F_o46_u := oth F_o46_u W (Or.inl (hw _ (mW 19 rfl))) (Or.inl (hw _ (mW 26 rfl))) (by decide)
  have F_o46_l := oth F_o46_l W (Or.inl (hw _ (mW 21 rfl))) (Or.inl (hw _ (mW 26 rfl))) (by decide)
  have F_o46_c := oth F_o46_c W (Or.inl (hw _ (mW 24 rfl))) (Or.inl (hw _ (mW 26 rfl))) (by decide)
  have F_o46_s := F_o46_s.same W
  have F_o46_g := oth F_o46_g W (Or.inl (hw _ (mW 28 rfl))) (Or.inl (hw _ (mW 26 rfl))) (by decide)
  have F_o46_v := oth F_o46_v W (Or.inl (hw _ (mW 30 rfl))) (Or.inl (hw _ (mW 26 rfl))) (by decide)
  have F_o46_n := oth F_o46_n W (Or.inl (hw _ (mW 45 rfl))) (Or.inl (hw _ (mW 26 rfl))) (by decide)
  have Kp := Kp.wr W (Or.inl (by simp))
  have A_o47 := A_o47.other W (Ne.symm ne_o46_o47)
  have A_o48 := A_o48.other W (Ne.symm ne_o46_o48)
  have A_o49 := A_o49.other W (Ne.symm ne_o46_o49)
  have A_o50 := A_o50.other W (Ne.symm ne_o46_o50)
  have A_o51 := A_o51.other W (Ne.symm ne_o46_o51)
  refine s_aloadN 48 C X d2_47 rfl rfl ?_
  refine s_bipush 50 C X d2_48 kc_bipush_8 ?_
  refine s_anewarray 53 8 cG C X d2_50 (mW 14 rfl) (mW 15 rfl) (by decide) (by decide) rfl (fun T hh o52 k_o52 hb_o52 X E A_o52 E_o52 O_o52 g_o52 => ?_)
  have ne_o46_o52 : o46 ≠ o52 := Nat.ne_of_lt (Nat.lt_of_lt_of_le E_o46.lt (Nat.le_of_eq hb_o52))
  have sz_o52 : h0.size ≤ o52 := Nat.le_trans Kp.1 (Nat.le_of_eq hb_o52)
  have ne_o47_o52 : o47 ≠ o52 := Nat.ne_of_lt (Nat.lt_of_lt_of_le A_o47.lt (Nat.le_of_eq hb_o52))
  have ne_o48_o52 : o48 ≠ o52 := Nat.ne_of_lt (Nat.lt_of_lt_of_le A_o48.lt (Nat.le_of_eq hb_o52))
  have ne_o49_o52 : o49 ≠ o52 := Nat.ne_of_lt (Nat.lt_of_lt_of_le A_o49.lt (Nat.le_of_eq hb_o52))
  have ne_o50_o52 : o50 ≠ o52 := Nat.ne_of_lt (Nat.lt_of_lt_of_le A_o50.lt (Nat.le_of_eq hb_o52))
  have ne_o51_o52 : o51 ≠ o52 := Nat.ne_of_lt (Nat.lt_of_lt_of_le A_o51.lt (Nat.le_of_eq hb_o52))
  have E_o46 := E_o46.ext E
  have F_o46_q := F_o46_q.ext E
  have F_o46_u := F_o46_u.ext E
  have F_o46_l := F_o46_l.ext E
  have F_o46_c := F_o46_c.ext E
  have F_o46_s := F_o46_s.ext E
  have F_o46_g := F_o46_g.ext E
  have F_o46_v := F_o46_v.ext E
  have F_o46_n := F_o46_n.ext E
  have Kp := Kp.ext E
  have A_o47 := A_o47.ext E
  have A_o48 := A_o48.ext E
  have A_o49 := A_o49.ext E
  have A_o50 := A_o50.ext E
  have A_o51 := A_o51.ext E
  have A_o52 : Arv Z _ o52 k_o52 (.object cS) i8 [.null, .null, .null, .null, .null, .null, .null, .null] .null := A_o52.pad (pad_rep [] _ 8)
  refine s_putfield 56 C X (host := "") d2_53 (Or.inl (mW 27 rfl)) Via.refl F_o46_g E_o46 (Or.inl (mW 28 rfl)) (mW 6 rfl) (ty := (.array (.object cS))) (by decide) rfl rfl g_o46 (fun T hh X W => ?_)
  have E_o46 := E_o46.wr W
  have F_o46_q := oth F_o46_q W (Or.inl (hw _ (mW 17 rfl))) (Or.inl (hw _ (mW 28 rfl))) (by decide)
  have F_o46_u := oth F_o46_u W (Or.inl (hw _ (mW 19 rfl))) (Or.inl (hw _ (mW 28 rfl))) (by decide)
  have F_o46_l := oth F_o46_l W (Or.inl (hw _ (mW 21 rfl))) (Or.inl (hw _ (mW 28 rfl))) (by decide)
  have F_o46_c := oth F_o46_c W (Or.inl (hw _ (mW 24 rfl))) (Or.inl (hw _ (mW 28 rfl))) (by decide)
  have F_o46_s := oth F_o46_s W (Or.inl (hw _ (mW 26 rfl))) (Or.inl (hw _ (mW 28 rfl))) (by decide)
  have F_o46_g := F_o46_g.same W
  have F_o46_v := oth F_o46_v W (Or.inl (hw _ (mW 30 rfl))) (Or.inl (hw _ (mW 28 rfl))) (by decide)
  have F_o46_n := oth F_o46_n W (Or.inl (hw _ (mW 45 rfl))) (Or.inl (hw _ (mW 28 rfl))) (by decide)
  have Kp := Kp.wr W (Or.inl (by simp))
  have A_o47 := A_o47.other W (Ne.symm ne_o46_o47)
  have A_o48 := A_o48.other W (Ne.symm ne_o46_o48)
  have A_o49 := A_o49.other W (Ne.symm ne_o46_o49)
  have A_o50 := A_o50.other W (Ne.symm ne_o46_o50)
  have A_o51 := A_o51.other W (Ne.symm ne_o46_o51)
  have A_o52 := A_o52.other W (Ne.symm ne_o46_o52)
  refine s_aloadN 57 C X d2_56 rfl rfl ?_
  refine s_sipush 60 C X d2_57 kc_sipush_256 ?_
  refine s_newarray 62 256 C X d2_60 (mW 4 rfl) (by decide) (by decide) (fun T hh o53 k_o53 hb_o53 X E A_o53 g_o53 => ?_)
  have ne_o46_o53 : o46 ≠ o53 := Nat.ne_of_lt (Nat.lt_of_lt_of_le E_o46.lt (Nat.le_of_eq hb_o53))
  have sz_o53 : h0.size ≤ o53 := Nat.le_trans Kp.1 (Nat.le_of_eq hb_o53)
  have ne_o47_o53 : o47 ≠ o53 := Nat.ne_of_lt (Nat.lt_of_lt_of_le A_o47.lt (Nat.le_of_eq hb_o53))
  have ne_o48_o53 : o48 ≠ o53 := Nat.ne_of_lt (Nat.lt_of_lt_of_le A_o48.lt (Nat.le_of_eq hb_o53))
  have ne_o49_o53 : o49 ≠ o53 := Nat.ne_of_lt (Nat.lt_of_lt_of_le A_o49.lt (Nat.le_of_eq hb_o53))
  have ne_o50_o53 : o50 ≠ o53 := Nat.ne_of_lt (Nat.lt_of_lt_of_le A_o50.lt (Nat.le_of_eq hb_o53))
  have ne_o51_o53 : o51 ≠ o53 := Nat.ne_of_lt (Nat.lt_of_lt_of_le A_o51.lt (Nat.le_of_eq hb_o53))
  have ne_o52_o53 : o52 ≠ o53 := Nat.ne_of_lt (Nat.lt_of_lt_of_le A_o52.lt (Nat.le_of_eq hb_o53))
  have E_o46 := E_o46.ext E
  have F_o46_q := F_o46_q.ext E
  have F_o46_u := F_o46_u.ext E
  have F_o46_l := F_o46_l.ext E
  have F_o46_c := F_o46_c.ext E
  have F_o46_s := F_o46_s.ext E
  have F_o46_g := F_o46_g.ext E
  have F_o46_v := F_o46_v.ext E
  have F_o46_n := F_o46_n.ext E
  have Kp := Kp.ext E
  have A_o47 := A_o47.ext E
  have A_o48 := A_o48.ext E
  have A_o49 := A_o49.ext E
  have A_o50 := A_o50.ext E
  have A_o51 := A_o51.ext E
  have A_o52 := A_o52.ext E
  have A_o53 : Arv Z _ o53 k_o53 .char i256 [(.int i0), (.int i0), (.int i0), (.int i0), (.int i0), (.int i0), (.int i0), (.int i0)] (.int i0) := A_o53.pad (pad_rep [] _ 8)
  refine s_putfield 65 C X (host := "") d2_62 (Or.inl (mW 29 rfl)) Via.refl F_o46_v E_o46 (Or.inl (mW 30 rfl)) (mW 6 rfl) (ty := (.array .char)) (by decide) rfl rfl g_o46 (fun T hh X W => ?_)
  have E_o46 := E_o46.wr W
  have F_o46_q := oth F_o46_q W (Or.inl (hw _ (mW 17 rfl))) (Or.inl (hw _ (mW 30 rfl))) (by decide)
  have F_o46_u := oth F_o46_u W (Or.inl (hw _ (mW 19 rfl))) (Or.inl (hw _ (mW 30 rfl))) (by decide)
  have F_o46_l := oth F_o46_l W (Or.inl (hw _ (mW 21 rfl))) (Or.inl (hw _ (mW 30 rfl))) (by decide)
  have F_o46_c := oth F_o46_c W (Or.inl (hw _ (mW 24 rfl))) (Or.inl (hw _ (mW 30 rfl))) (by decide)
  have F_o46_s := oth F_o46_s W (Or.inl (hw _ (mW 26 rfl))) (Or.inl (hw _ (mW 30 rfl))) (by decide)
  have F_o46_g := oth F_o46_g W (Or.inl (hw _ (mW 28 rfl))) (Or.inl (hw _ (mW 30 rfl))) (by decide)
  have F_o46_v := F_o46_v.same W
  have F_o46_n := oth F_o46_n W (Or.inl (hw _ (mW 45 rfl))) (Or.inl (hw _ (mW 30 rfl))) (by decide)
  have Kp := Kp.wr W (Or.inl (by simp))
  have A_o47 := A_o47.other W (Ne.symm ne_o46_o47)
  have A_o48 := A_o48.other W (Ne.symm ne_o46_o48)
  have A_o49 := A_o49.other W (Ne.symm ne_o46_o49)
  have A_o50 := A_o50.other W (Ne.symm ne_o46_o50)
  have A_o51 := A_o51.other W (Ne.symm ne_o46_o51)
  have A_o52 := A_o52.other W (Ne.symm ne_o46_o52)
  have A_o53 := A_o53.other W (Ne.symm ne_o46_o53)
  refine s_return C X d2_65 rfl ?_ (FG hG (by decide) (by decide))
  exact hQ _ _ ⟨k_o47, k_o48, k_o49, k_o50, k_o51, k_o52, k_o53, o47, o48, o49, o50, o51, o52, o53, rfl, E_o46, F_o46_q, F_o46_u, F_o46_l, F_o46_c, F_o46_s, F_o46_g, F_o46_v, F_o46_n, Kp, A_o47, A_o48, A_o49, A_o50, A_o51, A_o52, A_o53, ne_o46_o47, sz_o47, g_o47, ne_o46_o48, sz_o48, ne_o47_o48, g_o48, ne_o46_o49, sz_o49, ne_o47_o49, ne_o48_o49, g_o49, ne_o46_o50, sz_o50, ne_o47_o50, ne_o48_o50, ne_o49_o50, g_o50, ne_o46_o51, sz_o51, ne_o47_o51, ne_o48_o51, ne_o49_o51, ne_o50_o51, g_o51, ne_o46_o52, sz_o52, ne_o47_o52, ne_o48_o52, ne_o49_o52, ne_o50_o52, ne_o51_o52, g_o52, ne_o46_o53, sz_o53, ne_o47_o53, ne_o48_o53, ne_o49_o53, ne_o50_o53, ne_o51_o53, ne_o52_o53, g_o53, O_o47, O_o48, O_o49, O_o52⟩
theorem rm_a3 (hw : Hw a0 Z) (o46 : Addr) (k_o47 : ClassId) (k_o48 : ClassId) (k_o49 : ClassId) (k_o50 : ClassId) (k_o51 : ClassId) (o47 : Addr) (o48 : Addr) (o49 : Addr) (o50 : Addr) (o51 : Addr) (o52 : Addr) (o53 : Addr) (t61 : Addr) (h0 : Heap) (n0 : Nat) (Z0 : n0 ≤ h0.size) (E_o46 : Exa Z h0 o46 cE) (F_o46_q : Fld Z h0 o46 cE fq cG (.ref o47)) (F_o46_u : Fld Z h0 o46 cE fu cG (.ref o48)) (F_o46_l : Fld Z h0 o46 cE fl cG (.ref o49)) (F_o46_c : Fld Z h0 o46 cE fc "[I" (.ref o50)) (F_o46_s : Fld Z h0 o46 cE fs "[I" (.ref o51)) (F_o46_g : Fld Z h0 o46 cE fg cG (.ref o52)) (F_o46_v : Fld Z h0 o46 cE fv "[C" (.ref o53)) (F_o46_n : Fld Z h0 o46 cE "length" "I" (.int i0)) (A_o47 : Arv Z h0 o47 k_o47 (.object cS) i8 [.null, .null, .null, .null, .null, .null, .null, .null] .null) (A_o48 : Arv Z h0 o48 k_o48 (.object cS) i8 [.null, .null, .null, .null, .null, .null, .null, .null] .null) (A_o49 : Arv Z h0 o49 k_o49 (.object cS) i8 [.null, .null, .null, .null, .null, .null, .null, .null] .null) (A_o50 : Arv Z h0 o50 k_o50 .int i8 [(.int i0), (.int i0), (.int i0), (.int i0), (.int i0), (.int i0), (.int i0), (.int i0)] (.int i0)) (A_o51 : Arv Z h0 o51 k_o51 .int i9 [(.int i0), (.int i0), (.int i0), (.int i0), (.int i0), (.int i0), (.int i0), (.int i0), (.int i0)] (.int i0)) (E_t61 : Exa Z h0 t61 cS) (g_o46 : n0 ≤ o46) (g_o47 : n0 ≤ o47) (g_o48 : n0 ≤ o48) (g_o49 : n0 ≤ o49) (g_o50 : n0 ≤ o50) (g_o51 : n0 ≤ o51) (ne_o46_o47 : o46 ≠ o47) (ne_o46_o48 : o46 ≠ o48) (ne_o47_o48 : o47 ≠ o48) (ne_o46_o49 : o46 ≠ o49) (ne_o47_o49 : o47 ≠ o49) (ne_o48_o49 : o48 ≠ o49) (ne_o46_o50 : o46 ≠ o50) (ne_o47_o50 : o47 ≠ o50) (ne_o48_o50 : o48 ≠ o50) (ne_o49_o50 : o49 ≠ o50) (ne_o46_o51 : o46 ≠ o51) (ne_o47_o51 : o47 ≠ o51) (ne_o48_o51 : o48 ≠ o51) (ne_o49_o51 : o49 ≠ o51) (ne_o50_o51 : o50 ≠ o51) (O_o47 : Ovr Z k_o47 cS) (O_o48 : Ovr Z k_o48 cS) (O_o49 : Ovr Z k_o49 cS) :
    MetH l Z EL1 [] (⟨cE, "add", "(Ljava/lang/String;I)V"⟩ : MethodName) prog_35_method_9_code 4 none (rM 0 2 4 0) [] #[(.ref o46), (.ref t61), (.int im1)] h0 n0 (fun v h => ∃ (b65 : Addr) (k_b65 : ClassId) (t64 : Addr), v = none ∧ Exa Z h o46 cE ∧ Fld Z h o46 cE fq cG (.ref o47) ∧ Fld Z h o46 cE fu cG (.ref o48) ∧ Fld Z h o46 cE fl cG (.ref o49) ∧ Fld Z h o46 cE fc "[I" (.ref o50) ∧ Fld Z h o46 cE fs "[I" (.ref o51) ∧ Fld Z h o46 cE fg cG (.ref o52) ∧ Fld Z h o46 cE fv "[C" (.ref o53) ∧ Fld Z h o46 cE "length" "I" (.int i1) ∧ Arv Z h o47 k_o47 (.object cS) i8 [(.ref t61), .null, .null, .null, .null, .null, .null, .null] .null ∧ Arv Z h o48 k_o48 (.object cS) i8 [(.ref t64), .null, .null, .null, .null, .null, .null, .null] .null ∧ Arv Z h o49 k_o49 (.object cS) i8 [(.ref t61), .null, .null, .null, .null, .null, .null, .null] .null ∧ Arv Z h o50 k_o50 .int i8 [(.int im1), (.int i0), (.int i0), (.int i0), (.int i0), (.int i0), (.int i0), (.int i0)] (.int i0) ∧ Arv Z h o51 k_o51 .int i9 [(.int i0), (.int i0), (.int i0), (.int i0), (.int i0), (.int i0), (.int i0), (.int i0), (.int i0)] (.int i0) ∧ Keep h0 h [o46, o47, o48, o49, o50, o51] ∧ Exa Z h t64 cS ∧ Fld Z h t64 cS "coder" "B" (.int i0) ∧ Fld Z h t64 cS "value" "[B" (.ref b65) ∧ Arv Z h b65 k_b65 .byte i0 [] (.int i0) ∧ o46 ≠ t64 ∧ o46 ≠ b65 ∧ o47 ≠ t64 ∧ o47 ≠ b65 ∧ o48 ≠ t64 ∧ o48 ≠ b65 ∧ o49 ≠ t64 ∧ o49 ≠ b65 ∧ o50 ≠ t64 ∧ o50 ≠ b65 ∧ o51 ≠ t64 ∧ o51 ≠ b65) := by
  refine MetH.mkQ (tabs := tables_1) (a0 := a0) (ls0 := #[rv o46, rv t61, iv im1, un]) (plainFor_of_name pn_com_example_medis_medis_engine_ElementAttributes) hw Z0 (fun m => by first | (simp [entryFrame, mkF, argsToLocals, Value.category]; done) | rfl) ?_
  intro p e s m below meth c T Q' G' vm k1 hQ hG C X hS Rc hso
  have Kp : Keep h0 h0 [o46, o47, o48, o49, o50, o51] := Keep.refl _ _
  refine s_aloadN 1 C X d4_0 rfl rfl ?_
  refine s_getfield 4 C X (host := "") d4_1 (Or.inl (mW 44 rfl)) Via.refl F_o46_n (fun T X => ?_)
  refine s_aloadN 5 C X d4_4 rfl rfl ?_
  refine s_getfield 8 C X (host := "") d4_5 (Or.inl (mW 16 rfl)) Via.refl F_o46_q (fun T X => ?_)
  refine s_arraylength 9 C X d4_8 A_o47 ?_
  refine s_icmp_ne 105 12 C X d4_9 (fun _ => ?_) (fun c => absurd c (by decide))
  refine s_aloadN 106 C X d4_105 rfl rfl ?_
  refine s_getfield 109 C X (host := "") d4_106 (Or.inl (mW 16 rfl)) Via.refl F_o46_q (fun T X => ?_)
  refine s_aloadN 110 C X d4_109 rfl rfl ?_
  refine s_getfield 113 C X (host := "") d4_110 (Or.inl (mW 44 rfl)) Via.refl F_o46_n (fun T X => ?_)
  refine s_aloadN 114 C X d4_113 rfl rfl ?_
  have Sf : Safe Z EL1 vm _ o47 := (Safe.arv C.2.1.alike A_o47 (by decide))
  refine s_aastore 115 0 C X d4_114 A_o47 rfl rfl (fun _ A q => Sto.ofV A q O_o47 (Ins.self E_t61)) g_o47 ⟨by decide, by decide⟩ rfl (Nat.le_of_ble_eq_true rfl) (fun T hh X W A_o47 => ?_)
  have A_o47 : Arv Z _ o47 k_o47 (.object cS) i8 [(.ref t61), .null, .null, .null, .null, .null, .null, .null] .null := A_o47
  have Rc := Rc.wr W Sf
  have E_o46 := E_o46.wr W
  have F_o46_q := F_o46_q.other W (Or.inl ne_o46_o47)
  have F_o46_u := F_o46_u.other W (Or.inl ne_o46_o47)
  have F_o46_l := F_o46_l.other W (Or.inl ne_o46_o47)
  have F_o46_c := F_o46_c.other W (Or.inl ne_o46_o47)
  have F_o46_s := F_o46_s.other W (Or.inl ne_o46_o47)
  have F_o46_g := F_o46_g.other W (Or.inl ne_o46_o47)
  have F_o46_v := F_o46_v.other W (Or.inl ne_o46_o47)
  have F_o46_n := F_o46_n.other W (Or.inl ne_o46_o47)
  have A_o48 := A_o48.other W (Ne.symm ne_o47_o48)
  have A_o49 := A_o49.other W (Ne.symm ne_o47_o49)
  have A_o50 := A_o50.other W (Ne.symm ne_o47_o50)
  have A_o51 := A_o51.other W (Ne.symm ne_o47_o51)
  have E_t61 := E_t61.wr W
  have Kp := Kp.wr W (Or.inl (by simp))
  refine s_aloadN 116 C X d4_115 rfl rfl ?_
  refine s_getfield 119 C X (host := "") d4_116 (Or.inl (mW 23 rfl)) Via.refl F_o46_c (fun T X => ?_)
  refine s_aloadN 120 C X d4_119 rfl rfl ?_
  refine s_getfield 123 C X (host := "") d4_120 (Or.inl (mW 44 rfl)) Via.refl F_o46_n (fun T X => ?_)
  refine s_iloadN 124 C X d4_123 rfl ?_
  have Sf : Safe Z EL1 vm _ o50 := (Safe.arv C.2.1.alike A_o50 (by decide))
  refine s_iastore 125 0 C X d4_124 A_o50 g_o50 ⟨by decide, by decide⟩ rfl (Nat.le_of_ble_eq_true rfl) (fun T hh X W A_o50 => ?_)
  have A_o50 : Arv Z _ o50 k_o50 .int i8 [(.int im1), (.int i0), (.int i0), (.int i0), (.int i0), (.int i0), (.int i0), (.int i0)] (.int i0) := A_o50
  have Rc := Rc.wr W Sf
  have E_o46 := E_o46.wr W
  have F_o46_q := F_o46_q.other W (Or.inl ne_o46_o50)
  have F_o46_u := F_o46_u.other W (Or.inl ne_o46_o50)
  have F_o46_l := F_o46_l.other W (Or.inl ne_o46_o50)
  have F_o46_c := F_o46_c.other W (Or.inl ne_o46_o50)
  have F_o46_s := F_o46_s.other W (Or.inl ne_o46_o50)
  have F_o46_g := F_o46_g.other W (Or.inl ne_o46_o50)
  have F_o46_v := F_o46_v.other W (Or.inl ne_o46_o50)
  have F_o46_n := F_o46_n.other W (Or.inl ne_o46_o50)
  have A_o47 := A_o47.other W ne_o47_o50
  have A_o48 := A_o48.other W ne_o48_o50
  have A_o49 := A_o49.other W ne_o49_o50
  have A_o51 := A_o51.other W (Ne.symm ne_o50_o51)
  have E_t61 := E_t61.wr W
  have Kp := Kp.wr W (Or.inl (by simp))
  refine s_aloadN 126 C X d4_125 rfl rfl ?_
  refine s_getfield 129 C X (host := "") d4_126 (Or.inl (mW 18 rfl)) Via.refl F_o46_u (fun T X => ?_)
  refine s_aloadN 130 C X d4_129 rfl rfl ?_
  refine s_getfield 133 C X (host := "") d4_130 (Or.inl (mW 44 rfl)) Via.refl F_o46_n (fun T X => ?_)
  refine s_ldcH 135 0 C X hS Rc.2 (own_EL hw) Rc.1.1 d4_133 (mW 47 rfl) (own_wS hw) (vs := []) (z := i0) (by decide) ⟨by decide, rfl⟩ (by decide) rfl (fun T hh t64 b65 k_b65 vm k1 C X E hS Nk Rn E_t64 F_t64_k F_t64_a A_b65 nS => ?_)
  have Rc := Rc.call Rn Nk
  have E_o46 := E_o46.ext E
  have F_o46_q := F_o46_q.ext E
  have F_o46_u := F_o46_u.ext E
  have F_o46_l := F_o46_l.ext E
  have F_o46_c := F_o46_c.ext E
  have F_o46_s := F_o46_s.ext E
  have F_o46_g := F_o46_g.ext E
  have F_o46_v := F_o46_v.ext E
  have F_o46_n := F_o46_n.ext E
  have A_o47 := A_o47.ext E
  have A_o48 := A_o48.ext E
  have A_o49 := A_o49.ext E
  have A_o50 := A_o50.ext E
  have A_o51 := A_o51.ext E
  have E_t61 := E_t61.ext E
  have Kp := Kp.ext E
  have ne_o46_t64 : o46 ≠ t64 := (nS o46 (Safe.exa C.2.1.alike E_o46 (by decide) (by decide))).1
  have ne_o46_b65 : o46 ≠ b65 := (nS o46 (Safe.exa C.2.1.alike E_o46 (by decide) (by decide))).2
  have ne_o47_t64 : o47 ≠ t64 := (nS o47 (Safe.arv C.2.1.alike A_o47 (by decide))).1
  have ne_o47_b65 : o47 ≠ b65 := (nS o47 (Safe.arv C.2.1.alike A_o47 (by decide))).2
  have ne_o48_t64 : o48 ≠ t64 := (nS o48 (Safe.arv C.2.1.alike A_o48 (by decide))).1
  have ne_o48_b65 : o48 ≠ b65 := (nS o48 (Safe.arv C.2.1.alike A_o48 (by decide))).2
  have ne_o49_t64 : o49 ≠ t64 := (nS o49 (Safe.arv C.2.1.alike A_o49 (by decide))).1
  have ne_o49_b65 : o49 ≠ b65 := (nS o49 (Safe.arv C.2.1.alike A_o49 (by decide))).2
  have ne_o50_t64 : o50 ≠ t64 := (nS o50 (Safe.arv C.2.1.alike A_o50 (by decide))).1
  have ne_o50_b65 : o50 ≠ b65 := (nS o50 (Safe.arv C.2.1.alike A_o50 (by decide))).2
  have ne_o51_t64 : o51 ≠ t64 := (nS o51 (Safe.arv C.2.1.alike A_o51 (by decide))).1
  have ne_o51_b65 : o51 ≠ b65 := (nS o51 (Safe.arv C.2.1.alike A_o51 (by decide))).2
  have Sf : Safe Z EL1 vm _ o48 := (Safe.arv C.2.1.alike A_o48 (by decide))
  refine s_aastore 136 0 C X d4_135 A_o48 rfl rfl (fun _ A q => Sto.ofV A q O_o48 (Ins.self E_t64)) g_o48 ⟨by decide, by decide⟩ rfl (Nat.le_of_ble_eq_true rfl) (fun T hh X W A_o48 => ?_)
  have A_o48 : Arv Z _ o48 k_o48 (.object cS) i8 [(.ref t64), .null, .null, .null, .null, .null, .null, .null] .null := A_o48
  have Rc := Rc.wr W Sf
  have E_o46 := E_o46.wr W
  have F_o46_q := F_o46_q.other W (Or.inl ne_o46_o48)
  have F_o46_u := F_o46_u.other W (Or.inl ne_o46_o48)
  have F_o46_l := F_o46_l.other W (Or.inl ne_o46_o48)
  have F_o46_c := F_o46_c.other W (Or.inl ne_o46_o48)
  have F_o46_s := F_o46_s.other W (Or.inl ne_o46_o48)
  have F_o46_g := F_o46_g.other W (Or.inl ne_o46_o48)
  have F_o46_v := F_o46_v.other W (Or.inl ne_o46_o48)
  have F_o46_n := F_o46_n.other W (Or.inl ne_o46_o48)
  have A_o47 := A_o47.other W ne_o47_o48
  have A_o49 := A_o49.other W (Ne.symm ne_o48_o49)
  have A_o50 := A_o50.other W (Ne.symm ne_o48_o50)
  have A_o51 := A_o51.other W (Ne.symm ne_o48_o51)
  have E_t61 := E_t61.wr W
  have Kp := Kp.wr W (Or.inl (by simp))
  have E_t64 := E_t64.wr W
  have F_t64_k := F_t64_k.other W (Or.inl (Ne.symm ne_o48_t64))
  have F_t64_a := F_t64_a.other W (Or.inl (Ne.symm ne_o48_t64))
  have A_b65 := A_b65.other W (Ne.symm ne_o48_b65)
  refine s_aloadN 137 C X d4_136 rfl rfl ?_
  refine s_getfield 140 C X (host := "") d4_137 (Or.inl (mW 20 rfl)) Via.refl F_o46_l (fun T X => ?_)
  refine s_aloadN 141 C X d4_140 rfl rfl ?_
  refine s_getfield 144 C X (host := "") d4_141 (Or.inl (mW 44 rfl)) Via.refl F_o46_n (fun T X => ?_)
  refine s_aloadN 145 C X d4_144 rfl rfl ?_
  have Sf : Safe Z EL1 vm _ o49 := (Safe.arv C.2.1.alike A_o49 (by decide))
  refine s_aastore 146 0 C X d4_145 A_o49 rfl rfl (fun _ A q => Sto.ofV A q O_o49 (Ins.self E_t61)) g_o49 ⟨by decide, by decide⟩ rfl (Nat.le_of_ble_eq_true rfl) (fun T hh X W A_o49 => ?_)
  have A_o49 : Arv Z _ o49 k_o49 (.object cS) i8 [(.ref t61), .null, .null, .null, .null, .null, .null, .null] .null := A_o49
  have Rc := Rc.wr W Sf
  have E_o46 := E_o46.wr W
  have F_o46_q := F_o46_q.other W (Or.inl ne_o46_o49)
  have F_o46_u := F_o46_u.other W (Or.inl ne_o46_o49)
  have F_o46_l := F_o46_l.other W (Or.inl ne_o46_o49)
  have F_o46_c := F_o46_c.other W (Or.inl ne_o46_o49)
  have F_o46_s := F_o46_s.other W (Or.inl ne_o46_o49)
  have F_o46_g := F_o46_g.other W (Or.inl ne_o46_o49)
  have F_o46_v := F_o46_v.other W (Or.inl ne_o46_o49)
  have F_o46_n := F_o46_n.other W (Or.inl ne_o46_o49)
  have A_o47 := A_o47.other W ne_o47_o49
  have A_o48 := A_o48.other W ne_o48_o49
  have A_o50 := A_o50.other W (Ne.symm ne_o49_o50)
  have A_o51 := A_o51.other W (Ne.symm ne_o49_o51)
  have Kp := Kp.wr W (Or.inl (by simp))
  have E_t64 := E_t64.wr W
  have F_t64_k := F_t64_k.other W (Or.inl (Ne.symm ne_o49_t64))
  have F_t64_a := F_t64_a.other W (Or.inl (Ne.symm ne_o49_t64))
  have A_b65 := A_b65.other W (Ne.symm ne_o49_b65)
  refine s_aloadN 147 C X d4_146 rfl rfl ?_
  refine s_getfield 150 C X (host := "") d4_147 (Or.inl (mW 25 rfl)) Via.refl F_o46_s (fun T X => ?_)
  refine s_aloadN 151 C X d4_150 rfl rfl ?_
  refine s_getfield 154 C X (host := "") d4_151 (Or.inl (mW 44 rfl)) Via.refl F_o46_n (fun T X => ?_)
  refine s_iconst 155 C X d4_154 kc_iconst_1 ?_
  refine s_iadd 156 C X d4_155 ?_
  refine rc (st' := [(.int i1), (.ref o51)]) (by rw [kf_0]) ?_
  refine s_aloadN 157 C X d4_156 rfl rfl ?_
  refine s_getfield 160 C X (host := "") d4_157 (Or.inl (mW 25 rfl)) Via.refl F_o46_s (fun T X => ?_)
  refine s_aloadN 161 C X d4_160 rfl rfl ?_
  refine s_getfield 164 C X (host := "") d4_161 (Or.inl (mW 44 rfl)) Via.refl F_o46_n (fun T X => ?_)
  refine s_iaload 165 C X d4_164 A_o51 ⟨by decide, by decide⟩ (v := (.int i0)) rfl ?_
  have Sf : Safe Z EL1 vm _ o51 := (Safe.arv C.2.1.alike A_o51 (by decide))
  refine s_iastore 166 1 C X d4_165 A_o51 g_o51 ⟨by decide, by decide⟩ rfl (Nat.le_of_ble_eq_true rfl) (fun T hh X W A_o51 => ?_)
  have A_o51 : Arv Z _ o51 k_o51 .int i9 [(.int i0), (.int i0), (.int i0), (.int i0), (.int i0), (.int i0), (.int i0), (.int i0), (.int i0)] (.int i0) := A_o51
  have Rc := Rc.wr W Sf
  have E_o46 := E_o46.wr W
  have F_o46_q := F_o46_q.other W (Or.inl ne_o46_o51)
  have F_o46_u := F_o46_u.other W (Or.inl ne_o46_o51)
  have F_o46_l := F_o46_l.other W (Or.inl ne_o46_o51)
  have F_o46_c := F_o46_c.other W (Or.inl ne_o46_o51)
  have F_o46_s := F_o46_s.other W (Or.inl ne_o46_o51)
  have F_o46_g := F_o46_g.other W (Or.inl ne_o46_o51)
  have F_o46_v := F_o46_v.other W (Or.inl ne_o46_o51)
  have F_o46_n := F_o46_n.other W (Or.inl ne_o46_o51)
  have A_o47 := A_o47.other W ne_o47_o51
  have A_o48 := A_o48.other W ne_o48_o51
  have A_o49 := A_o49.other W ne_o49_o51
  have A_o50 := A_o50.other W ne_o50_o51
  have Kp := Kp.wr W (Or.inl (by simp))
  have E_t64 := E_t64.wr W
  have F_t64_k := F_t64_k.other W (Or.inl (Ne.symm ne_o51_t64))
  have F_t64_a := F_t64_a.other W (Or.inl (Ne.symm ne_o51_t64))
  have A_b65 := A_b65.other W (Ne.symm ne_o51_b65)
  refine s_aloadN 167 C X d4_166 rfl rfl ?_
  refine s_dup 168 C X d4_167 rfl ?_
  refine s_getfield 171 C X (host := "") d4_168 (Or.inl (mW 44 rfl)) Via.refl F_o46_n (fun T X => ?_)
  refine s_iconst 172 C X d4_171 kc_iconst_1 ?_
  refine s_iadd 173 C X d4_172 ?_
  refine rc (st' := [(.int i1), (.ref o46)]) (by rw [kf_0]) ?_
  refine s_putfield 176 C X (host := "") d4_173 (Or.inl (mW 44 rfl)) Via.refl F_o46_n E_o46 (Or.inl (mW 45 rfl)) (mW 6 rfl) (ty := .int) (by decide) rfl rfl g_o46 (fun T hh X W => ?_)
  have Sf : Safe Z EL1 vm _ o46 := (Safe.exa C.2.1.alike E_o46 (by decide) (by decide))
  have Rc := Rc.wr W Sf
  have E_o46 := E_o46.wr W
  have F_o46_q := oth F_o46_q W (Or.inl (hw _ (mW 17 rfl))) (Or.inl (hw _ (mW 45 rfl))) (by decide)
  have F_o46_u := oth F_o46_u W (Or.inl (hw _ (mW 19 rfl))) (Or.inl (hw _ (mW 45 rfl))) (by decide)
  have F_o46_l := oth F_o46_l W (Or.inl (hw _ (mW 21 rfl))) (Or.inl (hw _ (mW 45 rfl))) (by decide)
  have F_o46_c := oth F_o46_c W (Or.inl (hw _ (mW 24 rfl))) (Or.inl (hw _ (mW 45 rfl))) (by decide)
  have F_o46_s := oth F_o46_s W (Or.inl (hw _ (mW 26 rfl))) (Or.inl (hw _ (mW 45 rfl))) (by decide)
  have F_o46_g := oth F_o46_g W (Or.inl (hw _ (mW 28 rfl))) (Or.inl (hw _ (mW 45 rfl))) (by decide)
  have F_o46_v := oth F_o46_v W (Or.inl (hw _ (mW 30 rfl))) (Or.inl (hw _ (mW 45 rfl))) (by decide)
  have F_o46_n := F_o46_n.same W
  have A_o47 := A_o47.other W (Ne.symm ne_o46_o47)
  have A_o48 := A_o48.other W (Ne.symm ne_o46_o48)
  have A_o49 := A_o49.other W (Ne.symm ne_o46_o49)
  have A_o50 := A_o50.other W (Ne.symm ne_o46_o50)
  have A_o51 := A_o51.other W (Ne.symm ne_o46_o51)
  have Kp := Kp.wr W (Or.inl (by simp))
  have E_t64 := E_t64.wr W
  have F_t64_k := F_t64_k.other W (Or.inl (Ne.symm ne_o46_t64))
  have F_t64_a := F_t64_a.other W (Or.inl (Ne.symm ne_o46_t64))
  have A_b65 := A_b65.other W (Ne.symm ne_o46_b65)
  refine s_return C X d4_176 rfl ?_ (FGH hG hS Rc C (own_EL hw))
  exact hQ _ _ ⟨b65, k_b65, t64, rfl, E_o46, F_o46_q, F_o46_u, F_o46_l, F_o46_c, F_o46_s, F_o46_g, F_o46_v, F_o46_n, A_o47, A_o48, A_o49, A_o50, A_o51, Kp, E_t64, F_t64_k, F_t64_a, A_b65, ne_o46_t64, ne_o46_b65, ne_o47_t64, ne_o47_b65, ne_o48_t64, ne_o48_b65, ne_o49_t64, ne_o49_b65, ne_o50_t64, ne_o50_b65, ne_o51_t64, ne_o51_b65⟩
theorem rm_a4 (hw : Hw a0 Z) (yF : Int32) (yF_5 : Int32) (yF_9 : Int32) (yF_13 : Int32) (yF_17 : Int32) (nv27 : Int32) (o29 : Addr) (o46 : Addr) (k_o29 : ClassId) (k_o51 : ClassId) (k_o53 : ClassId) (o51 : Addr) (o53 : Addr) (h0 : Heap) (n0 : Nat) (Z0 : n0 ≤ h0.size) (A_o29 : Arv Z h0 o29 k_o29 .char i5 [(.int yF), (.int yF_5), (.int yF_9), (.int yF_13), (.int yF_17)] (.int i0)) (A_o53 : Arv Z h0 o53 k_o53 .char i256 [(.int i0), (.int i0), (.int i0), (.int i0), (.int i0), (.int i0), (.int i0), (.int i0)] (.int i0)) (F_o46_s : Fld Z h0 o46 cE fs "[I" (.ref o51)) (F_o46_v : Fld Z h0 o46 cE fv "[C" (.ref o53)) (F_o46_n : Fld Z h0 o46 cE "length" "I" (.int i1)) (A_o51 : Arv Z h0 o51 k_o51 .int i9 [(.int i0), (.int i0), (.int i0), (.int i0), (.int i0), (.int i0), (.int i0), (.int i0), (.int i0)] (.int i0)) (hv_nv27 : own_N nv27) (ne_o29_o51 : o29 ≠ o51) (g_o51 : n0 ≤ o51) (ne_o29_o53 : o29 ≠ o53) (g_o53 : n0 ≤ o53) (ne_o46_o51 : o46 ≠ o51) (ne_o46_o53 : o46 ≠ o53) (ne_o51_o53 : o51 ≠ o53) :
    Met l Z (⟨cE, "append", "([CII)V"⟩ : MethodName) prog_35_method_12_code 5 none (rM 1 0 0 40) [] #[(.ref o46), (.ref o29), (.int i0), (.int nv27)] h0 n0 (fun v h => v = none ∧ Arv Z h o51 k_o51 .int i9 [(.int i0), (.int nv27), (.int i0), (.int i0), (.int i0), (.int i0), (.int i0), (.int i0), (.int i0)] (.int i0) ∧ Keep h0 h [o51, o53] ∧ Arv Z h o53 k_o53 .char i256 (Y (own_ap [] [yF, yF_5, yF_9, yF_13, yF_17] (nv27).toNatClampNeg)) (.int i0)) := by
  refine Met.mkQ (tabs := tables_1) (a0 := a0) (ls0 := #[rv o46, rv o29, iv i0, iv nv27, un]) (plainFor_of_name pn_com_example_medis_medis_engine_ElementAttributes) hw Z0 (fun m => by first | (simp [entryFrame, mkF, argsToLocals, Value.category]; done) | rfl) ?_
  intro p e s m below meth c T Q' G' hQ hG C X
  have Kp : Keep h0 h0 [o51, o53] := Keep.refl _ _
  refine s_aloadN 1 C X d5_0 rfl rfl ?_
  refine s_getfield 4 C X (host := "") d5_1 (Or.inl (mW 25 rfl)) Via.refl F_o46_s (fun T X => ?_)
  refine s_aloadN 5 C X d5_4 rfl rfl ?_
  refine s_getfield 8 C X (host := "") d5_5 (Or.inl (mW 44 rfl)) Via.refl F_o46_n (fun T X => ?_)
  refine s_iaload 9 C X d5_8 A_o51 ⟨by decide, by decide⟩ (v := (.int i0)) rfl ?_
  refine s_istore 11 C X (l' := #[rv o46, rv o29, iv i0, iv nv27, iv i0]) d5_9 rfl ?_
  refine s_iload 13 C X d5_11 rfl ?_
  refine s_iloadN 14 C X d5_13 rfl ?_
  refine s_iadd 15 C X d5_14 ?_
  refine rc (st' := [(.int nv27)]) (by rw [Int32.zero_add]) ?_
  refine s_aloadN 16 C X d5_15 rfl rfl ?_
  refine s_getfield 19 C X (host := "") d5_16 (Or.inl (mW 29 rfl)) Via.refl F_o46_v (fun T X => ?_)
  refine s_arraylength 20 C X d5_19 A_o53 ?_
  refine s_icmp_le 48 23 C X d5_20 (fun c20_67 => ?_) (fun c => absurd c (own_gt0 hv_nv27))
  refine s_aloadN 49 C X d5_48 rfl rfl ?_
  refine s_iloadN 50 C X d5_49 rfl ?_
  refine s_aloadN 51 C X d5_50 rfl rfl ?_
  refine s_getfield 54 C X (host := "") d5_51 (Or.inl (mW 29 rfl)) Via.refl F_o46_v (fun T X => ?_)
  refine s_iload 56 C X d5_54 rfl ?_
  refine s_iloadN 57 C X d5_56 rfl ?_
  refine s_arraycopy 60 0 (Y (own_ap [] [yF, yF_5, yF_9, yF_13, yF_17] (nv27).toNatClampNeg)) C X d5_57 (mW 53 rfl) (mW 56 rfl) (mW 54 rfl) (mW 55 rfl) A_o29 A_o53 rfl (by decide) (by decide) (own_nn hv_nv27).1 (own_c5 hv_nv27) (own_c256 hv_nv27) (own_c8 hv_nv27) g_o53 (own_cp0 hv_nv27) rfl rfl (fun T hh X Kc A_o53 => ?_)
  have F_o46_s := F_o46_s.keep Kc (ninS ne_o46_o53 nin0)
  have F_o46_n := F_o46_n.keep Kc (ninS ne_o46_o53 nin0)
  have A_o51 := A_o51.keep Kc (ninS ne_o51_o53 nin0)
  have Kp := Kp.trans Kc (allS (Or.inl (by simp)) all0)
  refine rc (st' := []) rfl ?_
  refine s_aloadN 61 C X d5_60 rfl rfl ?_
  refine s_getfield 64 C X (host := "") d5_61 (Or.inl (mW 25 rfl)) Via.refl F_o46_s (fun T X => ?_)
  refine s_aloadN 65 C X d5_64 rfl rfl ?_
  refine s_getfield 68 C X (host := "") d5_65 (Or.inl (mW 44 rfl)) Via.refl F_o46_n (fun T X => ?_)
  refine s_iload 70 C X d5_68 rfl ?_
  refine s_iloadN 71 C X d5_70 rfl ?_
  refine s_iadd 72 C X d5_71 ?_
  refine rc (st' := [(.int nv27), (.int i1), (.ref o51)]) (by rw [Int32.zero_add]) ?_
  refine s_iastore 73 1 C X d5_72 A_o51 g_o51 ⟨by decide, by decide⟩ rfl (Nat.le_of_ble_eq_true rfl) (fun T hh X W A_o51 => ?_)
  have A_o51 : Arv Z _ o51 k_o51 .int i9 [(.int i0), (.int nv27), (.int i0), (.int i0), (.int i0), (.int i0), (.int i0), (.int i0), (.int i0)] (.int i0) := A_o51
  have Kp := Kp.wr W (Or.inl (by simp))
  have A_o53 := A_o53.other W (Ne.symm ne_o51_o53)
  refine s_return C X d5_73 rfl ?_ (FG hG (by decide) (by decide))
  exact hQ _ _ ⟨rfl, A_o51, Kp, A_o53⟩
theorem rm_a5 (hw : Hw a0 Z) (yF : Int32) (yF_5 : Int32) (yF_9 : Int32) (yF_13 : Int32) (yF_17 : Int32) (nv27 : Int32) (o46 : Addr) (k_o51 : ClassId) (k_o53 : ClassId) (o51 : Addr) (o53 : Addr) (h0 : Heap) (n0 : Nat) (Z0 : n0 ≤ h0.size) (F_o46_s : Fld Z h0 o46 cE fs "[I" (.ref o51)) (F_o46_v : Fld Z h0 o46 cE fv "[C" (.ref o53)) (F_o46_n : Fld Z h0 o46 cE "length" "I" (.int i1)) (A_o51 : Arv Z h0 o51 k_o51 .int i9 [(.int i0), (.int nv27), (.int i0), (.int i0), (.int i0), (.int i0), (.int i0), (.int i0), (.int i0)] (.int i0)) (A_o53 : Arv Z h0 o53 k_o53 .char i256 (Y (own_ap [] [yF, yF_5, yF_9, yF_13, yF_17] (nv27).toNatClampNeg)) (.int i0)) (hvB : own_B yF) (hvB_6 : own_B yF_5) (hvB_10 : own_B yF_9) (hvB_14 : own_B yF_13) (hvB_18 : own_B yF_17) (hv_nv27 : own_N nv27) (g_o51 : n0 ≤ o51) (g_o53 : n0 ≤ o53) (ne_o46_o51 : o46 ≠ o51) (ne_o46_o53 : o46 ≠ o53) (ne_o51_o53 : o51 ≠ o53) :
    Met l Z (⟨cE, "collapseLast", "()V"⟩ : MethodName) prog_35_method_13_code 5 none (rM 0 0 0 0) [] #[(.ref o46)] h0 n0 (fun v h => ∃ (tF : Int32) (xsF : List Int32), v = none ∧ own_C 0 [] [yF, yF_5, yF_9, yF_13, yF_17] nv27 xsF tF ∧ Arv Z h o51 k_o51 .int i9 [(.int i0), (.int tF), (.int i0), (.int i0), (.int i0), (.int i0), (.int i0), (.int i0), (.int i0)] (.int i0) ∧ Arv Z h o53 k_o53 .char i256 (Y xsF) (.int i0) ∧ Keep h0 h [o51, o53]) := by
  refine Met.mkQ (tabs := tables_1) (a0 := a0) (ls0 := #[rv o46, un, un, un, un]) (plainFor_of_name pn_com_example_medis_medis_engine_ElementAttributes) hw Z0 (fun m => by first | (simp [entryFrame, mkF, argsToLocals, Value.category]; done) | rfl) ?_
  intro p e s m below meth c T Q' G' hQ hG C X
  have Kp : Keep h0 h0 [o51, o53] := Keep.refl _ _
  refine s_aloadN 1 C X d6_0 rfl rfl ?_
  refine s_getfield 4 C X (host := "") d6_1 (Or.inl (mW 25 rfl)) Via.refl F_o46_s (fun T X => ?_)
  refine s_aloadN 5 C X d6_4 rfl rfl ?_
  refine s_getfield 8 C X (host := "") d6_5 (Or.inl (mW 44 rfl)) Via.refl F_o46_n (fun T X => ?_)
  refine s_iconst 9 C X d6_8 kc_iconst_1 ?_
  refine s_isub 10 C X d6_9 ?_
  refine rc (st' := [(.int i0), (.ref o51)]) (by rw [kf_1]) ?_
  refine s_iaload 11 C X d6_10 A_o51 ⟨by decide, by decide⟩ (v := (.int i0)) rfl ?_
  refine s_istoreN 12 C X (l' := #[rv o46, iv i0, un, un, un]) d6_11 rfl ?_
  refine s_aloadN 13 C X d6_12 rfl rfl ?_
  refine s_getfield 16 C X (host := "") d6_13 (Or.inl (mW 25 rfl)) Via.refl F_o46_s (fun T X => ?_)
  refine s_aloadN 17 C X d6_16 rfl rfl ?_
  refine s_getfield 20 C X (host := "") d6_17 (Or.inl (mW 44 rfl)) Via.refl F_o46_n (fun T X => ?_)
  refine s_iaload 21 C X d6_20 A_o51 ⟨by decide, by decide⟩ (v := (.int nv27)) rfl ?_
  obtain ⟨en69, e_en69⟩ : ∃ zz_ : Int32, zz_ = nv27 := ⟨_, rfl⟩
  refine rc (st' := [(.int en69)]) (by subst e_en69; rfl) ?_
  have hve_en69 : en69.toInt = (0 : Int) + nv27.toInt := own_en0 e_en69
  refine s_istoreN 22 C X (l' := #[rv o46, iv i0, iv en69, un, un]) d6_21 rfl ?_
  refine s_iloadN 23 C X d6_22 rfl ?_
  refine s_istoreN 24 C X (l' := #[rv o46, iv i0, iv en69, iv i0, un]) d6_23 rfl ?_
  refine s_iloadN 25 C X d6_24 rfl ?_
  refine s_istore 27 C X (l' := #[rv o46, iv i0, iv en69, iv i0, iv i0]) d6_25 rfl ?_
  have I70 : own_I 0 [] [yF, yF_5, yF_9, yF_13, yF_17] 0 nv27 (own_ap [] [yF, yF_5, yF_9, yF_13, yF_17] (nv27).toNatClampNeg) i0 [] := own_I0 hv_nv27 (by decide) rfl (by decide)
  suffices J27 : ∀ (k i : Nat) (T : State) (hh : Heap) (fr t : Int32) (xs out : List Int32), i + k = 5 → fr.toInt = ((0 : Nat) : Int) + i → own_I 0 [] [yF, yF_5, yF_9, yF_13, yF_17] i nv27 xs t out → (List.take i [yF, yF_5, yF_9, yF_13, yF_17]).foldl cst [] = out → (i : Int) ≤ nv27.toInt → ∀ (X : St p l e (rM 0 0 0 0) s m #[(.ref o46)] below meth c n0 T hh 0 0) (F_o46_s : Fld Z hh o46 cE fs "[I" (.ref o51)) (F_o46_v : Fld Z hh o46 cE fv "[C" (.ref o53)) (F_o46_n : Fld Z hh o46 cE "length" "I" (.int i1)) (A_o51 : Arv Z hh o51 k_o51 .int i9 [(.int i0), (.int nv27), (.int i0), (.int i0), (.int i0), (.int i0), (.int i0), (.int i0), (.int i0)] (.int i0)) (A_o53 : Arv Z hh o53 k_o53 .char i256 (Y xs) (.int i0)) (Kp : Keep h0 hh [o51, o53]), Run p e below n0 Q' G' m T 27 #[rv o46, iv i0, iv en69, iv t, iv fr] [] by
    exact J27 5 0 T _ i0 i0 _ [] rfl (by decide) I70 rfl hv_nv27.1 X F_o46_s F_o46_v F_o46_n A_o51 A_o53 Kp
  intro k
  induction k with
  | zero =>
    intro i T hh fr t xs out hk hf I ho hi X F_o46_s F_o46_v F_o46_n A_o51 A_o53 Kp
    obtain rfl : i = 5 := by omega
    refine s_iload 29 C X d6_27 rfl ?_
    refine s_iloadN 30 C X d6_29 rfl ?_
    refine s_icmp_ge 99 33 C X d6_30 (fun c30_71 => ?_) (fun c => absurd c (own_sti hv_nv27 hve_en69 hf))
    have hn_i : nv27.toInt = ((5 : Nat) : Int) := own_ex5i hi hv_nv27
    refine s_iloadN 100 C X d6_99 rfl ?_
    refine s_iloadN 101 C X d6_100 rfl ?_
    suffices J76 : ∀ (T : State) (hh : Heap) (y75 : Int32) (D76 : ((¬ ((0 : Int) < (t).toInt)) ∧ y75 = t) ∨ (((0 : Int) < (t).toInt) ∧ (¬ (((xs.getD ((t - i1)).toNatClampNeg 0)).toInt = (32 : Int))) ∧ y75 = t) ∨ (((0 : Int) < (t).toInt) ∧ (((xs.getD ((t - i1)).toNatClampNeg 0)).toInt = (32 : Int)) ∧ y75 = (t + im1))) (X : St p l e (rM 0 0 0 0) s m #[(.ref o46)] below meth c n0 T hh 0 0) (F_o46_s : Fld Z hh o46 cE fs "[I" (.ref o51)) (F_o46_n : Fld Z hh o46 cE "length" "I" (.int i1)) (A_o51 : Arv Z hh o51 k_o51 .int i9 [(.int i0), (.int nv27), (.int i0), (.int i0), (.int i0), (.int i0), (.int i0), (.int i0), (.int i0)] (.int i0)) (A_o53 : Arv Z hh o53 k_o53 .char i256 (Y xs) (.int i0)) (Kp : Keep h0 hh [o51, o53]), Run p e below n0 Q' G' m T 120 #[rv o46, iv i0, iv en69, iv y75, iv fr] [] by
      refine s_icmp_le 120 104 C X d6_101 (fun c101_72 => ?_) (fun c101_72 => ?_)
      · have t_c101_72 := inl c101_72
        exact J76 T _ (t) ((Or.inl ⟨t_c101_72, rfl⟩)) X F_o46_s F_o46_n A_o51 A_o53 Kp
      have t_c101_72 := ilt c101_72
      refine s_aloadN 105 C X d6_104 rfl rfl ?_
      refine s_getfield 108 C X (host := "") d6_105 (Or.inl (mW 29 rfl)) Via.refl F_o46_v (fun T X => ?_)
      refine s_iloadN 109 C X d6_108 rfl ?_
      refine s_iconst 110 C X d6_109 kc_iconst_1 ?_
      refine s_isub 111 C X d6_110 ?_
      refine s_caload 112 C X d6_111 A_o53 (own_ix1 I (by decide) (by decide) rfl t_c101_72) (v := (.int (xs.getD ((t - i1)).toNatClampNeg 0))) (own_getX _ _) ?_
      refine s_bipush 114 C X d6_112 kc_bipush_32 ?_
      refine s_icmp_ne 120 117 C X d6_114 (fun c114_73 => ?_) (fun c114_73 => ?_)
      · have t_c114_73 := ine c114_73
        exact J76 T _ (t) (Or.inr (Or.inl ⟨t_c101_72, t_c114_73, rfl⟩)) X F_o46_s F_o46_n A_o51 A_o53 Kp
      have t_c114_73 := ieq c114_73
      refine s_iinc 120 C X (l' := #[rv o46, iv i0, iv en69, .val (.int (t + im1)), iv fr]) d6_117 kc_iconst_m1 rfl rfl ?_
      exact J76 T _ ((t + im1)) (Or.inr (Or.inr ⟨t_c101_72, t_c114_73, rfl⟩)) X F_o46_s F_o46_n A_o51 A_o53 Kp
    intro T hh y75 D76  X F_o46_s F_o46_n A_o51 A_o53 Kp
    have hC : own_C 0 [] [yF, yF_5, yF_9, yF_13, yF_17] nv27 xs y75 := own_fin I (by decide) (by decide) hn_i ho rfl D76
    refine s_aloadN 121 C X d6_120 rfl rfl ?_
    refine s_getfield 124 C X (host := "") d6_121 (Or.inl (mW 25 rfl)) Via.refl F_o46_s (fun T X => ?_)
    refine s_aloadN 125 C X d6_124 rfl rfl ?_
    refine s_getfield 128 C X (host := "") d6_125 (Or.inl (mW 44 rfl)) Via.refl F_o46_n (fun T X => ?_)
    refine s_iloadN 129 C X d6_128 rfl ?_
    refine s_iastore 130 1 C X d6_129 A_o51 g_o51 ⟨by decide, by decide⟩ rfl (Nat.le_of_ble_eq_true rfl) (fun T hh X W A_o51 => ?_)
    have A_o51 : Arv Z _ o51 k_o51 .int i9 [(.int i0), (.int y75), (.int i0), (.int i0), (.int i0), (.int i0), (.int i0), (.int i0), (.int i0)] (.int i0) := A_o51
    have A_o53 := A_o53.other W (Ne.symm ne_o51_o53)
    have Kp := Kp.wr W (Or.inl (by simp))
    refine s_return C X d6_130 rfl ?_ (FG hG (by decide) (by decide))
    obtain ⟨xsF, e_xsF⟩ : ∃ z : List Int32, z = xs := ⟨_, rfl⟩
    rw [← e_xsF] at A_o53 hC
    obtain ⟨tF, e_tF⟩ : ∃ z : Int32, z = y75 := ⟨_, rfl⟩
    rw [← e_tF] at A_o51 hC
    have hvC := hC
    exact hQ _ _ ⟨tF, xsF, rfl, hvC, A_o51, A_o53, Kp⟩
  | succ k ih =>
    intro i T hh fr t xs out hk hf I ho hi X F_o46_s F_o46_v F_o46_n A_o51 A_o53 Kp
    have hi4 : i ≤ 4 := by omega
    refine s_iload 29 C X d6_27 rfl ?_
    refine s_iloadN 30 C X d6_29 rfl ?_
    refine s_icmp_ge 99 33 C X d6_30 (fun c30_77 => ?_) (fun c30_77 => ?_)
    · have t_c30_77 := inl c30_77
      have hn_i : nv27.toInt = ((i : Nat) : Int) := own_exi t_c30_77 hf hve_en69 hi
      refine s_iloadN 100 C X d6_99 rfl ?_
      refine s_iloadN 101 C X d6_100 rfl ?_
      suffices J82 : ∀ (T : State) (hh : Heap) (y81 : Int32) (D82 : ((¬ ((0 : Int) < (t).toInt)) ∧ y81 = t) ∨ (((0 : Int) < (t).toInt) ∧ (¬ (((xs.getD ((t - i1)).toNatClampNeg 0)).toInt = (32 : Int))) ∧ y81 = t) ∨ (((0 : Int) < (t).toInt) ∧ (((xs.getD ((t - i1)).toNatClampNeg 0)).toInt = (32 : Int)) ∧ y81 = (t + im1))) (X : St p l e (rM 0 0 0 0) s m #[(.ref o46)] below meth c n0 T hh 0 0) (F_o46_s : Fld Z hh o46 cE fs "[I" (.ref o51)) (F_o46_n : Fld Z hh o46 cE "length" "I" (.int i1)) (A_o51 : Arv Z hh o51 k_o51 .int i9 [(.int i0), (.int nv27), (.int i0), (.int i0), (.int i0), (.int i0), (.int i0), (.int i0), (.int i0)] (.int i0)) (A_o53 : Arv Z hh o53 k_o53 .char i256 (Y xs) (.int i0)) (Kp : Keep h0 hh [o51, o53]), Run p e below n0 Q' G' m T 120 #[rv o46, iv i0, iv en69, iv y81, iv fr] [] by
        refine s_icmp_le 120 104 C X d6_101 (fun c101_78 => ?_) (fun c101_78 => ?_)
        · have t_c101_78 := inl c101_78
          exact J82 T _ (t) ((Or.inl ⟨t_c101_78, rfl⟩)) X F_o46_s F_o46_n A_o51 A_o53 Kp
        have t_c101_78 := ilt c101_78
        refine s_aloadN 105 C X d6_104 rfl rfl ?_
        refine s_getfield 108 C X (host := "") d6_105 (Or.inl (mW 29 rfl)) Via.refl F_o46_v (fun T X => ?_)
        refine s_iloadN 109 C X d6_108 rfl ?_
        refine s_iconst 110 C X d6_109 kc_iconst_1 ?_
        refine s_isub 111 C X d6_110 ?_
        refine s_caload 112 C X d6_111 A_o53 (own_ix1 I (by decide) (Nat.le_succ_of_le hi4) rfl t_c101_78) (v := (.int (xs.getD ((t - i1)).toNatClampNeg 0))) (own_getX _ _) ?_
        refine s_bipush 114 C X d6_112 kc_bipush_32 ?_
        refine s_icmp_ne 120 117 C X d6_114 (fun c114_79 => ?_) (fun c114_79 => ?_)
        · have t_c114_79 := ine c114_79
          exact J82 T _ (t) (Or.inr (Or.inl ⟨t_c101_78, t_c114_79, rfl⟩)) X F_o46_s F_o46_n A_o51 A_o53 Kp
        have t_c114_79 := ieq c114_79
        refine s_iinc 120 C X (l' := #[rv o46, iv i0, iv en69, .val (.int (t + im1)), iv fr]) d6_117 kc_iconst_m1 rfl rfl ?_
        exact J82 T _ ((t + im1)) (Or.inr (Or.inr ⟨t_c101_78, t_c114_79, rfl⟩)) X F_o46_s F_o46_n A_o51 A_o53 Kp
      intro T hh y81 D82  X F_o46_s F_o46_n A_o51 A_o53 Kp
      have hC : own_C 0 [] [yF, yF_5, yF_9, yF_13, yF_17] nv27 xs y81 := own_fin I (by decide) (Nat.le_succ_of_le hi4) hn_i ho rfl D82
      refine s_aloadN 121 C X d6_120 rfl rfl ?_
      refine s_getfield 124 C X (host := "") d6_121 (Or.inl (mW 25 rfl)) Via.refl F_o46_s (fun T X => ?_)
      refine s_aloadN 125 C X d6_124 rfl rfl ?_
      refine s_getfield 128 C X (host := "") d6_125 (Or.inl (mW 44 rfl)) Via.refl F_o46_n (fun T X => ?_)
      refine s_iloadN 129 C X d6_128 rfl ?_
      refine s_iastore 130 1 C X d6_129 A_o51 g_o51 ⟨by decide, by decide⟩ rfl (Nat.le_of_ble_eq_true rfl) (fun T hh X W A_o51 => ?_)
      have A_o51 : Arv Z _ o51 k_o51 .int i9 [(.int i0), (.int y81), (.int i0), (.int i0), (.int i0), (.int i0), (.int i0), (.int i0), (.int i0)] (.int i0) := A_o51
      have A_o53 := A_o53.other W (Ne.symm ne_o51_o53)
      have Kp := Kp.wr W (Or.inl (by simp))
      refine s_return C X d6_130 rfl ?_ (FG hG (by decide) (by decide))
      obtain ⟨xsF, e_xsF⟩ : ∃ z : List Int32, z = xs := ⟨_, rfl⟩
      rw [← e_xsF] at A_o53 hC
      obtain ⟨tF, e_tF⟩ : ∃ z : Int32, z = y81 := ⟨_, rfl⟩
      rw [← e_tF] at A_o51 hC
      have hvC := hC
      exact hQ _ _ ⟨tF, xsF, rfl, hvC, A_o51, A_o53, Kp⟩
    have t_c30_77 := ilt c30_77
    obtain ⟨ci, e_ci⟩ : ∃ z : Int32, z = List.getD [yF, yF_5, yF_9, yF_13, yF_17] i 0 := ⟨_, rfl⟩
    have hvci : own_B ci := own_getB (own_B5 hvB hvB_6 hvB_10 hvB_14 hvB_18) (by show i < 5; omega) e_ci
    refine s_aloadN 34 C X d6_33 rfl rfl ?_
    refine s_getfield 37 C X (host := "") d6_34 (Or.inl (mW 29 rfl)) Via.refl F_o46_v (fun T X => ?_)
    refine s_iload 39 C X d6_37 rfl ?_
    refine s_caload 40 C X d6_39 A_o53 (own_fr hf (by decide) (Nat.le_succ_of_le hi4)) (v := (.int ci)) (own_ldi I t_c30_77 hf hve_en69 e_ci) ?_
    refine s_bipush 42 C X d6_40 kc_bipush_32 ?_
    suffices J89 : ∀ (T : State) (hh : Heap) (y87 : Int32) (y88 : List Int32) (D89 : (((ci).toInt = (32 : Int)) ∧ (¬ ((0 : Int) < (t).toInt)) ∧ y87 = t ∧ y88 = xs) ∨ (((ci).toInt = (32 : Int)) ∧ ((0 : Int) < (t).toInt) ∧ (((xs.getD ((t - i1)).toNatClampNeg 0)).toInt = (32 : Int)) ∧ y87 = t ∧ y88 = xs) ∨ (((ci).toInt = (32 : Int)) ∧ ((0 : Int) < (t).toInt) ∧ (¬ (((xs.getD ((t - i1)).toNatClampNeg 0)).toInt = (32 : Int))) ∧ y87 = (t + i1) ∧ y88 = (xs.set (t).toNatClampNeg i32)) ∨ ((¬ ((ci).toInt = (32 : Int))) ∧ y87 = (t + i1) ∧ y88 = (xs.set (t).toNatClampNeg ci))) (X : St p l e (rM 0 0 0 0) s m #[(.ref o46)] below meth c n0 T hh 0 0) (F_o46_s : Fld Z hh o46 cE fs "[I" (.ref o51)) (F_o46_v : Fld Z hh o46 cE fv "[C" (.ref o53)) (F_o46_n : Fld Z hh o46 cE "length" "I" (.int i1)) (A_o51 : Arv Z hh o51 k_o51 .int i9 [(.int i0), (.int nv27), (.int i0), (.int i0), (.int i0), (.int i0), (.int i0), (.int i0), (.int i0)] (.int i0)) (A_o53 : Arv Z hh o53 k_o53 .char i256 (Y y88) (.int i0)) (Kp : Keep h0 hh [o51, o53]), Run p e below n0 Q' G' m T 93 #[rv o46, iv i0, iv en69, iv y87, iv fr] [] by
      refine s_icmp_eq 64 45 C X d6_42 (fun c42_83 => ?_) (fun c42_83 => ?_)
      · have t_c42_83 := ieq c42_83
        refine s_iloadN 65 C X d6_64 rfl ?_
        refine s_iloadN 66 C X d6_65 rfl ?_
        refine s_icmp_le 93 69 C X d6_66 (fun c66_84 => ?_) (fun c66_84 => ?_)
        · have t_c66_84 := inl c66_84
          exact J89 T _ (t) (xs) ((Or.inl ⟨t_c42_83, t_c66_84, rfl, rfl⟩)) X F_o46_s F_o46_v F_o46_n A_o51 A_o53 Kp
        have t_c66_84 := ilt c66_84
        refine s_aloadN 70 C X d6_69 rfl rfl ?_
        refine s_getfield 73 C X (host := "") d6_70 (Or.inl (mW 29 rfl)) Via.refl F_o46_v (fun T X => ?_)
        refine s_iloadN 74 C X d6_73 rfl ?_
        refine s_iconst 75 C X d6_74 kc_iconst_1 ?_
        refine s_isub 76 C X d6_75 ?_
        refine s_caload 77 C X d6_76 A_o53 (own_ix1 I (by decide) (Nat.le_succ_of_le hi4) rfl t_c66_84) (v := (.int (xs.getD ((t - i1)).toNatClampNeg 0))) (own_getX _ _) ?_
        refine s_bipush 79 C X d6_77 kc_bipush_32 ?_
        refine s_icmp_eq 93 82 C X d6_79 (fun c79_85 => ?_) (fun c79_85 => ?_)
        · have t_c79_85 := ieq c79_85
          exact J89 T _ (t) (xs) (Or.inr (Or.inl ⟨t_c42_83, t_c66_84, t_c79_85, rfl, rfl⟩)) X F_o46_s F_o46_v F_o46_n A_o51 A_o53 Kp
        have t_c79_85 := ine c79_85
        refine s_aloadN 83 C X d6_82 rfl rfl ?_
        refine s_getfield 86 C X (host := "") d6_83 (Or.inl (mW 29 rfl)) Via.refl F_o46_v (fun T X => ?_)
        refine s_iloadN 87 C X d6_86 rfl ?_
        refine s_iinc 90 C X (l' := #[rv o46, iv i0, iv en69, .val (.int (t + i1)), iv fr]) d6_87 kc_iconst_1 rfl rfl ?_
        refine s_bipush 92 C X d6_90 kc_bipush_32 ?_
        refine s_castore 93 (t).toNatClampNeg C X d6_92 A_o53 g_o53 (own_ix I (by decide) (Nat.le_succ_of_le hi4)).1 rfl ((own_ix I (by decide) (Nat.le_succ_of_le hi4)).2 hi4) (fun T hh X W A_o53 => ?_)
        have F_o46_s := F_o46_s.other W (Or.inl ne_o46_o53)
        have F_o46_v := F_o46_v.other W (Or.inl ne_o46_o53)
        have F_o46_n := F_o46_n.other W (Or.inl ne_o46_o53)
        have A_o51 := A_o51.other W ne_o51_o53
        have Kp := Kp.wr W (Or.inl (by simp))
        rw [own_setX, kn32] at A_o53
        exact J89 T _ ((t + i1)) ((xs.set (t).toNatClampNeg i32)) (Or.inr (Or.inr (Or.inl ⟨t_c42_83, t_c66_84, t_c79_85, rfl, rfl⟩))) X F_o46_s F_o46_v F_o46_n A_o51 A_o53 Kp
      have t_c42_83 := ine c42_83
      refine s_aloadN 46 C X d6_45 rfl rfl ?_
      refine s_getfield 49 C X (host := "") d6_46 (Or.inl (mW 29 rfl)) Via.refl F_o46_v (fun T X => ?_)
      refine s_iloadN 50 C X d6_49 rfl ?_
      refine s_iinc 53 C X (l' := #[rv o46, iv i0, iv en69, .val (.int (t + i1)), iv fr]) d6_50 kc_iconst_1 rfl rfl ?_
      refine s_aloadN 54 C X d6_53 rfl rfl ?_
      refine s_getfield 57 C X (host := "") d6_54 (Or.inl (mW 29 rfl)) Via.refl F_o46_v (fun T X => ?_)
      refine s_iload 59 C X d6_57 rfl ?_
      refine s_caload 60 C X d6_59 A_o53 (own_fr hf (by decide) (Nat.le_succ_of_le hi4)) (v := (.int ci)) (own_ldi I t_c30_77 hf hve_en69 e_ci) ?_
      refine s_castore 61 (t).toNatClampNeg C X d6_60 A_o53 g_o53 (own_ix I (by decide) (Nat.le_succ_of_le hi4)).1 rfl ((own_ix I (by decide) (Nat.le_succ_of_le hi4)).2 hi4) (fun T hh X W A_o53 => ?_)
      have F_o46_s := F_o46_s.other W (Or.inl ne_o46_o53)
      have F_o46_v := F_o46_v.other W (Or.inl ne_o46_o53)
      have F_o46_n := F_o46_n.other W (Or.inl ne_o46_o53)
      have A_o51 := A_o51.other W ne_o51_o53
      have Kp := Kp.wr W (Or.inl (by simp))
      rw [own_setX, own_nc hvci] at A_o53
      refine s_goto 93 C X d6_61 ?_
      exact J89 T _ ((t + i1)) ((xs.set (t).toNatClampNeg ci)) (Or.inr (Or.inr (Or.inr ⟨t_c42_83, rfl, rfl⟩))) X F_o46_s F_o46_v F_o46_n A_o51 A_o53 Kp
    intro T hh y87 y88 D89  X F_o46_s F_o46_v F_o46_n A_o51 A_o53 Kp
    have I90 : own_I 0 [] [yF, yF_5, yF_9, yF_13, yF_17] (i + 1) nv27 y88 y87 (cst out ci) := own_stp I (by decide) hi4 rfl D89
    refine s_iinc 96 C X (l' := #[rv o46, iv i0, iv en69, iv y87, .val (.int (fr + i1))]) d6_93 kc_iconst_1 rfl rfl ?_
    refine s_goto 27 C X d6_96 ?_
    exact ih (i + 1) T _ (fr + i1) y87 y88 (cst out ci) (by omega) (own_fr1 hf (by decide) hi4) I90 (own_fold (by show i < 5; omega) ho e_ci) (own_lti t_c30_77 hf hve_en69) X F_o46_s F_o46_v F_o46_n A_o51 A_o53 Kp
theorem rm_a6 (hw : Hw a0 Z) (yF : Int32) (nv27 : Int32) (h0 : Heap) (n0 : Nat) (Z0 : n0 ≤ h0.size)  :
    Met l Z (⟨cL, "live", "(IIC)Z"⟩ : MethodName) method_3_code 3 (some .boolean) (rM 0 0 0 0) [] #[(.int i0), (.int nv27), (.int yF)] h0 n0 (fun v h => ∃ (y174 : Int32), v = some (.int y174) ∧ ((y174 = i1 ∧ (((0 : Int) < (nv27).toInt) ∧ (¬ ((yF).toInt = (32 : Int))))) ∨ (y174 = i0 ∧ ¬ (((0 : Int) < (nv27).toInt) ∧ (¬ ((yF).toInt = (32 : Int)))))) ∧ Keep h0 h []) := by
  refine Met.mkQ (tabs := tables_1) (a0 := a0) (ls0 := #[iv i0, iv nv27, iv yF]) (plainFor_of_name pn_com_example_medis_medis_engine_ElementAttributesCollapseLastPinLaw) hw Z0 (fun m => by first | (simp [entryFrame, mkF, argsToLocals, Value.category]; done) | rfl) ?_
  intro p e s m below meth c T Q' G' hQ hG C X
  have Kp : Keep h0 h0 [] := Keep.refl _ _
  refine s_iloadN 1 C X d7_0 rfl ?_
  refine s_iloadN 2 C X d7_1 rfl ?_
  refine s_icmp_ge 15 5 C X d7_2 (fun c2_171 => ?_) (fun c2_171 => ?_)
  · have t_c2_171 : ¬ ((0 : Int) < (nv27).toInt) := fun q => c2_171 (Int32.lt_iff_toInt_lt.mpr q)
    refine s_iconst 16 C X d7_15 kc_iconst_0 ?_
    refine s_nreturn C X d7_16 rfl (by simp) rfl ?_ (FG hG (by decide) (by decide))
    exact hQ _ _ ⟨_, rfl, Or.inr ⟨rfl, (by omega)⟩, Kp⟩
  have t_c2_171 : (0 : Int) < (nv27).toInt := Int32.lt_iff_toInt_lt.mp c2_171
  refine s_iloadN 6 C X d7_5 rfl ?_
  refine s_bipush 8 C X d7_6 kc_bipush_32 ?_
  refine s_icmp_eq 15 11 C X d7_8 (fun c8_172 => ?_) (fun c8_172 => ?_)
  · have t_c8_172 : (yF).toInt = (32 : Int) := congrArg Int32.toInt c8_172
    refine s_iconst 16 C X d7_15 kc_iconst_0 ?_
    refine s_nreturn C X d7_16 rfl (by simp) rfl ?_ (FG hG (by decide) (by decide))
    exact hQ _ _ ⟨_, rfl, Or.inr ⟨rfl, (by omega)⟩, Kp⟩
  have t_c8_172 : ¬ ((yF).toInt = (32 : Int)) := fun q => c8_172 (Int32.toInt_inj.mp q)
  refine s_iconst 12 C X d7_11 kc_iconst_1 ?_
  refine s_goto 16 C X d7_12 ?_
  refine s_nreturn C X d7_16 rfl (by simp) rfl ?_ (FG hG (by decide) (by decide))
  exact hQ _ _ ⟨_, rfl, Or.inl ⟨rfl, ⟨t_c2_171, t_c8_172⟩⟩, Kp⟩
theorem rm_a7 (hw : Hw a0 Z) (yF_5 : Int32) (nv27 : Int32) (h0 : Heap) (n0 : Nat) (Z0 : n0 ≤ h0.size)  :
    Met l Z (⟨cL, "live", "(IIC)Z"⟩ : MethodName) method_3_code 3 (some .boolean) (rM 0 0 0 0) [] #[(.int i1), (.int nv27), (.int yF_5)] h0 n0 (fun v h => ∃ (y179 : Int32), v = some (.int y179) ∧ ((y179 = i1 ∧ (((1 : Int) < (nv27).toInt) ∧ (¬ ((yF_5).toInt = (32 : Int))))) ∨ (y179 = i0 ∧ ¬ (((1 : Int) < (nv27).toInt) ∧ (¬ ((yF_5).toInt = (32 : Int)))))) ∧ Keep h0 h []) := by
  refine Met.mkQ (tabs := tables_1) (a0 := a0) (ls0 := #[iv i1, iv nv27, iv yF_5]) (plainFor_of_name pn_com_example_medis_medis_engine_ElementAttributesCollapseLastPinLaw) hw Z0 (fun m => by first | (simp [entryFrame, mkF, argsToLocals, Value.category]; done) | rfl) ?_
  intro p e s m below meth c T Q' G' hQ hG C X
  have Kp : Keep h0 h0 [] := Keep.refl _ _
  refine s_iloadN 1 C X d7_0 rfl ?_
  refine s_iloadN 2 C X d7_1 rfl ?_
  refine s_icmp_ge 15 5 C X d7_2 (fun c2_176 => ?_) (fun c2_176 => ?_)
  · have t_c2_176 : ¬ ((1 : Int) < (nv27).toInt) := fun q => c2_176 (Int32.lt_iff_toInt_lt.mpr q)
    refine s_iconst 16 C X d7_15 kc_iconst_0 ?_
    refine s_nreturn C X d7_16 rfl (by simp) rfl ?_ (FG hG (by decide) (by decide))
    exact hQ _ _ ⟨_, rfl, Or.inr ⟨rfl, (by omega)⟩, Kp⟩
  have t_c2_176 : (1 : Int) < (nv27).toInt := Int32.lt_iff_toInt_lt.mp c2_176
  refine s_iloadN 6 C X d7_5 rfl ?_
  refine s_bipush 8 C X d7_6 kc_bipush_32 ?_
  refine s_icmp_eq 15 11 C X d7_8 (fun c8_177 => ?_) (fun c8_177 => ?_)
  · have t_c8_177 : (yF_5).toInt = (32 : Int) := congrArg Int32.toInt c8_177
    refine s_iconst 16 C X d7_15 kc_iconst_0 ?_
    refine s_nreturn C X d7_16 rfl (by simp) rfl ?_ (FG hG (by decide) (by decide))
    exact hQ _ _ ⟨_, rfl, Or.inr ⟨rfl, (by omega)⟩, Kp⟩
  have t_c8_177 : ¬ ((yF_5).toInt = (32 : Int)) := fun q => c8_177 (Int32.toInt_inj.mp q)
  refine s_iconst 12 C X d7_11 kc_iconst_1 ?_
  refine s_goto 16 C X d7_12 ?_
  refine s_nreturn C X d7_16 rfl (by simp) rfl ?_ (FG hG (by decide) (by decide))
  exact hQ _ _ ⟨_, rfl, Or.inl ⟨rfl, ⟨t_c2_176, t_c8_177⟩⟩, Kp⟩
theorem rm_a8 (hw : Hw a0 Z) (yF_9 : Int32) (nv27 : Int32) (h0 : Heap) (n0 : Nat) (Z0 : n0 ≤ h0.size)  :
    Met l Z (⟨cL, "live", "(IIC)Z"⟩ : MethodName) method_3_code 3 (some .boolean) (rM 0 0 0 0) [] #[(.int i2), (.int nv27), (.int yF_9)] h0 n0 (fun v h => ∃ (y184 : Int32), v = some (.int y184) ∧ ((y184 = i1 ∧ (((2 : Int) < (nv27).toInt) ∧ (¬ ((yF_9).toInt = (32 : Int))))) ∨ (y184 = i0 ∧ ¬ (((2 : Int) < (nv27).toInt) ∧ (¬ ((yF_9).toInt = (32 : Int)))))) ∧ Keep h0 h []) := by
  refine Met.mkQ (tabs := tables_1) (a0 := a0) (ls0 := #[iv i2, iv nv27, iv yF_9]) (plainFor_of_name pn_com_example_medis_medis_engine_ElementAttributesCollapseLastPinLaw) hw Z0 (fun m => by first | (simp [entryFrame, mkF, argsToLocals, Value.category]; done) | rfl) ?_
  intro p e s m below meth c T Q' G' hQ hG C X
  have Kp : Keep h0 h0 [] := Keep.refl _ _
  refine s_iloadN 1 C X d7_0 rfl ?_
  refine s_iloadN 2 C X d7_1 rfl ?_
  refine s_icmp_ge 15 5 C X d7_2 (fun c2_181 => ?_) (fun c2_181 => ?_)
  · have t_c2_181 : ¬ ((2 : Int) < (nv27).toInt) := fun q => c2_181 (Int32.lt_iff_toInt_lt.mpr q)
    refine s_iconst 16 C X d7_15 kc_iconst_0 ?_
    refine s_nreturn C X d7_16 rfl (by simp) rfl ?_ (FG hG (by decide) (by decide))
    exact hQ _ _ ⟨_, rfl, Or.inr ⟨rfl, (by omega)⟩, Kp⟩
  have t_c2_181 : (2 : Int) < (nv27).toInt := Int32.lt_iff_toInt_lt.mp c2_181
  refine s_iloadN 6 C X d7_5 rfl ?_
  refine s_bipush 8 C X d7_6 kc_bipush_32 ?_
  refine s_icmp_eq 15 11 C X d7_8 (fun c8_182 => ?_) (fun c8_182 => ?_)
  · have t_c8_182 : (yF_9).toInt = (32 : Int) := congrArg Int32.toInt c8_182
    refine s_iconst 16 C X d7_15 kc_iconst_0 ?_
    refine s_nreturn C X d7_16 rfl (by simp) rfl ?_ (FG hG (by decide) (by decide))
    exact hQ _ _ ⟨_, rfl, Or.inr ⟨rfl, (by omega)⟩, Kp⟩
  have t_c8_182 : ¬ ((yF_9).toInt = (32 : Int)) := fun q => c8_182 (Int32.toInt_inj.mp q)
  refine s_iconst 12 C X d7_11 kc_iconst_1 ?_
  refine s_goto 16 C X d7_12 ?_
  refine s_nreturn C X d7_16 rfl (by simp) rfl ?_ (FG hG (by decide) (by decide))
  exact hQ _ _ ⟨_, rfl, Or.inl ⟨rfl, ⟨t_c2_181, t_c8_182⟩⟩, Kp⟩
theorem rm_a9 (hw : Hw a0 Z) (yF_13 : Int32) (nv27 : Int32) (h0 : Heap) (n0 : Nat) (Z0 : n0 ≤ h0.size)  :
    Met l Z (⟨cL, "live", "(IIC)Z"⟩ : MethodName) method_3_code 3 (some .boolean) (rM 0 0 0 0) [] #[(.int i3), (.int nv27), (.int yF_13)] h0 n0 (fun v h => ∃ (y189 : Int32), v = some (.int y189) ∧ ((y189 = i1 ∧ (((3 : Int) < (nv27).toInt) ∧ (¬ ((yF_13).toInt = (32 : Int))))) ∨ (y189 = i0 ∧ ¬ (((3 : Int) < (nv27).toInt) ∧ (¬ ((yF_13).toInt = (32 : Int)))))) ∧ Keep h0 h []) := by
  refine Met.mkQ (tabs := tables_1) (a0 := a0) (ls0 := #[iv i3, iv nv27, iv yF_13]) (plainFor_of_name pn_com_example_medis_medis_engine_ElementAttributesCollapseLastPinLaw) hw Z0 (fun m => by first | (simp [entryFrame, mkF, argsToLocals, Value.category]; done) | rfl) ?_
  intro p e s m below meth c T Q' G' hQ hG C X
  have Kp : Keep h0 h0 [] := Keep.refl _ _
  refine s_iloadN 1 C X d7_0 rfl ?_
  refine s_iloadN 2 C X d7_1 rfl ?_
  refine s_icmp_ge 15 5 C X d7_2 (fun c2_186 => ?_) (fun c2_186 => ?_)
  · have t_c2_186 : ¬ ((3 : Int) < (nv27).toInt) := fun q => c2_186 (Int32.lt_iff_toInt_lt.mpr q)
    refine s_iconst 16 C X d7_15 kc_iconst_0 ?_
    refine s_nreturn C X d7_16 rfl (by simp) rfl ?_ (FG hG (by decide) (by decide))
    exact hQ _ _ ⟨_, rfl, Or.inr ⟨rfl, (by omega)⟩, Kp⟩
  have t_c2_186 : (3 : Int) < (nv27).toInt := Int32.lt_iff_toInt_lt.mp c2_186
  refine s_iloadN 6 C X d7_5 rfl ?_
  refine s_bipush 8 C X d7_6 kc_bipush_32 ?_
  refine s_icmp_eq 15 11 C X d7_8 (fun c8_187 => ?_) (fun c8_187 => ?_)
  · have t_c8_187 : (yF_13).toInt = (32 : Int) := congrArg Int32.toInt c8_187
    refine s_iconst 16 C X d7_15 kc_iconst_0 ?_
    refine s_nreturn C X d7_16 rfl (by simp) rfl ?_ (FG hG (by decide) (by decide))
    exact hQ _ _ ⟨_, rfl, Or.inr ⟨rfl, (by omega)⟩, Kp⟩
  have t_c8_187 : ¬ ((yF_13).toInt = (32 : Int)) := fun q => c8_187 (Int32.toInt_inj.mp q)
  refine s_iconst 12 C X d7_11 kc_iconst_1 ?_
  refine s_goto 16 C X d7_12 ?_
  refine s_nreturn C X d7_16 rfl (by simp) rfl ?_ (FG hG (by decide) (by decide))
  exact hQ _ _ ⟨_, rfl, Or.inl ⟨rfl, ⟨t_c2_186, t_c8_187⟩⟩, Kp⟩
theorem rm_a10 (hw : Hw a0 Z) (yF_17 : Int32) (nv27 : Int32) (h0 : Heap) (n0 : Nat) (Z0 : n0 ≤ h0.size)  :
    Met l Z (⟨cL, "live", "(IIC)Z"⟩ : MethodName) method_3_code 3 (some .boolean) (rM 0 0 0 0) [] #[(.int i4), (.int nv27), (.int yF_17)] h0 n0 (fun v h => ∃ (y194 : Int32), v = some (.int y194) ∧ ((y194 = i1 ∧ (((4 : Int) < (nv27).toInt) ∧ (¬ ((yF_17).toInt = (32 : Int))))) ∨ (y194 = i0 ∧ ¬ (((4 : Int) < (nv27).toInt) ∧ (¬ ((yF_17).toInt = (32 : Int)))))) ∧ Keep h0 h []) := by
  refine Met.mkQ (tabs := tables_1) (a0 := a0) (ls0 := #[iv i4, iv nv27, iv yF_17]) (plainFor_of_name pn_com_example_medis_medis_engine_ElementAttributesCollapseLastPinLaw) hw Z0 (fun m => by first | (simp [entryFrame, mkF, argsToLocals, Value.category]; done) | rfl) ?_
  intro p e s m below meth c T Q' G' hQ hG C X
  have Kp : Keep h0 h0 [] := Keep.refl _ _
  refine s_iloadN 1 C X d7_0 rfl ?_
  refine s_iloadN 2 C X d7_1 rfl ?_
  refine s_icmp_ge 15 5 C X d7_2 (fun c2_191 => ?_) (fun c2_191 => ?_)
  · have t_c2_191 : ¬ ((4 : Int) < (nv27).toInt) := fun q => c2_191 (Int32.lt_iff_toInt_lt.mpr q)
    refine s_iconst 16 C X d7_15 kc_iconst_0 ?_
    refine s_nreturn C X d7_16 rfl (by simp) rfl ?_ (FG hG (by decide) (by decide))
    exact hQ _ _ ⟨_, rfl, Or.inr ⟨rfl, (by omega)⟩, Kp⟩
  have t_c2_191 : (4 : Int) < (nv27).toInt := Int32.lt_iff_toInt_lt.mp c2_191
  refine s_iloadN 6 C X d7_5 rfl ?_
  refine s_bipush 8 C X d7_6 kc_bipush_32 ?_
  refine s_icmp_eq 15 11 C X d7_8 (fun c8_192 => ?_) (fun c8_192 => ?_)
  · have t_c8_192 : (yF_17).toInt = (32 : Int) := congrArg Int32.toInt c8_192
    refine s_iconst 16 C X d7_15 kc_iconst_0 ?_
    refine s_nreturn C X d7_16 rfl (by simp) rfl ?_ (FG hG (by decide) (by decide))
    exact hQ _ _ ⟨_, rfl, Or.inr ⟨rfl, (by omega)⟩, Kp⟩
  have t_c8_192 : ¬ ((yF_17).toInt = (32 : Int)) := fun q => c8_192 (Int32.toInt_inj.mp q)
  refine s_iconst 12 C X d7_11 kc_iconst_1 ?_
  refine s_goto 16 C X d7_12 ?_
  refine s_nreturn C X d7_16 rfl (by simp) rfl ?_ (FG hG (by decide) (by decide))
  exact hQ _ _ ⟨_, rfl, Or.inl ⟨rfl, ⟨t_c2_191, t_c8_192⟩⟩, Kp⟩
theorem rm_a11 (hw : Hw a0 Z) (yF : Int32) (y174 : Int32) (o237 : Addr) (es0 : List Int32) (m0 : Int32) (k_o237 : ClassId) (h0 : Heap) (n0 : Nat) (Z0 : n0 ≤ h0.size) (A_o237 : Arv Z h0 o237 k_o237 .char i5 (Y es0) (.int i0)) (hvB : own_B yF) (g_o237 : n0 ≤ o237) (hvq : own_Q 4 es0 m0) :
    Met l Z (⟨cL, "put", "([CIZC)I"⟩ : MethodName) method_4_code 4 (some .int) (rM 0 0 0 0) [] #[(.ref o237), (.int m0), (.int y174), (.int yF)] h0 n0 (fun v h => ∃ (esF : List Int32) (mF : Int32), v = some (.int mF) ∧ own_P es0 m0 y174 yF esF mF ∧ Arv Z h o237 k_o237 .char i5 (Y esF) (.int i0) ∧ Keep h0 h [o237]) := by
  refine Met.mkQ (tabs := tables_1) (a0 := a0) (ls0 := #[rv o237, iv m0, iv y174, iv yF]) (plainFor_of_name pn_com_example_medis_medis_engine_ElementAttributesCollapseLastPinLaw) hw Z0 (fun m => by first | (simp [entryFrame, mkF, argsToLocals, Value.category]; done) | rfl) ?_
  intro p e s m below meth c T Q' G' hQ hG C X
  have Kp : Keep h0 h0 [o237] := Keep.refl _ _
  refine s_iloadN 1 C X d8_0 rfl ?_
  refine s_if_eq 12 4 C X d8_1 (fun c1_251 => ?_) (fun c1_251 => ?_)
  · have t_c1_251 := ieq c1_251
    refine s_iloadN 13 C X d8_12 rfl ?_
    refine s_ireturn C X d8_13 rfl ?_ (FG hG (by decide) (by decide))
    obtain ⟨esF, e_esF⟩ : ∃ z : List Int32, z = es0 := ⟨_, rfl⟩
    obtain ⟨mF, e_mF⟩ : ∃ z : Int32, z = m0 := ⟨_, rfl⟩
    have hvP : own_P es0 m0 y174 yF esF mF := Or.inr ⟨t_c1_251, e_esF, e_mF⟩
    rw [← e_esF] at A_o237
    rw [← e_mF]
    exact hQ _ _ ⟨esF, mF, rfl, hvP, A_o237, Kp⟩
  have t_c1_251 := ine c1_251
  refine s_aloadN 5 C X d8_4 rfl rfl ?_
  refine s_iloadN 6 C X d8_5 rfl ?_
  refine s_iloadN 7 C X d8_6 rfl ?_
  refine s_castore 8 (m0).toNatClampNeg C X d8_7 A_o237 g_o237 (own_q1 hvq (by decide)).1 rfl (own_q1 hvq (by decide)).2 (fun T hh X W A_o237 => ?_)
  have Kp := Kp.wr W (Or.inl (by simp))
  rw [own_setX, own_nc hvB] at A_o237
  refine s_iloadN 9 C X d8_8 rfl ?_
  refine s_iconst 10 C X d8_9 kc_iconst_1 ?_
  refine s_iadd 11 C X d8_10 ?_
  refine s_ireturn C X d8_11 rfl ?_ (FG hG (by decide) (by decide))
  obtain ⟨esF, e_esF⟩ : ∃ z : List Int32, z = (es0.set (m0).toNatClampNeg yF) := ⟨_, rfl⟩
  obtain ⟨mF, e_mF⟩ : ∃ z : Int32, z = (m0 + i1) := ⟨_, rfl⟩
  have hvP : own_P es0 m0 y174 yF esF mF := Or.inl ⟨t_c1_251, e_esF, e_mF⟩
  rw [← e_esF] at A_o237
  rw [← e_mF]
  exact hQ _ _ ⟨esF, mF, rfl, hvP, A_o237, Kp⟩
theorem rm_a12 (hw : Hw a0 Z) (fm : Value) (m277 : Int32) (h0 : Heap) (n0 : Nat) (Z0 : n0 ≤ h0.size) (hv_fm : fm.isRef = true) (hvN_m277 : own_N m277) :
    Met l Z (⟨cP, "checkFromIndexSize", sI⟩ : MethodName) jdk_41_method_13_code 4 (some .int) (rM 0 0 0 0) [] #[(.int i0), (.int m277), (.int i256), fm] h0 n0 (fun v h => v = some (.int i0) ∧ Keep h0 h []) := by
  refine Met.mkQ (tabs := tables_1) (a0 := a0) (ls0 := #[iv i0, iv m277, iv i256, .val fm]) (plainFor_of_name pn_jdk_internal_util_Preconditions) hw Z0 (fun m => by first | (simp [entryFrame, mkF, argsToLocals, Value.category]; done) | rfl | (cases fm <;> first | (simp [entryFrame, mkF, argsToLocals, Value.category]; done) | (exact absurd hv_fm (by simp [Value.isRef])))) ?_
  intro p e s m below meth c T Q' G' hQ hG C X
  have Kp : Keep h0 h0 [] := Keep.refl _ _
  refine s_iloadN 1 C X d13_0 rfl ?_
  refine s_iloadN 2 C X d13_1 rfl ?_
  refine s_ior 3 C X d13_2 ?_
  refine rc (st' := [(.int i256)]) (by rw [kf_2]) ?_
  refine s_iloadN 4 C X d13_3 rfl ?_
  refine s_ior 5 C X d13_4 ?_
  refine s_if_lt 15 8 C X d13_5 (fun c => absurd c (own_or hvN_m277 (by decide))) (fun c5_278 => ?_)
  refine s_iloadN 9 C X d13_8 rfl ?_
  refine s_iloadN 10 C X d13_9 rfl ?_
  refine s_iloadN 11 C X d13_10 rfl ?_
  refine s_isub 12 C X d13_11 ?_
  refine rc (st' := [(.int i256), (.int m277)]) (by rw [kf_3]) ?_
  refine s_icmp_le 23 15 C X d13_12 (fun c12_279 => ?_) (fun c => absurd c (own_szs hvN_m277 (by decide)))
  refine s_iloadN 24 C X d13_23 rfl ?_
  refine s_ireturn C X d13_24 rfl ?_ (FG hG (by decide) (by decide))
  exact hQ _ _ ⟨rfl, Kp⟩
theorem rm_a13 (hw : Hw a0 Z) (fm : Value) (m277 : Int32) (h0 : Heap) (n0 : Nat) (Z0 : n0 ≤ h0.size) (Od : Old Z n0 h0) (S_fm : Sta Z Z.heap cP cM cF fm) (hv_fm : fm.isRef = true) (hvN_m277 : own_N m277) :
    Met l Z (⟨cS, "checkBoundsOffCount", "(III)I"⟩ : MethodName) jdk_42_method_157_code 3 (some .int) (rM 1 0 0 15) [] #[(.int i0), (.int m277), (.int i256)] h0 n0 (fun v h => v = some (.int i0) ∧ Old Z n0 h ∧ Keep h0 h []) := by
  refine Met.mkQ (tabs := tables_1) (a0 := a0) (ls0 := #[iv i0, iv m277, iv i256]) (plainFor_of_name pn_java_lang_String) hw Z0 (fun m => by first | (simp [entryFrame, mkF, argsToLocals, Value.category]; done) | rfl) ?_
  intro p e s m below meth c T Q' G' hQ hG C X
  have Kp : Keep h0 h0 [] := Keep.refl _ _
  refine s_iloadN 1 C X d12_0 rfl ?_
  refine s_iloadN 2 C X d12_1 rfl ?_
  refine s_iloadN 3 C X d12_2 rfl ?_
  refine s_getstatic 6 C X (host := "") d12_3 (Or.inl (mW 82 rfl)) Via.refl (S_fm.ext Od.2) (fun T X => ?_)
  refine s_callS 9 [(.int i0), (.int m277), (.int i256), fm] [] 0 C X d12_6 (mW 84 rfl) (mW 85 rfl) (mW 83 rfl) (mW 86 rfl) (rm_a12 l Z a0 hw fm m277 _ n0 X.sz hv_fm hvN_m277) (lenOf pd__IIILjava_util_function_BiFunction__I rfl) rfl rfl rfl (fun T v hh X q => ?_)
  obtain ⟨rfl, Kc⟩ := q
  have Od := Od.keep Kc all0
  have Kp := Kp.trans Kc all0
  refine rc (st' := [(.int i0)]) rfl ?_
  refine s_ireturn C X d12_9 rfl ?_ (FG hG (by decide) (by decide))
  exact hQ _ _ ⟨rfl, Od, Kp⟩
theorem rm_a14 (hw : Hw a0 Z) (fm : Value) (k_o53 : ClassId) (o53 : Addr) (xsF : List Int32) (m277 : Int32) (h0 : Heap) (n0 : Nat) (Z0 : n0 ≤ h0.size) (Od : Old Z n0 h0) (S_fm : Sta Z Z.heap cP cM cF fm) (A_o53 : Arv Z h0 o53 k_o53 .char i256 (Y xsF) (.int i0)) (hv_fm : fm.isRef = true) (hvN_m277 : own_N m277) :
    Met l Z (⟨cS, "rangeCheck", "([CII)Ljava/lang/Void;"⟩ : MethodName) jdk_42_method_5_code 3 (some (.object "java/lang/Void")) (rM 2 0 0 29) [] #[(.ref o53), (.int i0), (.int m277)] h0 n0 (fun v h => v = some .null ∧ Keep h0 h [] ∧ Old Z n0 h) := by
  refine Met.mkQ (tabs := tables_1) (a0 := a0) (ls0 := #[rv o53, iv i0, iv m277]) (plainFor_of_name pn_java_lang_String) hw Z0 (fun m => by first | (simp [entryFrame, mkF, argsToLocals, Value.category]; done) | rfl) ?_
  intro p e s m below meth c T Q' G' hQ hG C X
  have Kp : Keep h0 h0 [] := Keep.refl _ _
  refine s_iloadN 1 C X d11_0 rfl ?_
  refine s_iloadN 2 C X d11_1 rfl ?_
  refine s_aloadN 3 C X d11_2 rfl rfl ?_
  refine s_arraylength 4 C X d11_3 A_o53 ?_
  refine s_callS 7 [(.int i0), (.int m277), (.int i256)] [] 0 C X d11_4 (mW 79 rfl) (mW 80 rfl) (mW 32 rfl) (mW 81 rfl) (rm_a13 l Z a0 hw fm m277 _ n0 X.sz Od S_fm hv_fm hvN_m277) (lenOf pd__III_I rfl) rfl rfl rfl (fun T v hh X q => ?_)
  obtain ⟨rfl, Od, Kc⟩ := q
  have Kp := Kp.trans Kc all0
  refine rc (st' := [(.int i0)]) rfl ?_
  refine s_pop 8 C X d11_7 rfl ?_
  refine s_aconstNull 9 C X d11_8 ?_
  refine s_areturn C X d11_9 rfl rfl rfl ?_ (FG hG (by decide) (by decide))
  exact hQ _ _ ⟨rfl, Kp, Od⟩
theorem rm_a15 (hw : Hw a0 Z) (k_o53 : ClassId) (o53 : Addr) (xsF : List Int32) (m277 : Int32) (o285 : Addr) (k_o285 : ClassId) (h0 : Heap) (n0 : Nat) (Z0 : n0 ≤ h0.size) (A_o53 : Arv Z h0 o53 k_o53 .char i256 (Y xsF) (.int i0)) (A_o285 : Arv Z h0 o285 k_o285 .byte m277 [(.int i0), (.int i0), (.int i0), (.int i0), (.int i0)] (.int i0)) (hvN_m277 : own_N m277) (hvW_m277 : own_W 0 xsF m277) (ne_o53_o285 : o53 ≠ o285) (g_o285 : n0 ≤ o285) :
    Met l Z (⟨cU, "compress", "([CI[BII)I"⟩ : MethodName) jdk_52_method_21_code 7 (some .int) (rM 0 0 0 0) [] #[(.ref o53), (.int i0), (.ref o285), (.int i0), (.int m277)] h0 n0 (fun v h => ∃ (zsF : List Int32), v = some (.int m277) ∧ own_Z 0 xsF m277 zsF ∧ Arv Z h o285 k_o285 .byte m277 (Y zsF) (.int i0) ∧ Keep h0 h [o285]) := by
  refine Met.mkQ (tabs := tables_1) (a0 := a0) (ls0 := #[rv o53, iv i0, rv o285, iv i0, iv m277, un, un]) (plainFor_of_name pn_java_lang_StringUTF16) hw Z0 (fun m => by first | (simp [entryFrame, mkF, argsToLocals, Value.category]; done) | rfl) ?_
  intro p e s m below meth c T Q' G' hQ hG C X
  have Kp : Keep h0 h0 [o285] := Keep.refl _ _
  refine s_iconst 1 C X d16_0 kc_iconst_0 ?_
  refine s_istore 3 C X (l' := #[rv o53, iv i0, rv o285, iv i0, iv m277, iv i0, un]) d16_1 rfl ?_
  refine s_iload 5 C X d16_3 rfl ?_
  refine s_iload 7 C X d16_5 rfl ?_
  refine s_icmp_ge 44 10 C X d16_7 (fun c7_286 => ?_) (fun c7_286 => ?_)
  · have t_c7_286 := inl c7_286
    refine s_iload 46 C X d16_44 rfl ?_
    refine s_ireturn C X d16_46 rfl ?_ (FG hG (by decide) (by decide))
    obtain ⟨zsF, e_zsF⟩ : ∃ z : List Int32, z = [i0, i0, i0, i0, i0] := ⟨_, rfl⟩
    have hvZ : own_Z 0 xsF m277 zsF := by rw [e_zsF]; exact own_z00 (Int.not_lt.mp t_c7_286)
    have A_o285 : Arv Z h0 o285 k_o285 .byte m277 (Y zsF) (.int i0) := by rw [e_zsF]; exact A_o285
    exact hQ _ _ ⟨zsF, rfl, hvZ, A_o285, Kp⟩
  have t_c7_286 := ilt c7_286
  refine s_aloadN 11 C X d16_10 rfl rfl ?_
  refine s_iloadN 12 C X d16_11 rfl ?_
  refine s_caload 13 C X d16_12 A_o53 ⟨by decide, by decide⟩ (v := (.int (xsF.getD 0 0))) (own_getX _ _) ?_
  refine s_istore 15 C X (l' := #[rv o53, iv i0, rv o285, iv i0, iv m277, iv i0, .val (.int (xsF.getD 0 0))]) d16_13 rfl ?_
  refine s_iload 17 C X d16_15 rfl ?_
  refine s_sipush 20 C X d16_17 kc_sipush_255 ?_
  refine s_icmp_le 26 23 C X d16_20 (fun c20_287 => ?_) (fun c => absurd c (own_le (own_wk hvW_m277 t_c7_286 rfl rfl)))
  refine s_aloadN 27 C X d16_26 rfl rfl ?_
  refine s_iloadN 28 C X d16_27 rfl ?_
  refine s_iload 30 C X d16_28 rfl ?_
  refine s_i2b 31 C X d16_30 ?_
  refine s_bastore 32 0 C X d16_31 A_o285 g_o285 ⟨by decide, c7_286⟩ rfl (Nat.le_of_ble_eq_true rfl) (fun T hh X W A_o285 => ?_)
  have A_o285 : Arv Z _ o285 k_o285 .byte m277 [(.int (nar .byte ((xsF.getD 0 0)).toInt8.toInt32)), (.int i0), (.int i0), (.int i0), (.int i0)] (.int i0) := A_o285
  have A_o53 := A_o53.other W ne_o53_o285
  have Kp := Kp.wr W (Or.inl (by simp))
  have A_o285 : Arv Z _ o285 k_o285 .byte m277 [(.int (bv (xsF.getD 0 0))), (.int i0), (.int i0), (.int i0), (.int i0)] (.int i0) := A_o285
  refine s_iinc 35 C X (l' := #[rv o53, iv i1, rv o285, iv i0, iv m277, iv i0, .val (.int (xsF.getD 0 0))]) d16_32 kc_iconst_1 rfl rfl ?_
  refine s_iinc 38 C X (l' := #[rv o53, iv i1, rv o285, iv i1, iv m277, iv i0, .val (.int (xsF.getD 0 0))]) d16_35 kc_iconst_1 rfl rfl ?_
  refine s_iinc 41 C X (l' := #[rv o53, iv i1, rv o285, iv i1, iv m277, iv i1, .val (.int (xsF.getD 0 0))]) d16_38 kc_iconst_1 rfl rfl ?_
  refine s_goto 3 C X d16_41 ?_
  refine s_iload 5 C X d16_3 rfl ?_
  refine s_iload 7 C X d16_5 rfl ?_
  refine s_icmp_ge 44 10 C X d16_7 (fun c7_288 => ?_) (fun c7_288 => ?_)
  · have t_c7_288 := inl c7_288
    refine s_iload 46 C X d16_44 rfl ?_
    refine s_ireturn C X d16_46 rfl ?_ (FG hG (by decide) (by decide))
    obtain ⟨zsF, e_zsF⟩ : ∃ z : List Int32, z = [(bv (xsF.getD 0 0)), i0, i0, i0, i0] := ⟨_, rfl⟩
    have hvZ : own_Z 0 xsF m277 zsF := by rw [e_zsF]; exact own_z01 (Int.not_lt.mp t_c7_288)
    have A_o285 : Arv Z hh o285 k_o285 .byte m277 (Y zsF) (.int i0) := by rw [e_zsF]; exact A_o285
    exact hQ _ _ ⟨zsF, rfl, hvZ, A_o285, Kp⟩
  have t_c7_288 := ilt c7_288
  refine s_aloadN 11 C X d16_10 rfl rfl ?_
  refine s_iloadN 12 C X d16_11 rfl ?_
  refine s_caload 13 C X d16_12 A_o53 ⟨by decide, by decide⟩ (v := (.int (xsF.getD 1 0))) (own_getX _ _) ?_
  refine s_istore 15 C X (l' := #[rv o53, iv i1, rv o285, iv i1, iv m277, iv i1, .val (.int (xsF.getD 1 0))]) d16_13 rfl ?_
  refine s_iload 17 C X d16_15 rfl ?_
  refine s_sipush 20 C X d16_17 kc_sipush_255 ?_
  refine s_icmp_le 26 23 C X d16_20 (fun c20_289 => ?_) (fun c => absurd c (own_le (own_wk hvW_m277 t_c7_288 rfl rfl)))
  refine s_aloadN 27 C X d16_26 rfl rfl ?_
  refine s_iloadN 28 C X d16_27 rfl ?_
  refine s_iload 30 C X d16_28 rfl ?_
  refine s_i2b 31 C X d16_30 ?_
  refine s_bastore 32 1 C X d16_31 A_o285 g_o285 ⟨by decide, c7_288⟩ rfl (Nat.le_of_ble_eq_true rfl) (fun T hh X W A_o285 => ?_)
  have A_o285 : Arv Z _ o285 k_o285 .byte m277 [(.int (bv (xsF.getD 0 0))), (.int (nar .byte ((xsF.getD 1 0)).toInt8.toInt32)), (.int i0), (.int i0), (.int i0)] (.int i0) := A_o285
  have A_o53 := A_o53.other W ne_o53_o285
  have Kp := Kp.wr W (Or.inl (by simp))
  have A_o285 : Arv Z _ o285 k_o285 .byte m277 [(.int (bv (xsF.getD 0 0))), (.int (bv (xsF.getD 1 0))), (.int i0), (.int i0), (.int i0)] (.int i0) := A_o285
  refine s_iinc 35 C X (l' := #[rv o53, iv i2, rv o285, iv i1, iv m277, iv i1, .val (.int (xsF.getD 1 0))]) d16_32 kc_iconst_1 rfl rfl ?_
  refine s_iinc 38 C X (l' := #[rv o53, iv i2, rv o285, iv i2, iv m277, iv i1, .val (.int (xsF.getD 1 0))]) d16_35 kc_iconst_1 rfl rfl ?_
  refine s_iinc 41 C X (l' := #[rv o53, iv i2, rv o285, iv i2, iv m277, iv i2, .val (.int (xsF.getD 1 0))]) d16_38 kc_iconst_1 rfl rfl ?_
  refine s_goto 3 C X d16_41 ?_
  refine s_iload 5 C X d16_3 rfl ?_
  refine s_iload 7 C X d16_5 rfl ?_
  refine s_icmp_ge 44 10 C X d16_7 (fun c7_290 => ?_) (fun c7_290 => ?_)
  · have t_c7_290 := inl c7_290
    refine s_iload 46 C X d16_44 rfl ?_
    refine s_ireturn C X d16_46 rfl ?_ (FG hG (by decide) (by decide))
    obtain ⟨zsF, e_zsF⟩ : ∃ z : List Int32, z = [(bv (xsF.getD 0 0)), (bv (xsF.getD 1 0)), i0, i0, i0] := ⟨_, rfl⟩
    have hvZ : own_Z 0 xsF m277 zsF := by rw [e_zsF]; exact own_z02 (Int.not_lt.mp t_c7_290)
    have A_o285 : Arv Z hh o285 k_o285 .byte m277 (Y zsF) (.int i0) := by rw [e_zsF]; exact A_o285
    exact hQ _ _ ⟨zsF, rfl, hvZ, A_o285, Kp⟩
  have t_c7_290 := ilt c7_290
  refine s_aloadN 11 C X d16_10 rfl rfl ?_
  refine s_iloadN 12 C X d16_11 rfl ?_
  refine s_caload 13 C X d16_12 A_o53 ⟨by decide, by decide⟩ (v := (.int (xsF.getD 2 0))) (own_getX _ _) ?_
  refine s_istore 15 C X (l' := #[rv o53, iv i2, rv o285, iv i2, iv m277, iv i2, .val (.int (xsF.getD 2 0))]) d16_13 rfl ?_
  refine s_iload 17 C X d16_15 rfl ?_
  refine s_sipush 20 C X d16_17 kc_sipush_255 ?_
  refine s_icmp_le 26 23 C X d16_20 (fun c20_291 => ?_) (fun c => absurd c (own_le (own_wk hvW_m277 t_c7_290 rfl rfl)))
  refine s_aloadN 27 C X d16_26 rfl rfl ?_
  refine s_iloadN 28 C X d16_27 rfl ?_
  refine s_iload 30 C X d16_28 rfl ?_
  refine s_i2b 31 C X d16_30 ?_
  refine s_bastore 32 2 C X d16_31 A_o285 g_o285 ⟨by decide, c7_290⟩ rfl (Nat.le_of_ble_eq_true rfl) (fun T hh X W A_o285 => ?_)
  have A_o285 : Arv Z _ o285 k_o285 .byte m277 [(.int (bv (xsF.getD 0 0))), (.int (bv (xsF.getD 1 0))), (.int (nar .byte ((xsF.getD 2 0)).toInt8.toInt32)), (.int i0), (.int i0)] (.int i0) := A_o285
  have A_o53 := A_o53.other W ne_o53_o285
  have Kp := Kp.wr W (Or.inl (by simp))
  have A_o285 : Arv Z _ o285 k_o285 .byte m277 [(.int (bv (xsF.getD 0 0))), (.int (bv (xsF.getD 1 0))), (.int (bv (xsF.getD 2 0))), (.int i0), (.int i0)] (.int i0) := A_o285
  refine s_iinc 35 C X (l' := #[rv o53, iv i3, rv o285, iv i2, iv m277, iv i2, .val (.int (xsF.getD 2 0))]) d16_32 kc_iconst_1 rfl rfl ?_
  refine s_iinc 38 C X (l' := #[rv o53, iv i3, rv o285, iv i3, iv m277, iv i2, .val (.int (xsF.getD 2 0))]) d16_35 kc_iconst_1 rfl rfl ?_
  refine s_iinc 41 C X (l' := #[rv o53, iv i3, rv o285, iv i3, iv m277, iv i3, .val (.int (xsF.getD 2 0))]) d16_38 kc_iconst_1 rfl rfl ?_
  refine s_goto 3 C X d16_41 ?_
  refine s_iload 5 C X d16_3 rfl ?_
  refine s_iload 7 C X d16_5 rfl ?_
  refine s_icmp_ge 44 10 C X d16_7 (fun c7_292 => ?_) (fun c7_292 => ?_)
  · have t_c7_292 := inl c7_292
    refine s_iload 46 C X d16_44 rfl ?_
    refine s_ireturn C X d16_46 rfl ?_ (FG hG (by decide) (by decide))
    obtain ⟨zsF, e_zsF⟩ : ∃ z : List Int32, z = [(bv (xsF.getD 0 0)), (bv (xsF.getD 1 0)), (bv (xsF.getD 2 0)), i0, i0] := ⟨_, rfl⟩
    have hvZ : own_Z 0 xsF m277 zsF := by rw [e_zsF]; exact own_z03 (Int.not_lt.mp t_c7_292)
    have A_o285 : Arv Z hh o285 k_o285 .byte m277 (Y zsF) (.int i0) := by rw [e_zsF]; exact A_o285
    exact hQ _ _ ⟨zsF, rfl, hvZ, A_o285, Kp⟩
  have t_c7_292 := ilt c7_292
  refine s_aloadN 11 C X d16_10 rfl rfl ?_
  refine s_iloadN 12 C X d16_11 rfl ?_
  refine s_caload 13 C X d16_12 A_o53 ⟨by decide, by decide⟩ (v := (.int (xsF.getD 3 0))) (own_getX _ _) ?_
  refine s_istore 15 C X (l' := #[rv o53, iv i3, rv o285, iv i3, iv m277, iv i3, .val (.int (xsF.getD 3 0))]) d16_13 rfl ?_
  refine s_iload 17 C X d16_15 rfl ?_
  refine s_sipush 20 C X d16_17 kc_sipush_255 ?_
  refine s_icmp_le 26 23 C X d16_20 (fun c20_293 => ?_) (fun c => absurd c (own_le (own_wk hvW_m277 t_c7_292 rfl rfl)))
  refine s_aloadN 27 C X d16_26 rfl rfl ?_
  refine s_iloadN 28 C X d16_27 rfl ?_
  refine s_iload 30 C X d16_28 rfl ?_
  refine s_i2b 31 C X d16_30 ?_
  refine s_bastore 32 3 C X d16_31 A_o285 g_o285 ⟨by decide, c7_292⟩ rfl (Nat.le_of_ble_eq_true rfl) (fun T hh X W A_o285 => ?_)
  have A_o285 : Arv Z _ o285 k_o285 .byte m277 [(.int (bv (xsF.getD 0 0))), (.int (bv (xsF.getD 1 0))), (.int (bv (xsF.getD 2 0))), (.int (nar .byte ((xsF.getD 3 0)).toInt8.toInt32)), (.int i0)] (.int i0) := A_o285
  have A_o53 := A_o53.other W ne_o53_o285
  have Kp := Kp.wr W (Or.inl (by simp))
  have A_o285 : Arv Z _ o285 k_o285 .byte m277 [(.int (bv (xsF.getD 0 0))), (.int (bv (xsF.getD 1 0))), (.int (bv (xsF.getD 2 0))), (.int (bv (xsF.getD 3 0))), (.int i0)] (.int i0) := A_o285
  refine s_iinc 35 C X (l' := #[rv o53, iv i4, rv o285, iv i3, iv m277, iv i3, .val (.int (xsF.getD 3 0))]) d16_32 kc_iconst_1 rfl rfl ?_
  refine s_iinc 38 C X (l' := #[rv o53, iv i4, rv o285, iv i4, iv m277, iv i3, .val (.int (xsF.getD 3 0))]) d16_35 kc_iconst_1 rfl rfl ?_
  refine s_iinc 41 C X (l' := #[rv o53, iv i4, rv o285, iv i4, iv m277, iv i4, .val (.int (xsF.getD 3 0))]) d16_38 kc_iconst_1 rfl rfl ?_
  refine s_goto 3 C X d16_41 ?_
  refine s_iload 5 C X d16_3 rfl ?_
  refine s_iload 7 C X d16_5 rfl ?_
  refine s_icmp_ge 44 10 C X d16_7 (fun c7_294 => ?_) (fun c7_294 => ?_)
  · have t_c7_294 := inl c7_294
    refine s_iload 46 C X d16_44 rfl ?_
    refine s_ireturn C X d16_46 rfl ?_ (FG hG (by decide) (by decide))
    obtain ⟨zsF, e_zsF⟩ : ∃ z : List Int32, z = [(bv (xsF.getD 0 0)), (bv (xsF.getD 1 0)), (bv (xsF.getD 2 0)), (bv (xsF.getD 3 0)), i0] := ⟨_, rfl⟩
    have hvZ : own_Z 0 xsF m277 zsF := by rw [e_zsF]; exact own_z04 (Int.not_lt.mp t_c7_294)
    have A_o285 : Arv Z hh o285 k_o285 .byte m277 (Y zsF) (.int i0) := by rw [e_zsF]; exact A_o285
    exact hQ _ _ ⟨zsF, rfl, hvZ, A_o285, Kp⟩
  have t_c7_294 := ilt c7_294
  refine s_aloadN 11 C X d16_10 rfl rfl ?_
  refine s_iloadN 12 C X d16_11 rfl ?_
  refine s_caload 13 C X d16_12 A_o53 ⟨by decide, by decide⟩ (v := (.int (xsF.getD 4 0))) (own_getX _ _) ?_
  refine s_istore 15 C X (l' := #[rv o53, iv i4, rv o285, iv i4, iv m277, iv i4, .val (.int (xsF.getD 4 0))]) d16_13 rfl ?_
  refine s_iload 17 C X d16_15 rfl ?_
  refine s_sipush 20 C X d16_17 kc_sipush_255 ?_
  refine s_icmp_le 26 23 C X d16_20 (fun c20_295 => ?_) (fun c => absurd c (own_le (own_wk hvW_m277 t_c7_294 rfl rfl)))
  refine s_aloadN 27 C X d16_26 rfl rfl ?_
  refine s_iloadN 28 C X d16_27 rfl ?_
  refine s_iload 30 C X d16_28 rfl ?_
  refine s_i2b 31 C X d16_30 ?_
  refine s_bastore 32 4 C X d16_31 A_o285 g_o285 ⟨by decide, c7_294⟩ rfl (Nat.le_of_ble_eq_true rfl) (fun T hh X W A_o285 => ?_)
  have A_o285 : Arv Z _ o285 k_o285 .byte m277 [(.int (bv (xsF.getD 0 0))), (.int (bv (xsF.getD 1 0))), (.int (bv (xsF.getD 2 0))), (.int (bv (xsF.getD 3 0))), (.int (nar .byte ((xsF.getD 4 0)).toInt8.toInt32))] (.int i0) := A_o285
  have Kp := Kp.wr W (Or.inl (by simp))
  have A_o285 : Arv Z _ o285 k_o285 .byte m277 [(.int (bv (xsF.getD 0 0))), (.int (bv (xsF.getD 1 0))), (.int (bv (xsF.getD 2 0))), (.int (bv (xsF.getD 3 0))), (.int (bv (xsF.getD 4 0)))] (.int i0) := A_o285
  refine s_iinc 35 C X (l' := #[rv o53, iv i5, rv o285, iv i4, iv m277, iv i4, .val (.int (xsF.getD 4 0))]) d16_32 kc_iconst_1 rfl rfl ?_
  refine s_iinc 38 C X (l' := #[rv o53, iv i5, rv o285, iv i5, iv m277, iv i4, .val (.int (xsF.getD 4 0))]) d16_35 kc_iconst_1 rfl rfl ?_
  refine s_iinc 41 C X (l' := #[rv o53, iv i5, rv o285, iv i5, iv m277, iv i5, .val (.int (xsF.getD 4 0))]) d16_38 kc_iconst_1 rfl rfl ?_
  refine s_goto 3 C X d16_41 ?_
  refine s_iload 5 C X d16_3 rfl ?_
  refine s_iload 7 C X d16_5 rfl ?_
  refine s_icmp_ge 44 10 C X d16_7 (fun c7_296 => ?_) (fun c => absurd c (own_n5 hvN_m277))
  refine s_iload 46 C X d16_44 rfl ?_
  refine s_ireturn C X d16_46 rfl ?_ (FG hG (by decide) (by decide))
  obtain ⟨zsF, e_zsF⟩ : ∃ z : List Int32, z = [(bv (xsF.getD 0 0)), (bv (xsF.getD 1 0)), (bv (xsF.getD 2 0)), (bv (xsF.getD 3 0)), (bv (xsF.getD 4 0))] := ⟨_, rfl⟩
  have hvZ : own_Z 0 xsF m277 zsF := by rw [e_zsF]; exact own_z05 (own_nn5 hvN_m277)
  have A_o285 : Arv Z hh o285 k_o285 .byte m277 (Y zsF) (.int i0) := by rw [e_zsF]; exact A_o285
  exact hQ _ _ ⟨zsF, rfl, hvZ, A_o285, Kp⟩
theorem rm_a16 (hw : Hw a0 Z) (k_o53 : ClassId) (o53 : Addr) (xsF : List Int32) (m277 : Int32) (h0 : Heap) (n0 : Nat) (Z0 : n0 ≤ h0.size) (A_o53 : Arv Z h0 o53 k_o53 .char i256 (Y xsF) (.int i0)) (hvN_m277 : own_N m277) (hvW_m277 : own_W 0 xsF m277) :
    Met l Z (⟨cU, "compress", "([CII)[B"⟩ : MethodName) jdk_52_method_16_code 6 (some (.array .byte)) (rM 1 1 5 18) [] #[(.ref o53), (.int i0), (.int m277)] h0 n0 (fun v h => ∃ (k_o285 : ClassId) (o285 : Addr) (zsF : List Int32), v = some (.ref o285) ∧ own_Z 0 xsF m277 zsF ∧ Keep h0 h [] ∧ Arv Z h o285 k_o285 .byte m277 (Y zsF) (.int i0) ∧ h0.size ≤ o285 ∧ n0 ≤ o285) := by
  refine Met.mkQ (tabs := tables_1) (a0 := a0) (ls0 := #[rv o53, iv i0, iv m277, un, un, un]) (plainFor_of_name pn_java_lang_StringUTF16) hw Z0 (fun m => by first | (simp [entryFrame, mkF, argsToLocals, Value.category]; done) | rfl) ?_
  intro p e s m below meth c T Q' G' hQ hG C X
  have Kp : Keep h0 h0 [] := Keep.refl _ _
  refine s_iloadN 1 C X d15_0 rfl ?_
  refine s_newarray 3 5 C X d15_1 (mW 34 rfl) (own_nn hvN_m277).1 (own_nn hvN_m277).2 (fun T hh o285 k_o285 hb_o285 X E A_o285 g_o285 => ?_)
  have ne_o53_o285 : o53 ≠ o285 := Nat.ne_of_lt (Nat.lt_of_lt_of_le A_o53.lt (Nat.le_of_eq hb_o285))
  have sz_o285 : h0.size ≤ o285 := Nat.le_trans Kp.1 (Nat.le_of_eq hb_o285)
  have A_o53 := A_o53.ext E
  have Kp := Kp.ext E
  have A_o285 : Arv Z _ o285 k_o285 .byte m277 [(.int i0), (.int i0), (.int i0), (.int i0), (.int i0)] (.int i0) := A_o285.pad (pad_rep [] _ 5)
  refine s_astoreN 4 C X (l' := #[rv o53, iv i0, iv m277, rv o285, un, un]) d15_3 rfl rfl ?_
  refine s_aloadN 5 C X d15_4 rfl rfl ?_
  refine s_iloadN 6 C X d15_5 rfl ?_
  refine s_aloadN 7 C X d15_6 rfl rfl ?_
  refine s_iconst 8 C X d15_7 kc_iconst_0 ?_
  refine s_iloadN 9 C X d15_8 rfl ?_
  refine s_callS 12 [(.ref o53), (.int i0), (.ref o285), (.int i0), (.int m277)] [] 0 C X d15_9 (mW 96 rfl) (mW 97 rfl) (mW 94 rfl) (mW 98 rfl) (rm_a15 l Z a0 hw k_o53 o53 xsF m277 o285 k_o285 _ n0 X.sz A_o53 A_o285 hvN_m277 hvW_m277 ne_o53_o285 g_o285) (lenOf pd___CI_BII_I rfl) rfl rfl rfl (fun T v hh X q => ?_)
  obtain ⟨zsF, rfl, hvZ, A_o285, Kc⟩ := q
  have Kp := Kp.trans Kc (allS (Or.inr sz_o285) all0)
  refine rc (st' := [(.int m277)]) rfl ?_
  refine s_istore 14 C X (l' := #[rv o53, iv i0, iv m277, rv o285, iv m277, un]) d15_12 rfl ?_
  refine s_iload 16 C X d15_14 rfl ?_
  refine s_iloadN 17 C X d15_16 rfl ?_
  refine s_icmp_eq 57 20 C X d15_17 (fun _ => ?_) (fun c => absurd rfl c)
  refine s_aloadN 58 C X d15_57 rfl rfl ?_
  refine s_areturn C X d15_58 rfl rfl rfl ?_ (FG hG (by decide) (by decide))
  exact hQ _ _ ⟨k_o285, o285, zsF, rfl, hvZ, Kp, A_o285, sz_o285, g_o285⟩
theorem rm_a17 (hw : Hw a0 Z) (m277 : Int32) (k_o285 : ClassId) (o285 : Addr) (zsF : List Int32) (h0 : Heap) (n0 : Nat) (Z0 : n0 ≤ h0.size) (A_o285 : Arv Z h0 o285 k_o285 .byte m277 (Y zsF) (.int i0)) :
    Met l Z (⟨cU, "coderFromArrayLen", "([BI)B"⟩ : MethodName) jdk_52_method_15_code 2 (some .byte) (rM 0 0 0 0) [] #[(.ref o285), (.int m277)] h0 n0 (fun v h => v = some (.int i0) ∧ Keep h0 h []) := by
  refine Met.mkQ (tabs := tables_1) (a0 := a0) (ls0 := #[rv o285, iv m277]) (plainFor_of_name pn_java_lang_StringUTF16) hw Z0 (fun m => by first | (simp [entryFrame, mkF, argsToLocals, Value.category]; done) | rfl) ?_
  intro p e s m below meth c T Q' G' hQ hG C X
  have Kp : Keep h0 h0 [] := Keep.refl _ _
  refine s_iloadN 1 C X d17_0 rfl ?_
  refine s_aloadN 2 C X d17_1 rfl rfl ?_
  refine s_arraylength 3 C X d17_2 A_o285 ?_
  refine s_isub 4 C X d17_3 ?_
  refine rc (st' := [(.int i0)]) (by rw [own_sub0]) ?_
  refine s_bipush 6 C X d17_4 kc_bipush_31 ?_
  refine s_iushr 7 C X d17_6 ?_
  refine rc (st' := [(.int i0)]) (by rw [kf_4]) ?_
  refine s_i2b 8 C X d17_7 ?_
  refine rc (st' := [(.int i0)]) (by rw [kf_5]) ?_
  refine s_nreturn C X d17_8 rfl (by simp) rfl ?_ (FG hG (by decide) (by decide))
  exact hQ _ _ ⟨rfl, Kp⟩
theorem rm_a18 (hw : Hw a0 Z) (cs : Int32) (k_o53 : ClassId) (o53 : Addr) (xsF : List Int32) (o276 : Addr) (m277 : Int32) (h0 : Heap) (n0 : Nat) (Z0 : n0 ≤ h0.size) (S_cs : Sta Z Z.heap cS cC "Z" (.int cs)) (A_o53 : Arv Z h0 o53 k_o53 .char i256 (Y xsF) (.int i0)) (E_o276 : Exa Z h0 o276 cS) (F_o276_a : Fld Z h0 o276 cS "value" "[B" .null) (F_o276_k : Fld Z h0 o276 cS "coder" "B" (.int i0)) (Od : Old Z n0 h0) (hv_cs : ¬ cs = i0) (ne_o53_o276 : o53 ≠ o276) (g_o276 : n0 ≤ o276) (hvN_m277 : own_N m277) (hvW_m277 : own_W 0 xsF m277) :
    MetH l Z EL1 [o276] (⟨cS, "<init>", sV⟩ : MethodName) jdk_42_method_149_code 6 none (rM 2 4 8 35) [] #[(.ref o276), (.ref o53), (.int i0), (.int m277), .null] h0 n0 (fun v h => ∃ (bF : Addr) (k_bF : ClassId) (zsF : List Int32), v = none ∧ own_Z 0 xsF m277 zsF ∧ Exa Z h o276 cS ∧ Fld Z h o276 cS "value" "[B" (.ref bF) ∧ Fld Z h o276 cS "coder" "B" (.int i0) ∧ Old Z n0 h ∧ Keep h0 h [o276] ∧ Arv Z h bF k_bF .byte m277 (Y zsF) (.int i0)) := by
  refine MetH.mkQ (tabs := tables_1) (a0 := a0) (ls0 := #[rv o276, rv o53, iv i0, iv m277, .val .null, un]) (plainFor_of_name pn_java_lang_String) hw Z0 (fun m => by first | (simp [entryFrame, mkF, argsToLocals, Value.category]; done) | rfl) ?_
  intro p e s m below meth c T Q' G' vm k1 hQ hG C X hS Rc hso
  have Kp : Keep h0 h0 [o276] := Keep.refl _ _
  have H_o276 : Safe Z EL1 vm h0 o276 := hso _ (by simp)
  refine s_aloadN 1 C X d14_0 rfl rfl ?_
  refine s_objInit 4 C X d14_1 (mW 90 rfl) (mW 12 rfl) (mW 13 rfl) rfl (W := 0) rfl (by decide) (fun T X => ?_)
  refine s_iloadN 5 C X d14_4 rfl ?_
  refine s_if_ne 27 8 C X d14_5 (fun c5_283 => ?_) (fun c5_283 => ?_)
  · have t_c5_283 := ine c5_283
    refine s_getstatic 30 C X (host := "") d14_27 (Or.inl (mW 91 rfl)) Via.refl (S_cs.ext Od.2) (fun T X => ?_)
    refine s_if_eq 58 33 C X d14_30 (fun c => absurd c hv_cs) (fun c30_284 => ?_)
    refine s_aloadN 34 C X d14_33 rfl rfl ?_
    refine s_iloadN 35 C X d14_34 rfl ?_
    refine s_iloadN 36 C X d14_35 rfl ?_
    refine s_callS 39 [(.ref o53), (.int i0), (.int m277)] [] 0 C X d14_36 (mW 92 rfl) (mW 93 rfl) (mW 94 rfl) (mW 95 rfl) (rm_a16 l Z a0 hw k_o53 o53 xsF m277 _ n0 X.sz A_o53 hvN_m277 hvW_m277) (lenOf pd___CII__B rfl) rfl rfl rfl (fun T v hh X q => ?_)
    obtain ⟨k_o285, o285, zsF, rfl, hvZ, Kc, A_o285, sz_o285', g_o285⟩ := q
    have ne_o276_o285 : o276 ≠ o285 := Nat.ne_of_lt (Nat.lt_of_lt_of_le E_o276.lt sz_o285')
    have H_o276 := Safe.keep Kc so0 Rc.1.1 H_o276
    have Rc := Rc.keep Kc so0
    have E_o276 := E_o276.keep Kc
    have F_o276_a := F_o276_a.keep Kc nin0
    have F_o276_k := F_o276_k.keep Kc nin0
    have Od := Od.keep Kc all0
    have Kp := Kp.trans Kc all0
    refine rc (st' := [(.ref o285)]) rfl ?_
    refine s_astore 41 C X (l' := #[rv o276, rv o53, iv i0, iv m277, .val .null, rv o285]) d14_39 rfl rfl ?_
    refine s_aloadN 42 C X d14_41 rfl rfl ?_
    refine s_aload 44 C X d14_42 rfl rfl ?_
    refine s_iloadN 45 C X d14_44 rfl ?_
    refine s_callS 48 [(.ref o285), (.int m277)] [(.ref o276)] 1 C X d14_45 (mW 99 rfl) (mW 100 rfl) (mW 94 rfl) (mW 101 rfl) (rm_a17 l Z a0 hw m277 k_o285 o285 zsF _ n0 X.sz A_o285) (lenOf pd___BI_B rfl) rfl rfl rfl (fun T v hh X q => ?_)
    obtain ⟨rfl, Kc⟩ := q
    have H_o276 := Safe.keep Kc so0 Rc.1.1 H_o276
    have Rc := Rc.keep Kc so0
    have E_o276 := E_o276.keep Kc
    have F_o276_a := F_o276_a.keep Kc nin0
    have F_o276_k := F_o276_k.keep Kc nin0
    have Od := Od.keep Kc all0
    have Kp := Kp.trans Kc all0
    have A_o285 := A_o285.keep Kc nin0
    refine rc (st' := [(.int i0), (.ref o276)]) rfl ?_
    refine s_putfieldN 51 C X d14_48 (mW 102 rfl) Via.refl F_o276_k E_o276 (Or.inr ⟨(mW 36 rfl), rfl, rfl⟩) (mW 33 rfl) (ty := .byte) (by decide) rfl rfl g_o276 (fun T hh X W => ?_)
    have Sf : Safe Z EL1 vm _ o276 := H_o276
    have H_o276 := Safe.wr W Sf Rc.1.1 H_o276
    have Rc := Rc.wr W Sf
    have E_o276 := E_o276.wr W
    have F_o276_a := oth F_o276_a W (Or.inr (hw _ (mW 35 rfl))) (Or.inr (hw _ (mW 36 rfl))) (by decide)
    have F_o276_k := F_o276_k.same W
    have Od := Od.wr W g_o276
    have Kp := Kp.wr W (Or.inl (by simp))
    have A_o285 := A_o285.other W (Ne.symm ne_o276_o285)
    refine s_aloadN 52 C X d14_51 rfl rfl ?_
    refine s_aload 54 C X d14_52 rfl rfl ?_
    refine s_putfield 57 C X (host := "") d14_54 (Or.inl (mW 103 rfl)) Via.refl F_o276_a E_o276 (Or.inr ⟨(mW 35 rfl), rfl, rfl⟩) (mW 33 rfl) (ty := (.array .byte)) (by decide) rfl rfl g_o276 (fun T hh X W => ?_)
    have Sf : Safe Z EL1 vm _ o276 := H_o276
    have Rc := Rc.wr W Sf
    have E_o276 := E_o276.wr W
    have F_o276_a := F_o276_a.same W
    have F_o276_k := oth F_o276_k W (Or.inr (hw _ (mW 36 rfl))) (Or.inr (hw _ (mW 35 rfl))) (by decide)
    have Od := Od.wr W g_o276
    have Kp := Kp.wr W (Or.inl (by simp))
    have A_o285 := A_o285.other W (Ne.symm ne_o276_o285)
    refine s_return C X d14_57 rfl ?_ (FGH hG hS Rc C (own_EL hw))
    obtain ⟨bF, e_bF⟩ : ∃ z : Addr, z = o285 := ⟨_, rfl⟩
    obtain ⟨k_bF, e_k⟩ : ∃ z : ClassId, z = k_o285 := ⟨_, rfl⟩
    rw [← e_bF] at F_o276_a
    obtain ⟨zsF, e_zsF⟩ : ∃ z : List Int32, z = zsF := ⟨_, rfl⟩
    have hvZ : own_Z 0 xsF m277 zsF := by rw [e_zsF]; exact hvZ
    have A_bF : Arv Z hh bF k_bF .byte m277 (Y zsF) (.int i0) := by rw [e_bF, e_k, e_zsF]; exact A_o285
    exact hQ _ _ ⟨bF, k_bF, zsF, rfl, hvZ, E_o276, F_o276_a, F_o276_k, Od, Kp, A_bF⟩
  have t_c5_283 := ieq c5_283
  refine s_aloadN 9 C X d14_8 rfl rfl ?_
  refine s_ldcH 11 0 C X hS Rc.2 (own_EL hw) Rc.1.1 d14_9 (mW 156 rfl) (own_wS hw) (vs := []) (z := i0) (by decide) ⟨by decide, rfl⟩ (by decide) rfl (fun T hh t301 b302 k_b302 vm k1 C X E hS Nk Rn E_t301 F_t301_k F_t301_a A_b302 nS => ?_)
  have H_o276 := Rn.safe E_o276.lt H_o276
  have Rc := Rc.call Rn Nk
  have E_o276 := E_o276.ext E
  have F_o276_a := F_o276_a.ext E
  have F_o276_k := F_o276_k.ext E
  have Od := Od.ext E
  have Kp := Kp.ext E
  have ne_o276_b302 : o276 ≠ b302 := (nS o276 H_o276).2
  refine s_getfield 14 C X (host := "") d14_11 (Or.inl (mW 103 rfl)) Via.refl F_t301_a (fun T X => ?_)
  refine s_putfield 17 C X (host := "") d14_14 (Or.inl (mW 103 rfl)) Via.refl F_o276_a E_o276 (Or.inr ⟨(mW 35 rfl), rfl, rfl⟩) (mW 33 rfl) (ty := (.array .byte)) (by decide) rfl rfl g_o276 (fun T hh X W => ?_)
  have Sf : Safe Z EL1 vm _ o276 := H_o276
  have H_o276 := Safe.wr W Sf Rc.1.1 H_o276
  have Rc := Rc.wr W Sf
  have E_o276 := E_o276.wr W
  have F_o276_a := F_o276_a.same W
  have F_o276_k := oth F_o276_k W (Or.inr (hw _ (mW 36 rfl))) (Or.inr (hw _ (mW 35 rfl))) (by decide)
  have Od := Od.wr W g_o276
  have Kp := Kp.wr W (Or.inl (by simp))
  have A_b302 := A_b302.other W (Ne.symm ne_o276_b302)
  refine s_aloadN 18 C X d14_17 rfl rfl ?_
  refine s_ldcH 20 0 C X hS Rc.2 (own_EL hw) Rc.1.1 d14_18 (mW 156 rfl) (own_wS hw) (vs := []) (z := i0) (by decide) ⟨by decide, rfl⟩ (by decide) rfl (fun T hh t303 b304 k_b304 vm k1 C X E hS Nk Rn E_t303 F_t303_k F_t303_a A_b304 nS => ?_)
  have H_o276 := Rn.safe E_o276.lt H_o276
  have Rc := Rc.call Rn Nk
  have E_o276 := E_o276.ext E
  have F_o276_a := F_o276_a.ext E
  have F_o276_k := F_o276_k.ext E
  have Od := Od.ext E
  have Kp := Kp.ext E
  have A_b302 := A_b302.ext E
  refine s_getfield 23 C X (host := "") d14_20 (Or.inl (mW 102 rfl)) Via.refl F_t303_k (fun T X => ?_)
  refine s_putfieldN 26 C X d14_23 (mW 102 rfl) Via.refl F_o276_k E_o276 (Or.inr ⟨(mW 36 rfl), rfl, rfl⟩) (mW 33 rfl) (ty := .byte) (by decide) rfl rfl g_o276 (fun T hh X W => ?_)
  have Sf : Safe Z EL1 vm _ o276 := H_o276
  have Rc := Rc.wr W Sf
  have E_o276 := E_o276.wr W
  have F_o276_a := oth F_o276_a W (Or.inr (hw _ (mW 35 rfl))) (Or.inr (hw _ (mW 36 rfl))) (by decide)
  have F_o276_k := F_o276_k.same W
  have Od := Od.wr W g_o276
  have Kp := Kp.wr W (Or.inl (by simp))
  have A_b302 := A_b302.other W (Ne.symm ne_o276_b302)
  refine s_return C X d14_26 rfl ?_ (FGH hG hS Rc C (own_EL hw))
  obtain ⟨bF, e_bF⟩ : ∃ z : Addr, z = b302 := ⟨_, rfl⟩
  obtain ⟨k_bF, e_k⟩ : ∃ z : ClassId, z = k_b302 := ⟨_, rfl⟩
  rw [← e_bF] at F_o276_a
  obtain ⟨zsF, e_zsF⟩ : ∃ z : List Int32, z = [0, 0, 0, 0, 0] := ⟨_, rfl⟩
  have hvZ : own_Z 0 xsF m277 zsF := by rw [e_zsF]; exact own_z00 (Int.le_of_eq t_c5_283)
  have A_bF : Arv Z hh bF k_bF .byte m277 (Y zsF) (.int i0) := by rw [e_bF, e_k, e_zsF, own_0 t_c5_283]; exact A_b302.pad (pad_rep [] _ 5)
  exact hQ _ _ ⟨bF, k_bF, zsF, rfl, hvZ, E_o276, F_o276_a, F_o276_k, Od, Kp, A_bF⟩
theorem rm_a19 (hw : Hw a0 Z) (cs : Int32) (fm : Value) (k_o53 : ClassId) (o53 : Addr) (xsF : List Int32) (o276 : Addr) (m277 : Int32) (h0 : Heap) (n0 : Nat) (Z0 : n0 ≤ h0.size) (Od : Old Z n0 h0) (S_cs : Sta Z Z.heap cS cC "Z" (.int cs)) (S_fm : Sta Z Z.heap cP cM cF fm) (A_o53 : Arv Z h0 o53 k_o53 .char i256 (Y xsF) (.int i0)) (E_o276 : Exa Z h0 o276 cS) (F_o276_a : Fld Z h0 o276 cS "value" "[B" .null) (F_o276_k : Fld Z h0 o276 cS "coder" "B" (.int i0)) (hv_cs : ¬ cs = i0) (hv_fm : fm.isRef = true) (ne_o53_o276 : o53 ≠ o276) (g_o276 : n0 ≤ o276) (hvN_m277 : own_N m277) (hvW_m277 : own_W 0 xsF m277) :
    MetH l Z EL1 [o276] (⟨cS, "<init>", "([CII)V"⟩ : MethodName) jdk_42_method_4_code 4 none (rM 3 4 8 52) [] #[(.ref o276), (.ref o53), (.int i0), (.int m277)] h0 n0 (fun v h => ∃ (bF : Addr) (k_bF : ClassId) (zsF : List Int32), v = none ∧ own_Z 0 xsF m277 zsF ∧ Keep h0 h [o276] ∧ Exa Z h o276 cS ∧ Fld Z h o276 cS "value" "[B" (.ref bF) ∧ Fld Z h o276 cS "coder" "B" (.int i0) ∧ Old Z n0 h ∧ Arv Z h bF k_bF .byte m277 (Y zsF) (.int i0)) := by
  refine MetH.mkQ (tabs := tables_1) (a0 := a0) (ls0 := #[rv o276, rv o53, iv i0, iv m277]) (plainFor_of_name pn_java_lang_String) hw Z0 (fun m => by first | (simp [entryFrame, mkF, argsToLocals, Value.category]; done) | rfl) ?_
  intro p e s m below meth c T Q' G' vm k1 hQ hG C X hS Rc hso
  have Kp : Keep h0 h0 [o276] := Keep.refl _ _
  have H_o276 : Safe Z EL1 vm h0 o276 := hso _ (by simp)
  refine s_aloadN 1 C X d10_0 rfl rfl ?_
  refine s_aloadN 2 C X d10_1 rfl rfl ?_
  refine s_iloadN 3 C X d10_2 rfl ?_
  refine s_iloadN 4 C X d10_3 rfl ?_
  refine s_aloadN 5 C X d10_4 rfl rfl ?_
  refine s_iloadN 6 C X d10_5 rfl ?_
  refine s_iloadN 7 C X d10_6 rfl ?_
  refine s_callS 10 [(.ref o53), (.int i0), (.int m277)] [(.int m277), (.int i0), (.ref o53), (.ref o276)] 4 C X d10_7 (mW 76 rfl) (mW 77 rfl) (mW 32 rfl) (mW 78 rfl) (rm_a14 l Z a0 hw fm k_o53 o53 xsF m277 _ n0 X.sz Od S_fm A_o53 hv_fm hvN_m277) (lenOf pd___CII_Ljava_lang_Void_ rfl) rfl rfl rfl (fun T v hh X q => ?_)
  obtain ⟨rfl, Kc, Od⟩ := q
  have H_o276 := Safe.keep Kc so0 Rc.1.1 H_o276
  have Rc := Rc.keep Kc so0
  have A_o53 := A_o53.keep Kc nin0
  have E_o276 := E_o276.keep Kc
  have F_o276_a := F_o276_a.keep Kc nin0
  have F_o276_k := F_o276_k.keep Kc nin0
  have Kp := Kp.trans Kc all0
  refine rc (st' := [.null, (.int m277), (.int i0), (.ref o53), (.ref o276)]) rfl ?_
  refine s_hcallC 13 [(.ref o53), (.int i0), (.int m277), .null] [] 0 C X hS Rc.2 (own_EL hw) Rc.1.1 d10_10 rfl (mW 87 rfl) (mW 88 rfl) (mW 32 rfl) (mW 89 rfl) (rm_a18 l Z a0 hw cs k_o53 o53 xsF o276 m277 _ n0 X.sz S_cs A_o53 E_o276 F_o276_a F_o276_k Od hv_cs ne_o53_o276 g_o276 hvN_m277 hvW_m277) (lenOf pd___CIILjava_lang_Void__V rfl) rfl rfl rfl (soS ⟨E_o276.lt, H_o276⟩ so0) (fun T v hh vm k1 C X hS Nk Rn q => ?_)
  obtain ⟨bF, k_bF, zsF, rfl, hvZ, E_o276, F_o276_a, F_o276_k, Od, Kc, A_bF⟩ := q
  have Rc := Rc.call Rn Nk
  have Kp := Kp.trans Kc (allS (Or.inl (by simp)) all0)
  refine rc (st' := []) rfl ?_
  refine s_return C X d10_13 rfl ?_ (FGH hG hS Rc C (own_EL hw))
  exact hQ _ _ ⟨bF, k_bF, zsF, rfl, hvZ, Kp, E_o276, F_o276_a, F_o276_k, Od, A_bF⟩
theorem rm_a20 (hw : Hw a0 Z) (cs : Int32) (fm : Value) (yF : Int32) (yF_5 : Int32) (yF_9 : Int32) (yF_13 : Int32) (yF_17 : Int32) (nv27 : Int32) (o46 : Addr) (k_o51 : ClassId) (k_o52 : ClassId) (k_o53 : ClassId) (o51 : Addr) (o52 : Addr) (o53 : Addr) (tF : Int32) (xsF : List Int32) (h0 : Heap) (n0 : Nat) (Z0 : n0 ≤ h0.size) (Od : Old Z n0 h0) (S_cs : Sta Z Z.heap cS cC "Z" (.int cs)) (S_fm : Sta Z Z.heap cP cM cF fm) (A_o52 : Arv Z h0 o52 k_o52 (.object cS) i8 [.null, .null, .null, .null, .null, .null, .null, .null] .null) (F_o46_s : Fld Z h0 o46 cE fs "[I" (.ref o51)) (F_o46_g : Fld Z h0 o46 cE fg cG (.ref o52)) (F_o46_v : Fld Z h0 o46 cE fv "[C" (.ref o53)) (A_o51 : Arv Z h0 o51 k_o51 .int i9 [(.int i0), (.int tF), (.int i0), (.int i0), (.int i0), (.int i0), (.int i0), (.int i0), (.int i0)] (.int i0)) (A_o53 : Arv Z h0 o53 k_o53 .char i256 (Y xsF) (.int i0)) (hv_cs : ¬ cs = i0) (hv_fm : fm.isRef = true) (hvB : own_B yF) (hvB_6 : own_B yF_5) (hvB_10 : own_B yF_9) (hvB_14 : own_B yF_13) (hvB_18 : own_B yF_17) (g_o52 : n0 ≤ o52) (ne_o46_o52 : o46 ≠ o52) (ne_o51_o52 : o51 ≠ o52) (ne_o52_o53 : o52 ≠ o53) (O_o52 : Ovr Z k_o52 cS) (hvC : own_C 0 [] [yF, yF_5, yF_9, yF_13, yF_17] nv27 xsF tF) :
    MetH l Z EL1 [] (⟨cE, "value", "(I)Ljava/lang/String;"⟩ : MethodName) prog_35_method_7_code 2 (some (.object cS)) (rM 4 5 12 70) [] #[(.ref o46), (.int i0)] h0 n0 (fun v h => ∃ (bF : Addr) (k_bF : ClassId) (m277 : Int32) (o276 : Addr) (zsF : List Int32), v = some (.ref o276) ∧ m277.toInt = (col [yF, yF_5, yF_9, yF_13, yF_17] nv27.toNatClampNeg).length ∧ own_Z 0 xsF m277 zsF ∧ Arv Z h o52 k_o52 (.object cS) i8 [(.ref o276), .null, .null, .null, .null, .null, .null, .null] .null ∧ Keep h0 h [o52] ∧ Exa Z h o276 cS ∧ Fld Z h o276 cS "value" "[B" (.ref bF) ∧ Fld Z h o276 cS "coder" "B" (.int i0) ∧ Old Z n0 h ∧ Arv Z h bF k_bF .byte m277 (Y zsF) (.int i0) ∧ o52 ≠ o276 ∧ h0.size ≤ o276 ∧ n0 ≤ o276 ∧ bF ≠ o52) := by
  refine MetH.mkQ (tabs := tables_1) (a0 := a0) (ls0 := #[rv o46, iv i0]) (plainFor_of_name pn_com_example_medis_medis_engine_ElementAttributes) hw Z0 (fun m => by first | (simp [entryFrame, mkF, argsToLocals, Value.category]; done) | rfl) ?_
  intro p e s m below meth c T Q' G' vm k1 hQ hG C X hS Rc hso
  have Kp : Keep h0 h0 [o52] := Keep.refl _ _
  refine s_aloadN 1 C X d9_0 rfl rfl ?_
  refine s_getfield 4 C X (host := "") d9_1 (Or.inl (mW 27 rfl)) Via.refl F_o46_g (fun T X => ?_)
  refine s_iloadN 5 C X d9_4 rfl ?_
  refine s_aaload 6 C X d9_5 A_o52 rfl ⟨by decide, by decide⟩ (v := .null) rfl ?_
  refine s_ifnonnullN 9 C X d9_6 ?_
  refine s_aloadN 10 C X d9_9 rfl rfl ?_
  refine s_getfield 13 C X (host := "") d9_10 (Or.inl (mW 27 rfl)) Via.refl F_o46_g (fun T X => ?_)
  refine s_iloadN 14 C X d9_13 rfl ?_
  refine s_new 17 C X d9_14 (mW 14 rfl) (mW 33 rfl) (mW 32 rfl) (fun T hh o276 hb_o276 X E E_o276 D g_o276 => ?_)
  have H_o276 : Safe Z EL1 vm _ o276 := Safe.ext E Rc.1.1 (Safe.new (Nat.le_of_eq hb_o276))
  have Rc := Rc.ext E
  have ne_o52_o276 : o52 ≠ o276 := Nat.ne_of_lt (Nat.lt_of_lt_of_le A_o52.lt (Nat.le_of_eq hb_o276))
  have ne_o46_o276 : o46 ≠ o276 := Nat.ne_of_lt (Nat.lt_of_lt_of_le F_o46_s.lt (Nat.le_of_eq hb_o276))
  have ne_o53_o276 : o53 ≠ o276 := Nat.ne_of_lt (Nat.lt_of_lt_of_le A_o53.lt (Nat.le_of_eq hb_o276))
  have sz_o276 : h0.size ≤ o276 := Nat.le_trans Kp.1 (Nat.le_of_eq hb_o276)
  have Od := Od.ext E
  have A_o52 := A_o52.ext E
  have F_o46_s := F_o46_s.ext E
  have F_o46_g := F_o46_g.ext E
  have F_o46_v := F_o46_v.ext E
  have A_o51 := A_o51.ext E
  have A_o53 := A_o53.ext E
  have Kp := Kp.ext E
  have F_o276_a : Fld Z _ o276 cS "value" "[B" .null := D (Or.inr (hw _ (mW 35 rfl))) (ty := (.array .byte)) (by decide)
  have F_o276_k : Fld Z _ o276 cS "coder" "B" (.int i0) := D (Or.inr (hw _ (mW 36 rfl))) (ty := .byte) (by decide)
  refine s_dup 18 C X d9_17 rfl ?_
  refine s_aloadN 19 C X d9_18 rfl rfl ?_
  refine s_getfield 22 C X (host := "") d9_19 (Or.inl (mW 29 rfl)) Via.refl F_o46_v (fun T X => ?_)
  refine s_aloadN 23 C X d9_22 rfl rfl ?_
  refine s_getfield 26 C X (host := "") d9_23 (Or.inl (mW 25 rfl)) Via.refl F_o46_s (fun T X => ?_)
  refine s_iloadN 27 C X d9_26 rfl ?_
  refine s_iaload 28 C X d9_27 A_o51 ⟨by decide, by decide⟩ (v := (.int i0)) rfl ?_
  refine s_aloadN 29 C X d9_28 rfl rfl ?_
  refine s_getfield 32 C X (host := "") d9_29 (Or.inl (mW 25 rfl)) Via.refl F_o46_s (fun T X => ?_)
  refine s_iloadN 33 C X d9_32 rfl ?_
  refine s_iconst 34 C X d9_33 kc_iconst_1 ?_
  refine s_iadd 35 C X d9_34 ?_
  refine rc (st' := [(.int i1), (.ref o51), (.int i0), (.ref o53), (.ref o276), (.ref o276), (.int i0), (.ref o52)]) (by rw [kf_0]) ?_
  refine s_iaload 36 C X d9_35 A_o51 ⟨by decide, by decide⟩ (v := (.int tF)) rfl ?_
  refine s_aloadN 37 C X d9_36 rfl rfl ?_
  refine s_getfield 40 C X (host := "") d9_37 (Or.inl (mW 25 rfl)) Via.refl F_o46_s (fun T X => ?_)
  refine s_iloadN 41 C X d9_40 rfl ?_
  refine s_iaload 42 C X d9_41 A_o51 ⟨by decide, by decide⟩ (v := (.int i0)) rfl ?_
  refine s_isub 43 C X d9_42 ?_
  refine rc (st' := [(.int tF), (.int i0), (.ref o53), (.ref o276), (.ref o276), (.int i0), (.ref o52)]) (by rw [Int32.sub_zero]) ?_
  obtain ⟨m277, e_m277⟩ : ∃ zz_ : Int32, zz_ = tF := ⟨_, rfl⟩
  refine rc (st' := [(.int m277), (.int i0), (.ref o53), (.ref o276), (.ref o276), (.int i0), (.ref o52)]) (by subst e_m277; rfl) ?_
  have qm := own_m0 hvC e_m277 (own_B5 hvB hvB_6 hvB_10 hvB_14 hvB_18)
  have hvN_m277 : own_N m277 := qm.1
  have hvW_m277 : own_W 0 xsF m277 := qm.2.1
  have hvL : m277.toInt = (col [yF, yF_5, yF_9, yF_13, yF_17] nv27.toNatClampNeg).length := qm.2.2
  refine s_hcallC 46 [(.ref o53), (.int i0), (.int m277)] [(.ref o276), (.int i0), (.ref o52)] 3 C X hS Rc.2 (own_EL hw) Rc.1.1 d9_43 rfl (mW 73 rfl) (mW 74 rfl) (mW 32 rfl) (mW 75 rfl) (rm_a19 l Z a0 hw cs fm k_o53 o53 xsF o276 m277 _ n0 X.sz Od S_cs S_fm A_o53 E_o276 F_o276_a F_o276_k hv_cs hv_fm ne_o53_o276 g_o276 hvN_m277 hvW_m277) (lenOf pd___CII_V rfl) rfl rfl rfl (soS ⟨E_o276.lt, H_o276⟩ so0) (fun T v hh vm k1 C X hS Nk Rn q => ?_)
  obtain ⟨bF, k_bF, zsF, rfl, hvZ, Kc, E_o276, F_o276_a, F_o276_k, Od, A_bF⟩ := q
  have Rc := Rc.call Rn Nk
  have A_o52 := A_o52.keep Kc (ninS ne_o52_o276 nin0)
  have F_o46_g := F_o46_g.keep Kc (ninS ne_o46_o276 nin0)
  have Kp := Kp.trans Kc (allS (Or.inr sz_o276) all0)
  refine rc (st' := [(.ref o276), (.int i0), (.ref o52)]) rfl ?_
  have ne_bF_o52 : bF ≠ o52 := own_ane A_bF A_o52 (by decide)
  have Sf : Safe Z EL1 vm _ o52 := (Safe.arv C.2.1.alike A_o52 (by decide))
  refine s_aastore 47 0 C X d9_46 A_o52 rfl rfl (fun _ A q => Sto.ofV A q O_o52 (Ins.self E_o276)) g_o52 ⟨by decide, by decide⟩ rfl (Nat.le_of_ble_eq_true rfl) (fun T hh X W A_o52 => ?_)
  have A_o52 : Arv Z _ o52 k_o52 (.object cS) i8 [(.ref o276), .null, .null, .null, .null, .null, .null, .null] .null := A_o52
  have Rc := Rc.wr W Sf
  have F_o46_g := F_o46_g.other W (Or.inl ne_o46_o52)
  have Kp := Kp.wr W (Or.inl (by simp))
  have E_o276 := E_o276.wr W
  have F_o276_a := F_o276_a.other W (Or.inl (Ne.symm ne_o52_o276))
  have F_o276_k := F_o276_k.other W (Or.inl (Ne.symm ne_o52_o276))
  have Od := Od.wr W g_o52
  have A_bF := A_bF.other W ne_bF_o52
  refine s_aloadN 48 C X d9_47 rfl rfl ?_
  refine s_getfield 51 C X (host := "") d9_48 (Or.inl (mW 27 rfl)) Via.refl F_o46_g (fun T X => ?_)
  refine s_iloadN 52 C X d9_51 rfl ?_
  refine s_aaload 53 C X d9_52 A_o52 rfl ⟨by decide, by decide⟩ (v := (.ref o276)) rfl ?_
  refine s_areturn C X d9_53 rfl rfl rfl ?_ (FGH hG hS Rc C (own_EL hw))
  exact hQ _ _ ⟨bF, k_bF, m277, o276, zsF, rfl, hvL, hvZ, A_o52, Kp, E_o276, F_o276_a, F_o276_k, Od, A_bF, ne_o52_o276, sz_o276, g_o276, ne_bF_o52⟩
theorem rm_a21 (hw : Hw a0 Z) (o46 : Addr) (h0 : Heap) (n0 : Nat) (Z0 : n0 ≤ h0.size) (F_o46_n : Fld Z h0 o46 cE "length" "I" (.int i1)) :
    Met l Z (⟨cE, "length", "()I"⟩ : MethodName) prog_35_method_2_code 1 (some .int) (rM 0 0 0 0) [] #[(.ref o46)] h0 n0 (fun v h => v = some (.int i1) ∧ Keep h0 h []) := by
  refine Met.mkQ (tabs := tables_1) (a0 := a0) (ls0 := #[rv o46]) (plainFor_of_name pn_com_example_medis_medis_engine_ElementAttributes) hw Z0 (fun m => by first | (simp [entryFrame, mkF, argsToLocals, Value.category]; done) | rfl) ?_
  intro p e s m below meth c T Q' G' hQ hG C X
  have Kp : Keep h0 h0 [] := Keep.refl _ _
  refine s_aloadN 1 C X d18_0 rfl rfl ?_
  refine s_getfield 4 C X (host := "") d18_1 (Or.inl (mW 44 rfl)) Via.refl F_o46_n (fun T X => ?_)
  refine s_ireturn C X d18_4 rfl ?_ (FG hG (by decide) (by decide))
  exact hQ _ _ ⟨rfl, Kp⟩
theorem rm_a22 (hw : Hw a0 Z) (cs : Int32) (o276 : Addr) (h0 : Heap) (n0 : Nat) (Z0 : n0 ≤ h0.size) (S_cs : Sta Z Z.heap cS cC "Z" (.int cs)) (F_o276_k : Fld Z h0 o276 cS "coder" "B" (.int i0)) (Od : Old Z n0 h0) (hv_cs : ¬ cs = i0) :
    Met l Z (⟨cS, "coder", "()B"⟩ : MethodName) jdk_42_method_152_code 1 (some .byte) (rM 0 0 0 0) [] #[(.ref o276)] h0 n0 (fun v h => v = some (.int i0) ∧ Old Z n0 h ∧ Keep h0 h []) := by
  refine Met.mkQ (tabs := tables_1) (a0 := a0) (ls0 := #[rv o276]) (plainFor_of_name pn_java_lang_String) hw Z0 (fun m => by first | (simp [entryFrame, mkF, argsToLocals, Value.category]; done) | rfl) ?_
  intro p e s m below meth c T Q' G' hQ hG C X
  have Kp : Keep h0 h0 [] := Keep.refl _ _
  refine s_getstatic 3 C X (host := "") d20_0 (Or.inl (mW 91 rfl)) Via.refl (S_cs.ext Od.2) (fun T X => ?_)
  refine s_if_eq 13 6 C X d20_3 (fun c => absurd c hv_cs) (fun c3_310 => ?_)
  refine s_aloadN 7 C X d20_6 rfl rfl ?_
  refine s_getfield 10 C X (host := "") d20_7 (Or.inl (mW 102 rfl)) Via.refl F_o276_k (fun T X => ?_)
  refine s_goto 14 C X d20_10 ?_
  refine s_nreturn C X d20_14 rfl (by simp) rfl ?_ (FG hG (by decide) (by decide))
  exact hQ _ _ ⟨rfl, Od, Kp⟩
theorem rm_a23 (hw : Hw a0 Z) (cs : Int32) (bF : Addr) (k_bF : ClassId) (m277 : Int32) (o276 : Addr) (zsF : List Int32) (h0 : Heap) (n0 : Nat) (Z0 : n0 ≤ h0.size) (S_cs : Sta Z Z.heap cS cC "Z" (.int cs)) (E_o276 : Exa Z h0 o276 cS) (F_o276_a : Fld Z h0 o276 cS "value" "[B" (.ref bF)) (F_o276_k : Fld Z h0 o276 cS "coder" "B" (.int i0)) (Od : Old Z n0 h0) (A_bF : Arv Z h0 bF k_bF .byte m277 (Y zsF) (.int i0)) (hv_cs : ¬ cs = i0) :
    Met l Z (⟨cS, "length", "()I"⟩ : MethodName) jdk_42_method_54_code 1 (some .int) (rM 1 0 0 13) [] #[(.ref o276)] h0 n0 (fun v h => v = some (.int m277) ∧ Keep h0 h [] ∧ Old Z n0 h) := by
  refine Met.mkQ (tabs := tables_1) (a0 := a0) (ls0 := #[rv o276]) (plainFor_of_name pn_java_lang_String) hw Z0 (fun m => by first | (simp [entryFrame, mkF, argsToLocals, Value.category]; done) | rfl) ?_
  intro p e s m below meth c T Q' G' hQ hG C X
  have Kp : Keep h0 h0 [] := Keep.refl _ _
  refine s_aloadN 1 C X d19_0 rfl rfl ?_
  refine s_getfield 4 C X (host := "") d19_1 (Or.inl (mW 103 rfl)) Via.refl F_o276_a (fun T X => ?_)
  refine s_arraylength 5 C X d19_4 A_bF ?_
  refine s_aloadN 6 C X d19_5 rfl rfl ?_
  refine s_callV 9 [] [(.int m277)] 1 C X d19_6 (mW 114 rfl) (mW 115 rfl) (nF C (mW 117 rfl)) (mW 117 rfl) (mW 116 rfl) (mW 32 rfl) (mW 118 rfl) E_o276 (rm_a22 l Z a0 hw cs o276 _ n0 X.sz S_cs F_o276_k Od hv_cs) (lenOf pd___B rfl) rfl rfl rfl (fun T v hh X q => ?_)
  obtain ⟨rfl, Od, Kc⟩ := q
  have Kp := Kp.trans Kc all0
  refine rc (st' := [(.int i0), (.int m277)]) rfl ?_
  refine s_ishr 10 C X d19_9 ?_
  refine rc (st' := [(.int m277)]) (by rw [own_shr0]) ?_
  refine s_ireturn C X d19_10 rfl ?_ (FG hG (by decide) (by decide))
  exact hQ _ _ ⟨rfl, Kp, Od⟩
theorem rm_a24 (hw : Hw a0 Z) (cs : Int32) (o276 : Addr) (h0 : Heap) (n0 : Nat) (Z0 : n0 ≤ h0.size) (S_cs : Sta Z Z.heap cS cC "Z" (.int cs)) (F_o276_k : Fld Z h0 o276 cS "coder" "B" (.int i0)) (Od : Old Z n0 h0) (hv_cs : ¬ cs = i0) :
    Met l Z (⟨cS, "isLatin1", "()Z"⟩ : MethodName) jdk_42_method_154_code 1 (some .boolean) (rM 0 0 0 0) [] #[(.ref o276)] h0 n0 (fun v h => v = some (.int i1) ∧ Old Z n0 h ∧ Keep h0 h []) := by
  refine Met.mkQ (tabs := tables_1) (a0 := a0) (ls0 := #[rv o276]) (plainFor_of_name pn_java_lang_String) hw Z0 (fun m => by first | (simp [entryFrame, mkF, argsToLocals, Value.category]; done) | rfl) ?_
  intro p e s m below meth c T Q' G' hQ hG C X
  have Kp : Keep h0 h0 [] := Keep.refl _ _
  refine s_getstatic 3 C X (host := "") d23_0 (Or.inl (mW 91 rfl)) Via.refl (S_cs.ext Od.2) (fun T X => ?_)
  refine s_if_eq 17 6 C X d23_3 (fun c => absurd c hv_cs) (fun c3_324 => ?_)
  refine s_aloadN 7 C X d23_6 rfl rfl ?_
  refine s_getfield 10 C X (host := "") d23_7 (Or.inl (mW 102 rfl)) Via.refl F_o276_k (fun T X => ?_)
  refine s_if_ne 17 13 C X d23_10 (fun c => absurd (by decide : i0 = i0) c) (fun _ => ?_)
  refine s_iconst 14 C X d23_13 kc_iconst_1 ?_
  refine s_goto 18 C X d23_14 ?_
  refine s_nreturn C X d23_18 rfl (by simp) rfl ?_ (FG hG (by decide) (by decide))
  exact hQ _ _ ⟨rfl, Od, Kp⟩
theorem rm_a25 (hw : Hw a0 Z) (fm : Value) (m277 : Int32) (ix321 : Int32) (h0 : Heap) (n0 : Nat) (Z0 : n0 ≤ h0.size) (hv_fm : fm.isRef = true) (hvx_ix321 : own_X5 ix321) (hvi_323 : ix321 < m277) :
    Met l Z (⟨cP, "checkIndex", "(IILjava/util/function/BiFunction;)I"⟩ : MethodName) jdk_41_method_11_code 3 (some .int) (rM 0 0 0 0) [] #[(.int ix321), (.int m277), fm] h0 n0 (fun v h => v = some (.int ix321) ∧ Keep h0 h []) := by
  refine Met.mkQ (tabs := tables_1) (a0 := a0) (ls0 := #[iv ix321, iv m277, .val fm]) (plainFor_of_name pn_jdk_internal_util_Preconditions) hw Z0 (fun m => by first | (simp [entryFrame, mkF, argsToLocals, Value.category]; done) | rfl | (cases fm <;> first | (simp [entryFrame, mkF, argsToLocals, Value.category]; done) | (exact absurd hv_fm (by simp [Value.isRef])))) ?_
  intro p e s m below meth c T Q' G' hQ hG C X
  have Kp : Keep h0 h0 [] := Keep.refl _ _
  refine s_iloadN 1 C X d26_0 rfl ?_
  refine s_if_lt 9 4 C X d26_1 (fun c => absurd c (own_x0 hvx_ix321)) (fun c1_328 => ?_)
  refine s_iloadN 5 C X d26_4 rfl ?_
  refine s_iloadN 6 C X d26_5 rfl ?_
  refine s_icmp_lt 16 9 C X d26_6 (fun c6_329 => ?_) (fun c => absurd hvi_323 c)
  refine s_iloadN 17 C X d26_16 rfl ?_
  refine s_ireturn C X d26_17 rfl ?_ (FG hG (by decide) (by decide))
  exact hQ _ _ ⟨rfl, Kp⟩
theorem rm_a26 (hw : Hw a0 Z) (fm : Value) (m277 : Int32) (ix321 : Int32) (h0 : Heap) (n0 : Nat) (Z0 : n0 ≤ h0.size) (S_fm : Sta Z Z.heap cP cM cF fm) (Od : Old Z n0 h0) (hv_fm : fm.isRef = true) (hvx_ix321 : own_X5 ix321) (hvi_323 : ix321 < m277) :
    Met l Z (⟨cS, "checkIndex", "(II)V"⟩ : MethodName) jdk_42_method_155_code 2 none (rM 1 0 0 14) [] #[(.int ix321), (.int m277)] h0 n0 (fun v h => v = none ∧ Old Z n0 h ∧ Keep h0 h []) := by
  refine Met.mkQ (tabs := tables_1) (a0 := a0) (ls0 := #[iv ix321, iv m277]) (plainFor_of_name pn_java_lang_String) hw Z0 (fun m => by first | (simp [entryFrame, mkF, argsToLocals, Value.category]; done) | rfl) ?_
  intro p e s m below meth c T Q' G' hQ hG C X
  have Kp : Keep h0 h0 [] := Keep.refl _ _
  refine s_iloadN 1 C X d25_0 rfl ?_
  refine s_iloadN 2 C X d25_1 rfl ?_
  refine s_getstatic 5 C X (host := "") d25_2 (Or.inl (mW 82 rfl)) Via.refl (S_fm.ext Od.2) (fun T X => ?_)
  refine s_callS 8 [(.int ix321), (.int m277), fm] [] 0 C X d25_5 (mW 139 rfl) (mW 140 rfl) (mW 83 rfl) (mW 141 rfl) (rm_a25 l Z a0 hw fm m277 ix321 _ n0 X.sz hv_fm hvx_ix321 hvi_323) (lenOf pd__IILjava_util_function_BiFunction__I rfl) rfl rfl rfl (fun T v hh X q => ?_)
  obtain ⟨rfl, Kc⟩ := q
  have Od := Od.keep Kc all0
  have Kp := Kp.trans Kc all0
  refine rc (st' := [(.int ix321)]) rfl ?_
  refine s_pop 9 C X d25_8 rfl ?_
  refine s_return C X d25_9 rfl ?_ (FG hG (by decide) (by decide))
  exact hQ _ _ ⟨rfl, Od, Kp⟩
theorem rm_a27 (hw : Hw a0 Z) (fm : Value) (bF : Addr) (k_bF : ClassId) (m277 : Int32) (zsF : List Int32) (ix321 : Int32) (h0 : Heap) (n0 : Nat) (Z0 : n0 ≤ h0.size) (S_fm : Sta Z Z.heap cP cM cF fm) (A_bF : Arv Z h0 bF k_bF .byte m277 (Y zsF) (.int i0)) (Od : Old Z n0 h0) (hv_fm : fm.isRef = true) (hvx_ix321 : own_X5 ix321) (hvi_323 : ix321 < m277) :
    Met l Z (⟨cW, "charAt", "([BI)C"⟩ : MethodName) jdk_43_method_2_code 2 (some .char) (rM 2 0 0 27) [] #[(.ref bF), (.int ix321)] h0 n0 (fun v h => v = some (.int ((zsF.getD (ix321).toNatClampNeg 0) &&& i255)) ∧ Keep h0 h [] ∧ Old Z n0 h) := by
  refine Met.mkQ (tabs := tables_1) (a0 := a0) (ls0 := #[rv bF, iv ix321]) (plainFor_of_name pn_java_lang_StringLatin1) hw Z0 (fun m => by first | (simp [entryFrame, mkF, argsToLocals, Value.category]; done) | rfl) ?_
  intro p e s m below meth c T Q' G' hQ hG C X
  have Kp : Keep h0 h0 [] := Keep.refl _ _
  refine s_iloadN 1 C X d24_0 rfl ?_
  refine s_aloadN 2 C X d24_1 rfl rfl ?_
  refine s_arraylength 3 C X d24_2 A_bF ?_
  refine s_callS 6 [(.int ix321), (.int m277)] [] 0 C X d24_3 (mW 136 rfl) (mW 137 rfl) (mW 32 rfl) (mW 138 rfl) (rm_a26 l Z a0 hw fm m277 ix321 _ n0 X.sz S_fm Od hv_fm hvx_ix321 hvi_323) (lenOf pd__II_V rfl) rfl rfl rfl (fun T v hh X q => ?_)
  obtain ⟨rfl, Od, Kc⟩ := q
  have A_bF := A_bF.keep Kc nin0
  have Kp := Kp.trans Kc all0
  refine rc (st' := []) rfl ?_
  refine s_aloadN 7 C X d24_6 rfl rfl ?_
  refine s_iloadN 8 C X d24_7 rfl ?_
  refine s_baload 9 C X d24_8 A_bF ⟨own_x0 hvx_ix321, hvi_323⟩ (v := (.int (zsF.getD (ix321).toNatClampNeg 0))) (own_getX _ _) ?_
  refine s_sipush 12 C X d24_9 kc_sipush_255 ?_
  refine s_iand 13 C X d24_12 ?_
  refine s_i2c 14 C X d24_13 ?_
  refine rc (st' := [(.int ((zsF.getD (ix321).toNatClampNeg 0) &&& i255))]) (by rw [own_i2c (own_and _)]) ?_
  refine s_nreturn C X d24_14 rfl (by simp) (own_nc (own_and _)) ?_ (FG hG (by decide) (by decide))
  exact hQ _ _ ⟨rfl, Kp, Od⟩
theorem rm_a28 (hw : Hw a0 Z) (cs : Int32) (fm : Value) (bF : Addr) (k_bF : ClassId) (m277 : Int32) (o276 : Addr) (zsF : List Int32) (ix321 : Int32) (h0 : Heap) (n0 : Nat) (Z0 : n0 ≤ h0.size) (S_cs : Sta Z Z.heap cS cC "Z" (.int cs)) (S_fm : Sta Z Z.heap cP cM cF fm) (E_o276 : Exa Z h0 o276 cS) (F_o276_a : Fld Z h0 o276 cS "value" "[B" (.ref bF)) (F_o276_k : Fld Z h0 o276 cS "coder" "B" (.int i0)) (A_bF : Arv Z h0 bF k_bF .byte m277 (Y zsF) (.int i0)) (Od : Old Z n0 h0) (hv_cs : ¬ cs = i0) (hv_fm : fm.isRef = true) (hvx_ix321 : own_X5 ix321) (hvi_323 : ix321 < m277) :
    Met l Z (⟨cS, "charAt", "(I)C"⟩ : MethodName) jdk_42_method_56_code 2 (some .char) (rM 3 0 0 40) [] #[(.ref o276), (.int ix321)] h0 n0 (fun v h => v = some (.int ((zsF.getD (ix321).toNatClampNeg 0) &&& i255)) ∧ Keep h0 h [] ∧ Old Z n0 h) := by
  refine Met.mkQ (tabs := tables_1) (a0 := a0) (ls0 := #[rv o276, iv ix321]) (plainFor_of_name pn_java_lang_String) hw Z0 (fun m => by first | (simp [entryFrame, mkF, argsToLocals, Value.category]; done) | rfl) ?_
  intro p e s m below meth c T Q' G' hQ hG C X
  have Kp : Keep h0 h0 [] := Keep.refl _ _
  refine s_aloadN 1 C X d22_0 rfl rfl ?_
  refine s_callV 4 [] [] 0 C X d22_1 (mW 127 rfl) (mW 128 rfl) (nF C (mW 130 rfl)) (mW 130 rfl) (mW 129 rfl) (mW 32 rfl) (mW 131 rfl) E_o276 (rm_a24 l Z a0 hw cs o276 _ n0 X.sz S_cs F_o276_k Od hv_cs) (lenOf pd___Z rfl) rfl rfl rfl (fun T v hh X q => ?_)
  obtain ⟨rfl, Od, Kc⟩ := q
  have F_o276_a := F_o276_a.keep Kc nin0
  have A_bF := A_bF.keep Kc nin0
  have Kp := Kp.trans Kc all0
  refine rc (st' := [(.int i1)]) rfl ?_
  refine s_if_eq 16 7 C X d22_4 (fun c => absurd c (by decide)) (fun _ => ?_)
  refine s_aloadN 8 C X d22_7 rfl rfl ?_
  refine s_getfield 11 C X (host := "") d22_8 (Or.inl (mW 103 rfl)) Via.refl F_o276_a (fun T X => ?_)
  refine s_iloadN 12 C X d22_11 rfl ?_
  refine s_callS 15 [(.ref bF), (.int ix321)] [] 0 C X d22_12 (mW 132 rfl) (mW 133 rfl) (mW 134 rfl) (mW 135 rfl) (rm_a27 l Z a0 hw fm bF k_bF m277 zsF ix321 _ n0 X.sz S_fm A_bF Od hv_fm hvx_ix321 hvi_323) (lenOf pd___BI_C rfl) rfl rfl rfl (fun T v hh X q => ?_)
  obtain ⟨rfl, Kc, Od⟩ := q
  have Kp := Kp.trans Kc all0
  refine rc (st' := [(.int ((zsF.getD (ix321).toNatClampNeg 0) &&& i255))]) rfl ?_
  refine s_nreturn C X d22_15 rfl (by simp) (own_nc (own_and _)) ?_ (FG hG (by decide) (by decide))
  exact hQ _ _ ⟨rfl, Kp, Od⟩
theorem rm_a29 (hw : Hw a0 Z) (cs : Int32) (fm : Value) (o237 : Addr) (k_o237 : ClassId) (esF_270 : List Int32) (mF_271 : Int32) (bF : Addr) (k_bF : ClassId) (m277 : Int32) (o276 : Addr) (zsF : List Int32) (ix321 : Int32) (h0 : Heap) (n0 : Nat) (Z0 : n0 ≤ h0.size) (S_cs : Sta Z Z.heap cS cC "Z" (.int cs)) (S_fm : Sta Z Z.heap cP cM cF fm) (A_o237 : Arv Z h0 o237 k_o237 .char i5 (Y esF_270) (.int i0)) (E_o276 : Exa Z h0 o276 cS) (F_o276_a : Fld Z h0 o276 cS "value" "[B" (.ref bF)) (F_o276_k : Fld Z h0 o276 cS "coder" "B" (.int i0)) (A_bF : Arv Z h0 bF k_bF .byte m277 (Y zsF) (.int i0)) (Od : Old Z n0 h0) (hv_cs : ¬ cs = i0) (hv_fm : fm.isRef = true) (hvmm : m277 = mF_271) (hvx_ix321 : own_X5 ix321) :
    Met l Z (⟨cL, "at", sA⟩ : MethodName) method_5_code 4 (some .boolean) (rM 4 0 0 53) [] #[(.ref o276), (.ref o237), (.int mF_271), (.int ix321)] h0 n0 (fun v h => ∃ (y336 : Int32), v = some (.int y336) ∧ (((¬ ((ix321).toInt < (mF_271).toInt)) ∧ y336 = i1) ∨ (((ix321).toInt < (mF_271).toInt) ∧ (¬ ((((zsF.getD (ix321).toNatClampNeg 0) &&& i255)).toInt = ((esF_270.getD (ix321).toNatClampNeg 0)).toInt)) ∧ y336 = i0) ∨ (((ix321).toInt < (mF_271).toInt) ∧ ((((zsF.getD (ix321).toNatClampNeg 0) &&& i255)).toInt = ((esF_270.getD (ix321).toNatClampNeg 0)).toInt) ∧ y336 = i1)) ∧ Old Z n0 h ∧ Keep h0 h []) := by
  refine Met.mkQ (tabs := tables_1) (a0 := a0) (ls0 := #[rv o276, rv o237, iv mF_271, iv ix321]) (plainFor_of_name pn_com_example_medis_medis_engine_ElementAttributesCollapseLastPinLaw) hw Z0 (fun m => by first | (simp [entryFrame, mkF, argsToLocals, Value.category]; done) | rfl) ?_
  intro p e s m below meth c T Q' G' hQ hG C X
  have Kp : Keep h0 h0 [] := Keep.refl _ _
  refine s_iloadN 1 C X d21_0 rfl ?_
  refine s_iloadN 2 C X d21_1 rfl ?_
  refine s_icmp_ge 16 5 C X d21_2 (fun c2_322 => ?_) (fun c2_322 => ?_)
  · have t_c2_322 := inl c2_322
    refine s_iconst 17 C X d21_16 kc_iconst_1 ?_
    refine s_goto 21 C X d21_17 ?_
    refine s_nreturn C X d21_21 rfl (by simp) rfl ?_ (FG hG (by decide) (by decide))
    exact hQ _ _ ⟨i1, rfl, (Or.inl ⟨t_c2_322, rfl⟩), Od, Kp⟩
  have t_c2_322 := ilt c2_322
  have hvi_323 : ix321 < m277 := by rw [hvmm]; exact c2_322
  refine s_aloadN 6 C X d21_5 rfl rfl ?_
  refine s_iloadN 7 C X d21_6 rfl ?_
  refine s_callV 10 [(.int ix321)] [] 0 C X d21_7 (mW 122 rfl) (mW 123 rfl) (nF C (mW 125 rfl)) (mW 125 rfl) (mW 124 rfl) (mW 32 rfl) (mW 126 rfl) E_o276 (rm_a28 l Z a0 hw cs fm bF k_bF m277 o276 zsF ix321 _ n0 X.sz S_cs S_fm E_o276 F_o276_a F_o276_k A_bF Od hv_cs hv_fm hvx_ix321 hvi_323) (lenOf pd__I_C rfl) rfl rfl rfl (fun T v hh X q => ?_)
  obtain ⟨rfl, Kc, Od⟩ := q
  have A_o237 := A_o237.keep Kc nin0
  have Kp := Kp.trans Kc all0
  refine rc (st' := [(.int ((zsF.getD (ix321).toNatClampNeg 0) &&& i255))]) rfl ?_
  refine s_aloadN 11 C X d21_10 rfl rfl ?_
  refine s_iloadN 12 C X d21_11 rfl ?_
  refine s_caload 13 C X d21_12 A_o237 ⟨own_x0 hvx_ix321, own_x5 hvx_ix321⟩ (v := (.int (esF_270.getD (ix321).toNatClampNeg 0))) (own_getX _ _) ?_
  refine s_icmp_ne 20 16 C X d21_13 (fun c13_334 => ?_) (fun c13_334 => ?_)
  · have t_c13_334 := ine c13_334
    refine s_iconst 21 C X d21_20 kc_iconst_0 ?_
    refine s_nreturn C X d21_21 rfl (by simp) rfl ?_ (FG hG (by decide) (by decide))
    exact hQ _ _ ⟨i0, rfl, (Or.inr (Or.inl ⟨t_c2_322, t_c13_334, rfl⟩)), Od, Kp⟩
  have t_c13_334 := ieq c13_334
  refine s_iconst 17 C X d21_16 kc_iconst_1 ?_
  refine s_goto 21 C X d21_17 ?_
  refine s_nreturn C X d21_21 rfl (by simp) rfl ?_ (FG hG (by decide) (by decide))
  exact hQ _ _ ⟨i1, rfl, (Or.inr (Or.inr ⟨t_c2_322, t_c13_334, rfl⟩)), Od, Kp⟩
theorem rm_a30 (hw : Hw a0 Z) (o32 : Addr) (o46 : Addr) (k_o32 : ClassId) (k_o51 : ClassId) (k_o53 : ClassId) (o51 : Addr) (o53 : Addr) (h0 : Heap) (n0 : Nat) (Z0 : n0 ≤ h0.size) (A_o32 : Arv Z h0 o32 k_o32 .char i0 [] (.int i0)) (A_o53 : Arv Z h0 o53 k_o53 .char i256 [(.int i0), (.int i0), (.int i0), (.int i0), (.int i0), (.int i0), (.int i0), (.int i0)] (.int i0)) (F_o46_s : Fld Z h0 o46 cE fs "[I" (.ref o51)) (F_o46_v : Fld Z h0 o46 cE fv "[C" (.ref o53)) (F_o46_n : Fld Z h0 o46 cE "length" "I" (.int i1)) (A_o51 : Arv Z h0 o51 k_o51 .int i9 [(.int i0), (.int i0), (.int i0), (.int i0), (.int i0), (.int i0), (.int i0), (.int i0), (.int i0)] (.int i0)) (ne_o32_o51 : o32 ≠ o51) (g_o51 : n0 ≤ o51) (ne_o32_o53 : o32 ≠ o53) (g_o53 : n0 ≤ o53) (ne_o46_o51 : o46 ≠ o51) (ne_o46_o53 : o46 ≠ o53) (ne_o51_o53 : o51 ≠ o53) :
    Met l Z (⟨cE, "append", "([CII)V"⟩ : MethodName) prog_35_method_12_code 5 none (rM 1 0 0 40) [] #[(.ref o46), (.ref o32), (.int i0), (.int i0)] h0 n0 (fun v h => v = none ∧ Arv Z h o51 k_o51 .int i9 [(.int i0), (.int i0), (.int i0), (.int i0), (.int i0), (.int i0), (.int i0), (.int i0), (.int i0)] (.int i0) ∧ Keep h0 h [o51, o53] ∧ Arv Z h o53 k_o53 .char i256 [(.int i0), (.int i0), (.int i0), (.int i0), (.int i0), (.int i0), (.int i0), (.int i0)] (.int i0)) := by
  refine Met.mkQ (tabs := tables_1) (a0 := a0) (ls0 := #[rv o46, rv o32, iv i0, iv i0, un]) (plainFor_of_name pn_com_example_medis_medis_engine_ElementAttributes) hw Z0 (fun m => by first | (simp [entryFrame, mkF, argsToLocals, Value.category]; done) | rfl) ?_
  intro p e s m below meth c T Q' G' hQ hG C X
  have Kp : Keep h0 h0 [o51, o53] := Keep.refl _ _
  refine s_aloadN 1 C X d5_0 rfl rfl ?_
  refine s_getfield 4 C X (host := "") d5_1 (Or.inl (mW 25 rfl)) Via.refl F_o46_s (fun T X => ?_)
  refine s_aloadN 5 C X d5_4 rfl rfl ?_
  refine s_getfield 8 C X (host := "") d5_5 (Or.inl (mW 44 rfl)) Via.refl F_o46_n (fun T X => ?_)
  refine s_iaload 9 C X d5_8 A_o51 ⟨by decide, by decide⟩ (v := (.int i0)) rfl ?_
  refine s_istore 11 C X (l' := #[rv o46, rv o32, iv i0, iv i0, iv i0]) d5_9 rfl ?_
  refine s_iload 13 C X d5_11 rfl ?_
  refine s_iloadN 14 C X d5_13 rfl ?_
  refine s_iadd 15 C X d5_14 ?_
  refine rc (st' := [(.int i0)]) (by rw [kf_6]) ?_
  refine s_aloadN 16 C X d5_15 rfl rfl ?_
  refine s_getfield 19 C X (host := "") d5_16 (Or.inl (mW 29 rfl)) Via.refl F_o46_v (fun T X => ?_)
  refine s_arraylength 20 C X d5_19 A_o53 ?_
  refine s_icmp_le 48 23 C X d5_20 (fun _ => ?_) (fun c => absurd c (by decide))
  refine s_aloadN 49 C X d5_48 rfl rfl ?_
  refine s_iloadN 50 C X d5_49 rfl ?_
  refine s_aloadN 51 C X d5_50 rfl rfl ?_
  refine s_getfield 54 C X (host := "") d5_51 (Or.inl (mW 29 rfl)) Via.refl F_o46_v (fun T X => ?_)
  refine s_iload 56 C X d5_54 rfl ?_
  refine s_iloadN 57 C X d5_56 rfl ?_
  refine s_arraycopy 60 0 [(.int i0), (.int i0), (.int i0), (.int i0), (.int i0), (.int i0), (.int i0), (.int i0)] C X d5_57 (mW 53 rfl) (mW 56 rfl) (mW 54 rfl) (mW 55 rfl) A_o32 A_o53 rfl (by decide) (by decide) (by decide) (by decide) (by decide) (Nat.le_of_ble_eq_true rfl) g_o53 rfl rfl rfl (fun T hh X Kc A_o53 => ?_)
  have F_o46_s := F_o46_s.keep Kc (ninS ne_o46_o53 nin0)
  have F_o46_n := F_o46_n.keep Kc (ninS ne_o46_o53 nin0)
  have A_o51 := A_o51.keep Kc (ninS ne_o51_o53 nin0)
  have Kp := Kp.trans Kc (allS (Or.inl (by simp)) all0)
  refine rc (st' := []) rfl ?_
  refine s_aloadN 61 C X d5_60 rfl rfl ?_
  refine s_getfield 64 C X (host := "") d5_61 (Or.inl (mW 25 rfl)) Via.refl F_o46_s (fun T X => ?_)
  refine s_aloadN 65 C X d5_64 rfl rfl ?_
  refine s_getfield 68 C X (host := "") d5_65 (Or.inl (mW 44 rfl)) Via.refl F_o46_n (fun T X => ?_)
  refine s_iload 70 C X d5_68 rfl ?_
  refine s_iloadN 71 C X d5_70 rfl ?_
  refine s_iadd 72 C X d5_71 ?_
  refine rc (st' := [(.int i0), (.int i1), (.ref o51)]) (by rw [kf_6]) ?_
  refine s_iastore 73 1 C X d5_72 A_o51 g_o51 ⟨by decide, by decide⟩ rfl (Nat.le_of_ble_eq_true rfl) (fun T hh X W A_o51 => ?_)
  have A_o51 : Arv Z _ o51 k_o51 .int i9 [(.int i0), (.int i0), (.int i0), (.int i0), (.int i0), (.int i0), (.int i0), (.int i0), (.int i0)] (.int i0) := A_o51
  have Kp := Kp.wr W (Or.inl (by simp))
  have A_o53 := A_o53.other W (Ne.symm ne_o51_o53)
  refine s_return C X d5_73 rfl ?_ (FG hG (by decide) (by decide))
  exact hQ _ _ ⟨rfl, A_o51, Kp, A_o53⟩
theorem rm_a31 (hw : Hw a0 Z) (o46 : Addr) (k_o47 : ClassId) (k_o48 : ClassId) (k_o49 : ClassId) (k_o50 : ClassId) (k_o51 : ClassId) (o47 : Addr) (o48 : Addr) (o49 : Addr) (o50 : Addr) (o51 : Addr) (o52 : Addr) (o53 : Addr) (t61 : Addr) (t64 : Addr) (t81 : Addr) (h0 : Heap) (n0 : Nat) (Z0 : n0 ≤ h0.size) (E_o46 : Exa Z h0 o46 cE) (F_o46_q : Fld Z h0 o46 cE fq cG (.ref o47)) (F_o46_u : Fld Z h0 o46 cE fu cG (.ref o48)) (F_o46_l : Fld Z h0 o46 cE fl cG (.ref o49)) (F_o46_c : Fld Z h0 o46 cE fc "[I" (.ref o50)) (F_o46_s : Fld Z h0 o46 cE fs "[I" (.ref o51)) (F_o46_g : Fld Z h0 o46 cE fg cG (.ref o52)) (F_o46_v : Fld Z h0 o46 cE fv "[C" (.ref o53)) (F_o46_n : Fld Z h0 o46 cE "length" "I" (.int i1)) (A_o47 : Arv Z h0 o47 k_o47 (.object cS) i8 [(.ref t61), .null, .null, .null, .null, .null, .null, .null] .null) (A_o48 : Arv Z h0 o48 k_o48 (.object cS) i8 [(.ref t64), .null, .null, .null, .null, .null, .null, .null] .null) (A_o49 : Arv Z h0 o49 k_o49 (.object cS) i8 [(.ref t61), .null, .null, .null, .null, .null, .null, .null] .null) (A_o50 : Arv Z h0 o50 k_o50 .int i8 [(.int im1), (.int i0), (.int i0), (.int i0), (.int i0), (.int i0), (.int i0), (.int i0)] (.int i0)) (A_o51 : Arv Z h0 o51 k_o51 .int i9 [(.int i0), (.int i0), (.int i0), (.int i0), (.int i0), (.int i0), (.int i0), (.int i0), (.int i0)] (.int i0)) (E_t81 : Exa Z h0 t81 cS) (g_o46 : n0 ≤ o46) (g_o47 : n0 ≤ o47) (g_o48 : n0 ≤ o48) (g_o49 : n0 ≤ o49) (g_o50 : n0 ≤ o50) (g_o51 : n0 ≤ o51) (ne_o46_o47 : o46 ≠ o47) (ne_o46_o48 : o46 ≠ o48) (ne_o47_o48 : o47 ≠ o48) (ne_o46_o49 : o46 ≠ o49) (ne_o47_o49 : o47 ≠ o49) (ne_o48_o49 : o48 ≠ o49) (ne_o46_o50 : o46 ≠ o50) (ne_o47_o50 : o47 ≠ o50) (ne_o48_o50 : o48 ≠ o50) (ne_o49_o50 : o49 ≠ o50) (ne_o46_o51 : o46 ≠ o51) (ne_o47_o51 : o47 ≠ o51) (ne_o48_o51 : o48 ≠ o51) (ne_o49_o51 : o49 ≠ o51) (ne_o50_o51 : o50 ≠ o51) (O_o47 : Ovr Z k_o47 cS) (O_o48 : Ovr Z k_o48 cS) (O_o49 : Ovr Z k_o49 cS) :
    MetH l Z EL1 [] (⟨cE, "add", "(Ljava/lang/String;I)V"⟩ : MethodName) prog_35_method_9_code 4 none (rM 0 2 4 0) [] #[(.ref o46), (.ref t81), (.int im1)] h0 n0 (fun v h => ∃ (b85 : Addr) (k_b85 : ClassId) (t84 : Addr), v = none ∧ Exa Z h o46 cE ∧ Fld Z h o46 cE fq cG (.ref o47) ∧ Fld Z h o46 cE fu cG (.ref o48) ∧ Fld Z h o46 cE fl cG (.ref o49) ∧ Fld Z h o46 cE fc "[I" (.ref o50) ∧ Fld Z h o46 cE fs "[I" (.ref o51) ∧ Fld Z h o46 cE fg cG (.ref o52) ∧ Fld Z h o46 cE fv "[C" (.ref o53) ∧ Fld Z h o46 cE "length" "I" (.int i2) ∧ Arv Z h o47 k_o47 (.object cS) i8 [(.ref t61), (.ref t81), .null, .null, .null, .null, .null, .null] .null ∧ Arv Z h o48 k_o48 (.object cS) i8 [(.ref t64), (.ref t84), .null, .null, .null, .null, .null, .null] .null ∧ Arv Z h o49 k_o49 (.object cS) i8 [(.ref t61), (.ref t81), .null, .null, .null, .null, .null, .null] .null ∧ Arv Z h o50 k_o50 .int i8 [(.int im1), (.int im1), (.int i0), (.int i0), (.int i0), (.int i0), (.int i0), (.int i0)] (.int i0) ∧ Arv Z h o51 k_o51 .int i9 [(.int i0), (.int i0), (.int i0), (.int i0), (.int i0), (.int i0), (.int i0), (.int i0), (.int i0)] (.int i0) ∧ Keep h0 h [o46, o47, o48, o49, o50, o51] ∧ Exa Z h t84 cS ∧ Fld Z h t84 cS "coder" "B" (.int i0) ∧ Fld Z h t84 cS "value" "[B" (.ref b85) ∧ Arv Z h b85 k_b85 .byte i0 [] (.int i0) ∧ o46 ≠ t84 ∧ o46 ≠ b85 ∧ o47 ≠ t84 ∧ o47 ≠ b85 ∧ o48 ≠ t84 ∧ o48 ≠ b85 ∧ o49 ≠ t84 ∧ o49 ≠ b85 ∧ o50 ≠ t84 ∧ o50 ≠ b85 ∧ o51 ≠ t84 ∧ o51 ≠ b85) := by
  refine MetH.mkQ (tabs := tables_1) (a0 := a0) (ls0 := #[rv o46, rv t81, iv im1, un]) (plainFor_of_name pn_com_example_medis_medis_engine_ElementAttributes) hw Z0 (fun m => by first | (simp [entryFrame, mkF, argsToLocals, Value.category]; done) | rfl) ?_
  intro p e s m below meth c T Q' G' vm k1 hQ hG C X hS Rc hso
  have Kp : Keep h0 h0 [o46, o47, o48, o49, o50, o51] := Keep.refl _ _
  refine s_aloadN 1 C X d4_0 rfl rfl ?_
  refine s_getfield 4 C X (host := "") d4_1 (Or.inl (mW 44 rfl)) Via.refl F_o46_n (fun T X => ?_)
  refine s_aloadN 5 C X d4_4 rfl rfl ?_
  refine s_getfield 8 C X (host := "") d4_5 (Or.inl (mW 16 rfl)) Via.refl F_o46_q (fun T X => ?_)
  refine s_arraylength 9 C X d4_8 A_o47 ?_
  refine s_icmp_ne 105 12 C X d4_9 (fun _ => ?_) (fun c => absurd c (by decide))
  refine s_aloadN 106 C X d4_105 rfl rfl ?_
  refine s_getfield 109 C X (host := "") d4_106 (Or.inl (mW 16 rfl)) Via.refl F_o46_q (fun T X => ?_)
  refine s_aloadN 110 C X d4_109 rfl rfl ?_
  refine s_getfield 113 C X (host := "") d4_110 (Or.inl (mW 44 rfl)) Via.refl F_o46_n (fun T X => ?_)
  refine s_aloadN 114 C X d4_113 rfl rfl ?_
  have Sf : Safe Z EL1 vm _ o47 := (Safe.arv C.2.1.alike A_o47 (by decide))
  refine s_aastore 115 1 C X d4_114 A_o47 rfl rfl (fun _ A q => Sto.ofV A q O_o47 (Ins.self E_t81)) g_o47 ⟨by decide, by decide⟩ rfl (Nat.le_of_ble_eq_true rfl) (fun T hh X W A_o47 => ?_)
  have A_o47 : Arv Z _ o47 k_o47 (.object cS) i8 [(.ref t61), (.ref t81), .null, .null, .null, .null, .null, .null] .null := A_o47
  have Rc := Rc.wr W Sf
  have E_o46 := E_o46.wr W
  have F_o46_q := F_o46_q.other W (Or.inl ne_o46_o47)
  have F_o46_u := F_o46_u.other W (Or.inl ne_o46_o47)
  have F_o46_l := F_o46_l.other W (Or.inl ne_o46_o47)
  have F_o46_c := F_o46_c.other W (Or.inl ne_o46_o47)
  have F_o46_s := F_o46_s.other W (Or.inl ne_o46_o47)
  have F_o46_g := F_o46_g.other W (Or.inl ne_o46_o47)
  have F_o46_v := F_o46_v.other W (Or.inl ne_o46_o47)
  have F_o46_n := F_o46_n.other W (Or.inl ne_o46_o47)
  have A_o48 := A_o48.other W (Ne.symm ne_o47_o48)
  have A_o49 := A_o49.other W (Ne.symm ne_o47_o49)
  have A_o50 := A_o50.other W (Ne.symm ne_o47_o50)
  have A_o51 := A_o51.other W (Ne.symm ne_o47_o51)
  have E_t81 := E_t81.wr W
  have Kp := Kp.wr W (Or.inl (by simp))
  refine s_aloadN 116 C X d4_115 rfl rfl ?_
  refine s_getfield 119 C X (host := "") d4_116 (Or.inl (mW 23 rfl)) Via.refl F_o46_c (fun T X => ?_)
  refine s_aloadN 120 C X d4_119 rfl rfl ?_
  refine s_getfield 123 C X (host := "") d4_120 (Or.inl (mW 44 rfl)) Via.refl F_o46_n (fun T X => ?_)
  refine s_iloadN 124 C X d4_123 rfl ?_
  have Sf : Safe Z EL1 vm _ o50 := (Safe.arv C.2.1.alike A_o50 (by decide))
  refine s_iastore 125 1 C X d4_124 A_o50 g_o50 ⟨by decide, by decide⟩ rfl (Nat.le_of_ble_eq_true rfl) (fun T hh X W A_o50 => ?_)
  have A_o50 : Arv Z _ o50 k_o50 .int i8 [(.int im1), (.int im1), (.int i0), (.int i0), (.int i0), (.int i0), (.int i0), (.int i0)] (.int i0) := A_o50
  have Rc := Rc.wr W Sf
  have E_o46 := E_o46.wr W
  have F_o46_q := F_o46_q.other W (Or.inl ne_o46_o50)
  have F_o46_u := F_o46_u.other W (Or.inl ne_o46_o50)
  have F_o46_l := F_o46_l.other W (Or.inl ne_o46_o50)
  have F_o46_c := F_o46_c.other W (Or.inl ne_o46_o50)
  have F_o46_s := F_o46_s.other W (Or.inl ne_o46_o50)
  have F_o46_g := F_o46_g.other W (Or.inl ne_o46_o50)
  have F_o46_v := F_o46_v.other W (Or.inl ne_o46_o50)
  have F_o46_n := F_o46_n.other W (Or.inl ne_o46_o50)
  have A_o47 := A_o47.other W ne_o47_o50
  have A_o48 := A_o48.other W ne_o48_o50
  have A_o49 := A_o49.other W ne_o49_o50
  have A_o51 := A_o51.other W (Ne.symm ne_o50_o51)
  have E_t81 := E_t81.wr W
  have Kp := Kp.wr W (Or.inl (by simp))
  refine s_aloadN 126 C X d4_125 rfl rfl ?_
  refine s_getfield 129 C X (host := "") d4_126 (Or.inl (mW 18 rfl)) Via.refl F_o46_u (fun T X => ?_)
  refine s_aloadN 130 C X d4_129 rfl rfl ?_
  refine s_getfield 133 C X (host := "") d4_130 (Or.inl (mW 44 rfl)) Via.refl F_o46_n (fun T X => ?_)
  refine s_ldcH 135 0 C X hS Rc.2 (own_EL hw) Rc.1.1 d4_133 (mW 47 rfl) (own_wS hw) (vs := []) (z := i0) (by decide) ⟨by decide, rfl⟩ (by decide) rfl (fun T hh t84 b85 k_b85 vm k1 C X E hS Nk Rn E_t84 F_t84_k F_t84_a A_b85 nS => ?_)
  have Rc := Rc.call Rn Nk
  have E_o46 := E_o46.ext E
  have F_o46_q := F_o46_q.ext E
  have F_o46_u := F_o46_u.ext E
  have F_o46_l := F_o46_l.ext E
  have F_o46_c := F_o46_c.ext E
  have F_o46_s := F_o46_s.ext E
  have F_o46_g := F_o46_g.ext E
  have F_o46_v := F_o46_v.ext E
  have F_o46_n := F_o46_n.ext E
  have A_o47 := A_o47.ext E
  have A_o48 := A_o48.ext E
  have A_o49 := A_o49.ext E
  have A_o50 := A_o50.ext E
  have A_o51 := A_o51.ext E
  have E_t81 := E_t81.ext E
  have Kp := Kp.ext E
  have ne_o46_t84 : o46 ≠ t84 := (nS o46 (Safe.exa C.2.1.alike E_o46 (by decide) (by decide))).1
  have ne_o46_b85 : o46 ≠ b85 := (nS o46 (Safe.exa C.2.1.alike E_o46 (by decide) (by decide))).2
  have ne_o47_t84 : o47 ≠ t84 := (nS o47 (Safe.arv C.2.1.alike A_o47 (by decide))).1
  have ne_o47_b85 : o47 ≠ b85 := (nS o47 (Safe.arv C.2.1.alike A_o47 (by decide))).2
  have ne_o48_t84 : o48 ≠ t84 := (nS o48 (Safe.arv C.2.1.alike A_o48 (by decide))).1
  have ne_o48_b85 : o48 ≠ b85 := (nS o48 (Safe.arv C.2.1.alike A_o48 (by decide))).2
  have ne_o49_t84 : o49 ≠ t84 := (nS o49 (Safe.arv C.2.1.alike A_o49 (by decide))).1
  have ne_o49_b85 : o49 ≠ b85 := (nS o49 (Safe.arv C.2.1.alike A_o49 (by decide))).2
  have ne_o50_t84 : o50 ≠ t84 := (nS o50 (Safe.arv C.2.1.alike A_o50 (by decide))).1
  have ne_o50_b85 : o50 ≠ b85 := (nS o50 (Safe.arv C.2.1.alike A_o50 (by decide))).2
  have ne_o51_t84 : o51 ≠ t84 := (nS o51 (Safe.arv C.2.1.alike A_o51 (by decide))).1
  have ne_o51_b85 : o51 ≠ b85 := (nS o51 (Safe.arv C.2.1.alike A_o51 (by decide))).2
  have Sf : Safe Z EL1 vm _ o48 := (Safe.arv C.2.1.alike A_o48 (by decide))
  refine s_aastore 136 1 C X d4_135 A_o48 rfl rfl (fun _ A q => Sto.ofV A q O_o48 (Ins.self E_t84)) g_o48 ⟨by decide, by decide⟩ rfl (Nat.le_of_ble_eq_true rfl) (fun T hh X W A_o48 => ?_)
  have A_o48 : Arv Z _ o48 k_o48 (.object cS) i8 [(.ref t64), (.ref t84), .null, .null, .null, .null, .null, .null] .null := A_o48
  have Rc := Rc.wr W Sf
  have E_o46 := E_o46.wr W
  have F_o46_q := F_o46_q.other W (Or.inl ne_o46_o48)
  have F_o46_u := F_o46_u.other W (Or.inl ne_o46_o48)
  have F_o46_l := F_o46_l.other W (Or.inl ne_o46_o48)
  have F_o46_c := F_o46_c.other W (Or.inl ne_o46_o48)
  have F_o46_s := F_o46_s.other W (Or.inl ne_o46_o48)
  have F_o46_g := F_o46_g.other W (Or.inl ne_o46_o48)
  have F_o46_v := F_o46_v.other W (Or.inl ne_o46_o48)
  have F_o46_n := F_o46_n.other W (Or.inl ne_o46_o48)
  have A_o47 := A_o47.other W ne_o47_o48
  have A_o49 := A_o49.other W (Ne.symm ne_o48_o49)
  have A_o50 := A_o50.other W (Ne.symm ne_o48_o50)
  have A_o51 := A_o51.other W (Ne.symm ne_o48_o51)
  have E_t81 := E_t81.wr W
  have Kp := Kp.wr W (Or.inl (by simp))
  have E_t84 := E_t84.wr W
  have F_t84_k := F_t84_k.other W (Or.inl (Ne.symm ne_o48_t84))
  have F_t84_a := F_t84_a.other W (Or.inl (Ne.symm ne_o48_t84))
  have A_b85 := A_b85.other W (Ne.symm ne_o48_b85)
  refine s_aloadN 137 C X d4_136 rfl rfl ?_
  refine s_getfield 140 C X (host := "") d4_137 (Or.inl (mW 20 rfl)) Via.refl F_o46_l (fun T X => ?_)
  refine s_aloadN 141 C X d4_140 rfl rfl ?_
  refine s_getfield 144 C X (host := "") d4_141 (Or.inl (mW 44 rfl)) Via.refl F_o46_n (fun T X => ?_)
  refine s_aloadN 145 C X d4_144 rfl rfl ?_
  have Sf : Safe Z EL1 vm _ o49 := (Safe.arv C.2.1.alike A_o49 (by decide))
  refine s_aastore 146 1 C X d4_145 A_o49 rfl rfl (fun _ A q => Sto.ofV A q O_o49 (Ins.self E_t81)) g_o49 ⟨by decide, by decide⟩ rfl (Nat.le_of_ble_eq_true rfl) (fun T hh X W A_o49 => ?_)
  have A_o49 : Arv Z _ o49 k_o49 (.object cS) i8 [(.ref t61), (.ref t81), .null, .null, .null, .null, .null, .null] .null := A_o49
  have Rc := Rc.wr W Sf
  have E_o46 := E_o46.wr W
  have F_o46_q := F_o46_q.other W (Or.inl ne_o46_o49)
  have F_o46_u := F_o46_u.other W (Or.inl ne_o46_o49)
  have F_o46_l := F_o46_l.other W (Or.inl ne_o46_o49)
  have F_o46_c := F_o46_c.other W (Or.inl ne_o46_o49)
  have F_o46_s := F_o46_s.other W (Or.inl ne_o46_o49)
  have F_o46_g := F_o46_g.other W (Or.inl ne_o46_o49)
  have F_o46_v := F_o46_v.other W (Or.inl ne_o46_o49)
  have F_o46_n := F_o46_n.other W (Or.inl ne_o46_o49)
  have A_o47 := A_o47.other W ne_o47_o49
  have A_o48 := A_o48.other W ne_o48_o49
  have A_o50 := A_o50.other W (Ne.symm ne_o49_o50)
  have A_o51 := A_o51.other W (Ne.symm ne_o49_o51)
  have Kp := Kp.wr W (Or.inl (by simp))
  have E_t84 := E_t84.wr W
  have F_t84_k := F_t84_k.other W (Or.inl (Ne.symm ne_o49_t84))
  have F_t84_a := F_t84_a.other W (Or.inl (Ne.symm ne_o49_t84))
  have A_b85 := A_b85.other W (Ne.symm ne_o49_b85)
  refine s_aloadN 147 C X d4_146 rfl rfl ?_
  refine s_getfield 150 C X (host := "") d4_147 (Or.inl (mW 25 rfl)) Via.refl F_o46_s (fun T X => ?_)
  refine s_aloadN 151 C X d4_150 rfl rfl ?_
  refine s_getfield 154 C X (host := "") d4_151 (Or.inl (mW 44 rfl)) Via.refl F_o46_n (fun T X => ?_)
  refine s_iconst 155 C X d4_154 kc_iconst_1 ?_
  refine s_iadd 156 C X d4_155 ?_
  refine rc (st' := [(.int i2), (.ref o51)]) (by rw [kf_7]) ?_
  refine s_aloadN 157 C X d4_156 rfl rfl ?_
  refine s_getfield 160 C X (host := "") d4_157 (Or.inl (mW 25 rfl)) Via.refl F_o46_s (fun T X => ?_)
  refine s_aloadN 161 C X d4_160 rfl rfl ?_
  refine s_getfield 164 C X (host := "") d4_161 (Or.inl (mW 44 rfl)) Via.refl F_o46_n (fun T X => ?_)
  refine s_iaload 165 C X d4_164 A_o51 ⟨by decide, by decide⟩ (v := (.int i0)) rfl ?_
  have Sf : Safe Z EL1 vm _ o51 := (Safe.arv C.2.1.alike A_o51 (by decide))
  refine s_iastore 166 2 C X d4_165 A_o51 g_o51 ⟨by decide, by decide⟩ rfl (Nat.le_of_ble_eq_true rfl) (fun T hh X W A_o51 => ?_)
  have A_o51 : Arv Z _ o51 k_o51 .int i9 [(.int i0), (.int i0), (.int i0), (.int i0), (.int i0), (.int i0), (.int i0), (.int i0), (.int i0)] (.int i0) := A_o51
  have Rc := Rc.wr W Sf
  have E_o46 := E_o46.wr W
  have F_o46_q := F_o46_q.other W (Or.inl ne_o46_o51)
  have F_o46_u := F_o46_u.other W (Or.inl ne_o46_o51)
  have F_o46_l := F_o46_l.other W (Or.inl ne_o46_o51)
  have F_o46_c := F_o46_c.other W (Or.inl ne_o46_o51)
  have F_o46_s := F_o46_s.other W (Or.inl ne_o46_o51)
  have F_o46_g := F_o46_g.other W (Or.inl ne_o46_o51)
  have F_o46_v := F_o46_v.other W (Or.inl ne_o46_o51)
  have F_o46_n := F_o46_n.other W (Or.inl ne_o46_o51)
  have A_o47 := A_o47.other W ne_o47_o51
  have A_o48 := A_o48.other W ne_o48_o51
  have A_o49 := A_o49.other W ne_o49_o51
  have A_o50 := A_o50.other W ne_o50_o51
  have Kp := Kp.wr W (Or.inl (by simp))
  have E_t84 := E_t84.wr W
  have F_t84_k := F_t84_k.other W (Or.inl (Ne.symm ne_o51_t84))
  have F_t84_a := F_t84_a.other W (Or.inl (Ne.symm ne_o51_t84))
  have A_b85 := A_b85.other W (Ne.symm ne_o51_b85)
  refine s_aloadN 167 C X d4_166 rfl rfl ?_
  refine s_dup 168 C X d4_167 rfl ?_
  refine s_getfield 171 C X (host := "") d4_168 (Or.inl (mW 44 rfl)) Via.refl F_o46_n (fun T X => ?_)
  refine s_iconst 172 C X d4_171 kc_iconst_1 ?_
  refine s_iadd 173 C X d4_172 ?_
  refine rc (st' := [(.int i2), (.ref o46)]) (by rw [kf_7]) ?_
  refine s_putfield 176 C X (host := "") d4_173 (Or.inl (mW 44 rfl)) Via.refl F_o46_n E_o46 (Or.inl (mW 45 rfl)) (mW 6 rfl) (ty := .int) (by decide) rfl rfl g_o46 (fun T hh X W => ?_)
  have Sf : Safe Z EL1 vm _ o46 := (Safe.exa C.2.1.alike E_o46 (by decide) (by decide))
  have Rc := Rc.wr W Sf
  have E_o46 := E_o46.wr W
  have F_o46_q := oth F_o46_q W (Or.inl (hw _ (mW 17 rfl))) (Or.inl (hw _ (mW 45 rfl))) (by decide)
  have F_o46_u := oth F_o46_u W (Or.inl (hw _ (mW 19 rfl))) (Or.inl (hw _ (mW 45 rfl))) (by decide)
  have F_o46_l := oth F_o46_l W (Or.inl (hw _ (mW 21 rfl))) (Or.inl (hw _ (mW 45 rfl))) (by decide)
  have F_o46_c := oth F_o46_c W (Or.inl (hw _ (mW 24 rfl))) (Or.inl (hw _ (mW 45 rfl))) (by decide)
  have F_o46_s := oth F_o46_s W (Or.inl (hw _ (mW 26 rfl))) (Or.inl (hw _ (mW 45 rfl))) (by decide)
  have F_o46_g := oth F_o46_g W (Or.inl (hw _ (mW 28 rfl))) (Or.inl (hw _ (mW 45 rfl))) (by decide)
  have F_o46_v := oth F_o46_v W (Or.inl (hw _ (mW 30 rfl))) (Or.inl (hw _ (mW 45 rfl))) (by decide)
  have F_o46_n := F_o46_n.same W
  have A_o47 := A_o47.other W (Ne.symm ne_o46_o47)
  have A_o48 := A_o48.other W (Ne.symm ne_o46_o48)
  have A_o49 := A_o49.other W (Ne.symm ne_o46_o49)
  have A_o50 := A_o50.other W (Ne.symm ne_o46_o50)
  have A_o51 := A_o51.other W (Ne.symm ne_o46_o51)
  have Kp := Kp.wr W (Or.inl (by simp))
  have E_t84 := E_t84.wr W
  have F_t84_k := F_t84_k.other W (Or.inl (Ne.symm ne_o46_t84))
  have F_t84_a := F_t84_a.other W (Or.inl (Ne.symm ne_o46_t84))
  have A_b85 := A_b85.other W (Ne.symm ne_o46_b85)
  refine s_return C X d4_176 rfl ?_ (FGH hG hS Rc C (own_EL hw))
  exact hQ _ _ ⟨b85, k_b85, t84, rfl, E_o46, F_o46_q, F_o46_u, F_o46_l, F_o46_c, F_o46_s, F_o46_g, F_o46_v, F_o46_n, A_o47, A_o48, A_o49, A_o50, A_o51, Kp, E_t84, F_t84_k, F_t84_a, A_b85, ne_o46_t84, ne_o46_b85, ne_o47_t84, ne_o47_b85, ne_o48_t84, ne_o48_b85, ne_o49_t84, ne_o49_b85, ne_o50_t84, ne_o50_b85, ne_o51_t84, ne_o51_b85⟩
theorem rm_a32 (hw : Hw a0 Z) (yF : Int32) (yF_5 : Int32) (yF_9 : Int32) (yF_13 : Int32) (yF_17 : Int32) (nv27 : Int32) (o29 : Addr) (o46 : Addr) (k_o29 : ClassId) (k_o51 : ClassId) (k_o53 : ClassId) (o51 : Addr) (o53 : Addr) (h0 : Heap) (n0 : Nat) (Z0 : n0 ≤ h0.size) (A_o29 : Arv Z h0 o29 k_o29 .char i5 [(.int yF), (.int yF_5), (.int yF_9), (.int yF_13), (.int yF_17)] (.int i0)) (A_o53 : Arv Z h0 o53 k_o53 .char i256 [(.int i0), (.int i0), (.int i0), (.int i0), (.int i0), (.int i0), (.int i0), (.int i0)] (.int i0)) (F_o46_s : Fld Z h0 o46 cE fs "[I" (.ref o51)) (F_o46_v : Fld Z h0 o46 cE fv "[C" (.ref o53)) (F_o46_n : Fld Z h0 o46 cE "length" "I" (.int i2)) (A_o51 : Arv Z h0 o51 k_o51 .int i9 [(.int i0), (.int i0), (.int i0), (.int i0), (.int i0), (.int i0), (.int i0), (.int i0), (.int i0)] (.int i0)) (hv_nv27 : own_N nv27) (ne_o29_o51 : o29 ≠ o51) (g_o51 : n0 ≤ o51) (ne_o29_o53 : o29 ≠ o53) (g_o53 : n0 ≤ o53) (ne_o46_o51 : o46 ≠ o51) (ne_o46_o53 : o46 ≠ o53) (ne_o51_o53 : o51 ≠ o53) :
    Met l Z (⟨cE, "append", "([CII)V"⟩ : MethodName) prog_35_method_12_code 5 none (rM 1 0 0 40) [] #[(.ref o46), (.ref o29), (.int i0), (.int nv27)] h0 n0 (fun v h => v = none ∧ Arv Z h o51 k_o51 .int i9 [(.int i0), (.int i0), (.int nv27), (.int i0), (.int i0), (.int i0), (.int i0), (.int i0), (.int i0)] (.int i0) ∧ Keep h0 h [o51, o53] ∧ Arv Z h o53 k_o53 .char i256 (Y (own_ap [] [yF, yF_5, yF_9, yF_13, yF_17] (nv27).toNatClampNeg)) (.int i0)) := by
  refine Met.mkQ (tabs := tables_1) (a0 := a0) (ls0 := #[rv o46, rv o29, iv i0, iv nv27, un]) (plainFor_of_name pn_com_example_medis_medis_engine_ElementAttributes) hw Z0 (fun m => by first | (simp [entryFrame, mkF, argsToLocals, Value.category]; done) | rfl) ?_
  intro p e s m below meth c T Q' G' hQ hG C X
  have Kp : Keep h0 h0 [o51, o53] := Keep.refl _ _
  refine s_aloadN 1 C X d5_0 rfl rfl ?_
  refine s_getfield 4 C X (host := "") d5_1 (Or.inl (mW 25 rfl)) Via.refl F_o46_s (fun T X => ?_)
  refine s_aloadN 5 C X d5_4 rfl rfl ?_
  refine s_getfield 8 C X (host := "") d5_5 (Or.inl (mW 44 rfl)) Via.refl F_o46_n (fun T X => ?_)
  refine s_iaload 9 C X d5_8 A_o51 ⟨by decide, by decide⟩ (v := (.int i0)) rfl ?_
  refine s_istore 11 C X (l' := #[rv o46, rv o29, iv i0, iv nv27, iv i0]) d5_9 rfl ?_
  refine s_iload 13 C X d5_11 rfl ?_
  refine s_iloadN 14 C X d5_13 rfl ?_
  refine s_iadd 15 C X d5_14 ?_
  refine rc (st' := [(.int nv27)]) (by rw [Int32.zero_add]) ?_
  refine s_aloadN 16 C X d5_15 rfl rfl ?_
  refine s_getfield 19 C X (host := "") d5_16 (Or.inl (mW 29 rfl)) Via.refl F_o46_v (fun T X => ?_)
  refine s_arraylength 20 C X d5_19 A_o53 ?_
  refine s_icmp_le 48 23 C X d5_20 (fun c20_87 => ?_) (fun c => absurd c (own_gt0 hv_nv27))
  refine s_aloadN 49 C X d5_48 rfl rfl ?_
  refine s_iloadN 50 C X d5_49 rfl ?_
  refine s_aloadN 51 C X d5_50 rfl rfl ?_
  refine s_getfield 54 C X (host := "") d5_51 (Or.inl (mW 29 rfl)) Via.refl F_o46_v (fun T X => ?_)
  refine s_iload 56 C X d5_54 rfl ?_
  refine s_iloadN 57 C X d5_56 rfl ?_
  refine s_arraycopy 60 0 (Y (own_ap [] [yF, yF_5, yF_9, yF_13, yF_17] (nv27).toNatClampNeg)) C X d5_57 (mW 53 rfl) (mW 56 rfl) (mW 54 rfl) (mW 55 rfl) A_o29 A_o53 rfl (by decide) (by decide) (own_nn hv_nv27).1 (own_c5 hv_nv27) (own_c256 hv_nv27) (own_c8 hv_nv27) g_o53 (own_cp0 hv_nv27) rfl rfl (fun T hh X Kc A_o53 => ?_)
  have F_o46_s := F_o46_s.keep Kc (ninS ne_o46_o53 nin0)
  have F_o46_n := F_o46_n.keep Kc (ninS ne_o46_o53 nin0)
  have A_o51 := A_o51.keep Kc (ninS ne_o51_o53 nin0)
  have Kp := Kp.trans Kc (allS (Or.inl (by simp)) all0)
  refine rc (st' := []) rfl ?_
  refine s_aloadN 61 C X d5_60 rfl rfl ?_
  refine s_getfield 64 C X (host := "") d5_61 (Or.inl (mW 25 rfl)) Via.refl F_o46_s (fun T X => ?_)
  refine s_aloadN 65 C X d5_64 rfl rfl ?_
  refine s_getfield 68 C X (host := "") d5_65 (Or.inl (mW 44 rfl)) Via.refl F_o46_n (fun T X => ?_)
  refine s_iload 70 C X d5_68 rfl ?_
  refine s_iloadN 71 C X d5_70 rfl ?_
  refine s_iadd 72 C X d5_71 ?_
  refine rc (st' := [(.int nv27), (.int i2), (.ref o51)]) (by rw [Int32.zero_add]) ?_
  refine s_iastore 73 2 C X d5_72 A_o51 g_o51 ⟨by decide, by decide⟩ rfl (Nat.le_of_ble_eq_true rfl) (fun T hh X W A_o51 => ?_)
  have A_o51 : Arv Z _ o51 k_o51 .int i9 [(.int i0), (.int i0), (.int nv27), (.int i0), (.int i0), (.int i0), (.int i0), (.int i0), (.int i0)] (.int i0) := A_o51
  have Kp := Kp.wr W (Or.inl (by simp))
  have A_o53 := A_o53.other W (Ne.symm ne_o51_o53)
  refine s_return C X d5_73 rfl ?_ (FG hG (by decide) (by decide))
  exact hQ _ _ ⟨rfl, A_o51, Kp, A_o53⟩
theorem rm_a33 (hw : Hw a0 Z) (yF : Int32) (yF_5 : Int32) (yF_9 : Int32) (yF_13 : Int32) (yF_17 : Int32) (nv27 : Int32) (o46 : Addr) (k_o51 : ClassId) (k_o53 : ClassId) (o51 : Addr) (o53 : Addr) (h0 : Heap) (n0 : Nat) (Z0 : n0 ≤ h0.size) (F_o46_s : Fld Z h0 o46 cE fs "[I" (.ref o51)) (F_o46_v : Fld Z h0 o46 cE fv "[C" (.ref o53)) (F_o46_n : Fld Z h0 o46 cE "length" "I" (.int i2)) (A_o51 : Arv Z h0 o51 k_o51 .int i9 [(.int i0), (.int i0), (.int nv27), (.int i0), (.int i0), (.int i0), (.int i0), (.int i0), (.int i0)] (.int i0)) (A_o53 : Arv Z h0 o53 k_o53 .char i256 (Y (own_ap [] [yF, yF_5, yF_9, yF_13, yF_17] (nv27).toNatClampNeg)) (.int i0)) (hvB : own_B yF) (hvB_6 : own_B yF_5) (hvB_10 : own_B yF_9) (hvB_14 : own_B yF_13) (hvB_18 : own_B yF_17) (hv_nv27 : own_N nv27) (g_o51 : n0 ≤ o51) (g_o53 : n0 ≤ o53) (ne_o46_o51 : o46 ≠ o51) (ne_o46_o53 : o46 ≠ o53) (ne_o51_o53 : o51 ≠ o53) :
    Met l Z (⟨cE, "collapseLast", "()V"⟩ : MethodName) prog_35_method_13_code 5 none (rM 0 0 0 0) [] #[(.ref o46)] h0 n0 (fun v h => ∃ (tF : Int32) (xsF : List Int32), v = none ∧ own_C 0 [] [yF, yF_5, yF_9, yF_13, yF_17] nv27 xsF tF ∧ Arv Z h o51 k_o51 .int i9 [(.int i0), (.int i0), (.int tF), (.int i0), (.int i0), (.int i0), (.int i0), (.int i0), (.int i0)] (.int i0) ∧ Arv Z h o53 k_o53 .char i256 (Y xsF) (.int i0) ∧ Keep h0 h [o51, o53]) := by
  refine Met.mkQ (tabs := tables_1) (a0 := a0) (ls0 := #[rv o46, un, un, un, un]) (plainFor_of_name pn_com_example_medis_medis_engine_ElementAttributes) hw Z0 (fun m => by first | (simp [entryFrame, mkF, argsToLocals, Value.category]; done) | rfl) ?_
  intro p e s m below meth c T Q' G' hQ hG C X
  have Kp : Keep h0 h0 [o51, o53] := Keep.refl _ _
  refine s_aloadN 1 C X d6_0 rfl rfl ?_
  refine s_getfield 4 C X (host := "") d6_1 (Or.inl (mW 25 rfl)) Via.refl F_o46_s (fun T X => ?_)
  refine s_aloadN 5 C X d6_4 rfl rfl ?_
  refine s_getfield 8 C X (host := "") d6_5 (Or.inl (mW 44 rfl)) Via.refl F_o46_n (fun T X => ?_)
  refine s_iconst 9 C X d6_8 kc_iconst_1 ?_
  refine s_isub 10 C X d6_9 ?_
  refine rc (st' := [(.int i1), (.ref o51)]) (by rw [kf_8]) ?_
  refine s_iaload 11 C X d6_10 A_o51 ⟨by decide, by decide⟩ (v := (.int i0)) rfl ?_
  refine s_istoreN 12 C X (l' := #[rv o46, iv i0, un, un, un]) d6_11 rfl ?_
  refine s_aloadN 13 C X d6_12 rfl rfl ?_
  refine s_getfield 16 C X (host := "") d6_13 (Or.inl (mW 25 rfl)) Via.refl F_o46_s (fun T X => ?_)
  refine s_aloadN 17 C X d6_16 rfl rfl ?_
  refine s_getfield 20 C X (host := "") d6_17 (Or.inl (mW 44 rfl)) Via.refl F_o46_n (fun T X => ?_)
  refine s_iaload 21 C X d6_20 A_o51 ⟨by decide, by decide⟩ (v := (.int nv27)) rfl ?_
  obtain ⟨en89, e_en89⟩ : ∃ zz_ : Int32, zz_ = nv27 := ⟨_, rfl⟩
  refine rc (st' := [(.int en89)]) (by subst e_en89; rfl) ?_
  have hve_en89 : en89.toInt = (0 : Int) + nv27.toInt := own_en0 e_en89
  refine s_istoreN 22 C X (l' := #[rv o46, iv i0, iv en89, un, un]) d6_21 rfl ?_
  refine s_iloadN 23 C X d6_22 rfl ?_
  refine s_istoreN 24 C X (l' := #[rv o46, iv i0, iv en89, iv i0, un]) d6_23 rfl ?_
  refine s_iloadN 25 C X d6_24 rfl ?_
  refine s_istore 27 C X (l' := #[rv o46, iv i0, iv en89, iv i0, iv i0]) d6_25 rfl ?_
  have I90 : own_I 0 [] [yF, yF_5, yF_9, yF_13, yF_17] 0 nv27 (own_ap [] [yF, yF_5, yF_9, yF_13, yF_17] (nv27).toNatClampNeg) i0 [] := own_I0 hv_nv27 (by decide) rfl (by decide)
  suffices J27 : ∀ (k i : Nat) (T : State) (hh : Heap) (fr t : Int32) (xs out : List Int32), i + k = 5 → fr.toInt = ((0 : Nat) : Int) + i → own_I 0 [] [yF, yF_5, yF_9, yF_13, yF_17] i nv27 xs t out → (List.take i [yF, yF_5, yF_9, yF_13, yF_17]).foldl cst [] = out → (i : Int) ≤ nv27.toInt → ∀ (X : St p l e (rM 0 0 0 0) s m #[(.ref o46)] below meth c n0 T hh 0 0) (F_o46_s : Fld Z hh o46 cE fs "[I" (.ref o51)) (F_o46_v : Fld Z hh o46 cE fv "[C" (.ref o53)) (F_o46_n : Fld Z hh o46 cE "length" "I" (.int i2)) (A_o51 : Arv Z hh o51 k_o51 .int i9 [(.int i0), (.int i0), (.int nv27), (.int i0), (.int i0), (.int i0), (.int i0), (.int i0), (.int i0)] (.int i0)) (A_o53 : Arv Z hh o53 k_o53 .char i256 (Y xs) (.int i0)) (Kp : Keep h0 hh [o51, o53]), Run p e below n0 Q' G' m T 27 #[rv o46, iv i0, iv en89, iv t, iv fr] [] by
    exact J27 5 0 T _ i0 i0 _ [] rfl (by decide) I90 rfl hv_nv27.1 X F_o46_s F_o46_v F_o46_n A_o51 A_o53 Kp
  intro k
  induction k with
  | zero =>
    intro i T hh fr t xs out hk hf I ho hi X F_o46_s F_o46_v F_o46_n A_o51 A_o53 Kp
    obtain rfl : i = 5 := by omega
    refine s_iload 29 C X d6_27 rfl ?_
    refine s_iloadN 30 C X d6_29 rfl ?_
    refine s_icmp_ge 99 33 C X d6_30 (fun c30_91 => ?_) (fun c => absurd c (own_sti hv_nv27 hve_en89 hf))
    have hn_i : nv27.toInt = ((5 : Nat) : Int) := own_ex5i hi hv_nv27
    refine s_iloadN 100 C X d6_99 rfl ?_
    refine s_iloadN 101 C X d6_100 rfl ?_
    suffices J96 : ∀ (T : State) (hh : Heap) (y95 : Int32) (D96 : ((¬ ((0 : Int) < (t).toInt)) ∧ y95 = t) ∨ (((0 : Int) < (t).toInt) ∧ (¬ (((xs.getD ((t - i1)).toNatClampNeg 0)).toInt = (32 : Int))) ∧ y95 = t) ∨ (((0 : Int) < (t).toInt) ∧ (((xs.getD ((t - i1)).toNatClampNeg 0)).toInt = (32 : Int)) ∧ y95 = (t + im1))) (X : St p l e (rM 0 0 0 0) s m #[(.ref o46)] below meth c n0 T hh 0 0) (F_o46_s : Fld Z hh o46 cE fs "[I" (.ref o51)) (F_o46_n : Fld Z hh o46 cE "length" "I" (.int i2)) (A_o51 : Arv Z hh o51 k_o51 .int i9 [(.int i0), (.int i0), (.int nv27), (.int i0), (.int i0), (.int i0), (.int i0), (.int i0), (.int i0)] (.int i0)) (A_o53 : Arv Z hh o53 k_o53 .char i256 (Y xs) (.int i0)) (Kp : Keep h0 hh [o51, o53]), Run p e below n0 Q' G' m T 120 #[rv o46, iv i0, iv en89, iv y95, iv fr] [] by
      refine s_icmp_le 120 104 C X d6_101 (fun c101_92 => ?_) (fun c101_92 => ?_)
      · have t_c101_92 := inl c101_92
        exact J96 T _ (t) ((Or.inl ⟨t_c101_92, rfl⟩)) X F_o46_s F_o46_n A_o51 A_o53 Kp
      have t_c101_92 := ilt c101_92
      refine s_aloadN 105 C X d6_104 rfl rfl ?_
      refine s_getfield 108 C X (host := "") d6_105 (Or.inl (mW 29 rfl)) Via.refl F_o46_v (fun T X => ?_)
      refine s_iloadN 109 C X d6_108 rfl ?_
      refine s_iconst 110 C X d6_109 kc_iconst_1 ?_
      refine s_isub 111 C X d6_110 ?_
      refine s_caload 112 C X d6_111 A_o53 (own_ix1 I (by decide) (by decide) rfl t_c101_92) (v := (.int (xs.getD ((t - i1)).toNatClampNeg 0))) (own_getX _ _) ?_
      refine s_bipush 114 C X d6_112 kc_bipush_32 ?_
      refine s_icmp_ne 120 117 C X d6_114 (fun c114_93 => ?_) (fun c114_93 => ?_)
      · have t_c114_93 := ine c114_93
        exact J96 T _ (t) (Or.inr (Or.inl ⟨t_c101_92, t_c114_93, rfl⟩)) X F_o46_s F_o46_n A_o51 A_o53 Kp
      have t_c114_93 := ieq c114_93
      refine s_iinc 120 C X (l' := #[rv o46, iv i0, iv en89, .val (.int (t + im1)), iv fr]) d6_117 kc_iconst_m1 rfl rfl ?_
      exact J96 T _ ((t + im1)) (Or.inr (Or.inr ⟨t_c101_92, t_c114_93, rfl⟩)) X F_o46_s F_o46_n A_o51 A_o53 Kp
    intro T hh y95 D96  X F_o46_s F_o46_n A_o51 A_o53 Kp
    have hC : own_C 0 [] [yF, yF_5, yF_9, yF_13, yF_17] nv27 xs y95 := own_fin I (by decide) (by decide) hn_i ho rfl D96
    refine s_aloadN 121 C X d6_120 rfl rfl ?_
    refine s_getfield 124 C X (host := "") d6_121 (Or.inl (mW 25 rfl)) Via.refl F_o46_s (fun T X => ?_)
    refine s_aloadN 125 C X d6_124 rfl rfl ?_
    refine s_getfield 128 C X (host := "") d6_125 (Or.inl (mW 44 rfl)) Via.refl F_o46_n (fun T X => ?_)
    refine s_iloadN 129 C X d6_128 rfl ?_
    refine s_iastore 130 2 C X d6_129 A_o51 g_o51 ⟨by decide, by decide⟩ rfl (Nat.le_of_ble_eq_true rfl) (fun T hh X W A_o51 => ?_)
    have A_o51 : Arv Z _ o51 k_o51 .int i9 [(.int i0), (.int i0), (.int y95), (.int i0), (.int i0), (.int i0), (.int i0), (.int i0), (.int i0)] (.int i0) := A_o51
    have A_o53 := A_o53.other W (Ne.symm ne_o51_o53)
    have Kp := Kp.wr W (Or.inl (by simp))
    refine s_return C X d6_130 rfl ?_ (FG hG (by decide) (by decide))
    obtain ⟨xsF, e_xsF⟩ : ∃ z : List Int32, z = xs := ⟨_, rfl⟩
    rw [← e_xsF] at A_o53 hC
    obtain ⟨tF, e_tF⟩ : ∃ z : Int32, z = y95 := ⟨_, rfl⟩
    rw [← e_tF] at A_o51 hC
    have hvC := hC
    exact hQ _ _ ⟨tF, xsF, rfl, hvC, A_o51, A_o53, Kp⟩
  | succ k ih =>
    intro i T hh fr t xs out hk hf I ho hi X F_o46_s F_o46_v F_o46_n A_o51 A_o53 Kp
    have hi4 : i ≤ 4 := by omega
    refine s_iload 29 C X d6_27 rfl ?_
    refine s_iloadN 30 C X d6_29 rfl ?_
    refine s_icmp_ge 99 33 C X d6_30 (fun c30_97 => ?_) (fun c30_97 => ?_)
    · have t_c30_97 := inl c30_97
      have hn_i : nv27.toInt = ((i : Nat) : Int) := own_exi t_c30_97 hf hve_en89 hi
      refine s_iloadN 100 C X d6_99 rfl ?_
      refine s_iloadN 101 C X d6_100 rfl ?_
      suffices J102 : ∀ (T : State) (hh : Heap) (y101 : Int32) (D102 : ((¬ ((0 : Int) < (t).toInt)) ∧ y101 = t) ∨ (((0 : Int) < (t).toInt) ∧ (¬ (((xs.getD ((t - i1)).toNatClampNeg 0)).toInt = (32 : Int))) ∧ y101 = t) ∨ (((0 : Int) < (t).toInt) ∧ (((xs.getD ((t - i1)).toNatClampNeg 0)).toInt = (32 : Int)) ∧ y101 = (t + im1))) (X : St p l e (rM 0 0 0 0) s m #[(.ref o46)] below meth c n0 T hh 0 0) (F_o46_s : Fld Z hh o46 cE fs "[I" (.ref o51)) (F_o46_n : Fld Z hh o46 cE "length" "I" (.int i2)) (A_o51 : Arv Z hh o51 k_o51 .int i9 [(.int i0), (.int i0), (.int nv27), (.int i0), (.int i0), (.int i0), (.int i0), (.int i0), (.int i0)] (.int i0)) (A_o53 : Arv Z hh o53 k_o53 .char i256 (Y xs) (.int i0)) (Kp : Keep h0 hh [o51, o53]), Run p e below n0 Q' G' m T 120 #[rv o46, iv i0, iv en89, iv y101, iv fr] [] by
        refine s_icmp_le 120 104 C X d6_101 (fun c101_98 => ?_) (fun c101_98 => ?_)
        · have t_c101_98 := inl c101_98
          exact J102 T _ (t) ((Or.inl ⟨t_c101_98, rfl⟩)) X F_o46_s F_o46_n A_o51 A_o53 Kp
        have t_c101_98 := ilt c101_98
        refine s_aloadN 105 C X d6_104 rfl rfl ?_
        refine s_getfield 108 C X (host := "") d6_105 (Or.inl (mW 29 rfl)) Via.refl F_o46_v (fun T X => ?_)
        refine s_iloadN 109 C X d6_108 rfl ?_
        refine s_iconst 110 C X d6_109 kc_iconst_1 ?_
        refine s_isub 111 C X d6_110 ?_
        refine s_caload 112 C X d6_111 A_o53 (own_ix1 I (by decide) (Nat.le_succ_of_le hi4) rfl t_c101_98) (v := (.int (xs.getD ((t - i1)).toNatClampNeg 0))) (own_getX _ _) ?_
        refine s_bipush 114 C X d6_112 kc_bipush_32 ?_
        refine s_icmp_ne 120 117 C X d6_114 (fun c114_99 => ?_) (fun c114_99 => ?_)
        · have t_c114_99 := ine c114_99
          exact J102 T _ (t) (Or.inr (Or.inl ⟨t_c101_98, t_c114_99, rfl⟩)) X F_o46_s F_o46_n A_o51 A_o53 Kp
        have t_c114_99 := ieq c114_99
        refine s_iinc 120 C X (l' := #[rv o46, iv i0, iv en89, .val (.int (t + im1)), iv fr]) d6_117 kc_iconst_m1 rfl rfl ?_
        exact J102 T _ ((t + im1)) (Or.inr (Or.inr ⟨t_c101_98, t_c114_99, rfl⟩)) X F_o46_s F_o46_n A_o51 A_o53 Kp
      intro T hh y101 D102  X F_o46_s F_o46_n A_o51 A_o53 Kp
      have hC : own_C 0 [] [yF, yF_5, yF_9, yF_13, yF_17] nv27 xs y101 := own_fin I (by decide) (Nat.le_succ_of_le hi4) hn_i ho rfl D102
      refine s_aloadN 121 C X d6_120 rfl rfl ?_
      refine s_getfield 124 C X (host := "") d6_121 (Or.inl (mW 25 rfl)) Via.refl F_o46_s (fun T X => ?_)
      refine s_aloadN 125 C X d6_124 rfl rfl ?_
      refine s_getfield 128 C X (host := "") d6_125 (Or.inl (mW 44 rfl)) Via.refl F_o46_n (fun T X => ?_)
      refine s_iloadN 129 C X d6_128 rfl ?_
      refine s_iastore 130 2 C X d6_129 A_o51 g_o51 ⟨by decide, by decide⟩ rfl (Nat.le_of_ble_eq_true rfl) (fun T hh X W A_o51 => ?_)
      have A_o51 : Arv Z _ o51 k_o51 .int i9 [(.int i0), (.int i0), (.int y101), (.int i0), (.int i0), (.int i0), (.int i0), (.int i0), (.int i0)] (.int i0) := A_o51
      have A_o53 := A_o53.other W (Ne.symm ne_o51_o53)
      have Kp := Kp.wr W (Or.inl (by simp))
      refine s_return C X d6_130 rfl ?_ (FG hG (by decide) (by decide))
      obtain ⟨xsF, e_xsF⟩ : ∃ z : List Int32, z = xs := ⟨_, rfl⟩
      rw [← e_xsF] at A_o53 hC
      obtain ⟨tF, e_tF⟩ : ∃ z : Int32, z = y101 := ⟨_, rfl⟩
      rw [← e_tF] at A_o51 hC
      have hvC := hC
      exact hQ _ _ ⟨tF, xsF, rfl, hvC, A_o51, A_o53, Kp⟩
    have t_c30_97 := ilt c30_97
    obtain ⟨ci, e_ci⟩ : ∃ z : Int32, z = List.getD [yF, yF_5, yF_9, yF_13, yF_17] i 0 := ⟨_, rfl⟩
    have hvci : own_B ci := own_getB (own_B5 hvB hvB_6 hvB_10 hvB_14 hvB_18) (by show i < 5; omega) e_ci
    refine s_aloadN 34 C X d6_33 rfl rfl ?_
    refine s_getfield 37 C X (host := "") d6_34 (Or.inl (mW 29 rfl)) Via.refl F_o46_v (fun T X => ?_)
    refine s_iload 39 C X d6_37 rfl ?_
    refine s_caload 40 C X d6_39 A_o53 (own_fr hf (by decide) (Nat.le_succ_of_le hi4)) (v := (.int ci)) (own_ldi I t_c30_97 hf hve_en89 e_ci) ?_
    refine s_bipush 42 C X d6_40 kc_bipush_32 ?_
    suffices J109 : ∀ (T : State) (hh : Heap) (y107 : Int32) (y108 : List Int32) (D109 : (((ci).toInt = (32 : Int)) ∧ (¬ ((0 : Int) < (t).toInt)) ∧ y107 = t ∧ y108 = xs) ∨ (((ci).toInt = (32 : Int)) ∧ ((0 : Int) < (t).toInt) ∧ (((xs.getD ((t - i1)).toNatClampNeg 0)).toInt = (32 : Int)) ∧ y107 = t ∧ y108 = xs) ∨ (((ci).toInt = (32 : Int)) ∧ ((0 : Int) < (t).toInt) ∧ (¬ (((xs.getD ((t - i1)).toNatClampNeg 0)).toInt = (32 : Int))) ∧ y107 = (t + i1) ∧ y108 = (xs.set (t).toNatClampNeg i32)) ∨ ((¬ ((ci).toInt = (32 : Int))) ∧ y107 = (t + i1) ∧ y108 = (xs.set (t).toNatClampNeg ci))) (X : St p l e (rM 0 0 0 0) s m #[(.ref o46)] below meth c n0 T hh 0 0) (F_o46_s : Fld Z hh o46 cE fs "[I" (.ref o51)) (F_o46_v : Fld Z hh o46 cE fv "[C" (.ref o53)) (F_o46_n : Fld Z hh o46 cE "length" "I" (.int i2)) (A_o51 : Arv Z hh o51 k_o51 .int i9 [(.int i0), (.int i0), (.int nv27), (.int i0), (.int i0), (.int i0), (.int i0), (.int i0), (.int i0)] (.int i0)) (A_o53 : Arv Z hh o53 k_o53 .char i256 (Y y108) (.int i0)) (Kp : Keep h0 hh [o51, o53]), Run p e below n0 Q' G' m T 93 #[rv o46, iv i0, iv en89, iv y107, iv fr] [] by
      refine s_icmp_eq 64 45 C X d6_42 (fun c42_103 => ?_) (fun c42_103 => ?_)
      · have t_c42_103 := ieq c42_103
        refine s_iloadN 65 C X d6_64 rfl ?_
        refine s_iloadN 66 C X d6_65 rfl ?_
        refine s_icmp_le 93 69 C X d6_66 (fun c66_104 => ?_) (fun c66_104 => ?_)
        · have t_c66_104 := inl c66_104
          exact J109 T _ (t) (xs) ((Or.inl ⟨t_c42_103, t_c66_104, rfl, rfl⟩)) X F_o46_s F_o46_v F_o46_n A_o51 A_o53 Kp
        have t_c66_104 := ilt c66_104
        refine s_aloadN 70 C X d6_69 rfl rfl ?_
        refine s_getfield 73 C X (host := "") d6_70 (Or.inl (mW 29 rfl)) Via.refl F_o46_v (fun T X => ?_)
        refine s_iloadN 74 C X d6_73 rfl ?_
        refine s_iconst 75 C X d6_74 kc_iconst_1 ?_
        refine s_isub 76 C X d6_75 ?_
        refine s_caload 77 C X d6_76 A_o53 (own_ix1 I (by decide) (Nat.le_succ_of_le hi4) rfl t_c66_104) (v := (.int (xs.getD ((t - i1)).toNatClampNeg 0))) (own_getX _ _) ?_
        refine s_bipush 79 C X d6_77 kc_bipush_32 ?_
        refine s_icmp_eq 93 82 C X d6_79 (fun c79_105 => ?_) (fun c79_105 => ?_)
        · have t_c79_105 := ieq c79_105
          exact J109 T _ (t) (xs) (Or.inr (Or.inl ⟨t_c42_103, t_c66_104, t_c79_105, rfl, rfl⟩)) X F_o46_s F_o46_v F_o46_n A_o51 A_o53 Kp
        have t_c79_105 := ine c79_105
        refine s_aloadN 83 C X d6_82 rfl rfl ?_
        refine s_getfield 86 C X (host := "") d6_83 (Or.inl (mW 29 rfl)) Via.refl F_o46_v (fun T X => ?_)
        refine s_iloadN 87 C X d6_86 rfl ?_
        refine s_iinc 90 C X (l' := #[rv o46, iv i0, iv en89, .val (.int (t + i1)), iv fr]) d6_87 kc_iconst_1 rfl rfl ?_
        refine s_bipush 92 C X d6_90 kc_bipush_32 ?_
        refine s_castore 93 (t).toNatClampNeg C X d6_92 A_o53 g_o53 (own_ix I (by decide) (Nat.le_succ_of_le hi4)).1 rfl ((own_ix I (by decide) (Nat.le_succ_of_le hi4)).2 hi4) (fun T hh X W A_o53 => ?_)
        have F_o46_s := F_o46_s.other W (Or.inl ne_o46_o53)
        have F_o46_v := F_o46_v.other W (Or.inl ne_o46_o53)
        have F_o46_n := F_o46_n.other W (Or.inl ne_o46_o53)
        have A_o51 := A_o51.other W ne_o51_o53
        have Kp := Kp.wr W (Or.inl (by simp))
        rw [own_setX, kn32] at A_o53
        exact J109 T _ ((t + i1)) ((xs.set (t).toNatClampNeg i32)) (Or.inr (Or.inr (Or.inl ⟨t_c42_103, t_c66_104, t_c79_105, rfl, rfl⟩))) X F_o46_s F_o46_v F_o46_n A_o51 A_o53 Kp
      have t_c42_103 := ine c42_103
      refine s_aloadN 46 C X d6_45 rfl rfl ?_
      refine s_getfield 49 C X (host := "") d6_46 (Or.inl (mW 29 rfl)) Via.refl F_o46_v (fun T X => ?_)
      refine s_iloadN 50 C X d6_49 rfl ?_
      refine s_iinc 53 C X (l' := #[rv o46, iv i0, iv en89, .val (.int (t + i1)), iv fr]) d6_50 kc_iconst_1 rfl rfl ?_
      refine s_aloadN 54 C X d6_53 rfl rfl ?_
      refine s_getfield 57 C X (host := "") d6_54 (Or.inl (mW 29 rfl)) Via.refl F_o46_v (fun T X => ?_)
      refine s_iload 59 C X d6_57 rfl ?_
      refine s_caload 60 C X d6_59 A_o53 (own_fr hf (by decide) (Nat.le_succ_of_le hi4)) (v := (.int ci)) (own_ldi I t_c30_97 hf hve_en89 e_ci) ?_
      refine s_castore 61 (t).toNatClampNeg C X d6_60 A_o53 g_o53 (own_ix I (by decide) (Nat.le_succ_of_le hi4)).1 rfl ((own_ix I (by decide) (Nat.le_succ_of_le hi4)).2 hi4) (fun T hh X W A_o53 => ?_)
      have F_o46_s := F_o46_s.other W (Or.inl ne_o46_o53)
      have F_o46_v := F_o46_v.other W (Or.inl ne_o46_o53)
      have F_o46_n := F_o46_n.other W (Or.inl ne_o46_o53)
      have A_o51 := A_o51.other W ne_o51_o53
      have Kp := Kp.wr W (Or.inl (by simp))
      rw [own_setX, own_nc hvci] at A_o53
      refine s_goto 93 C X d6_61 ?_
      exact J109 T _ ((t + i1)) ((xs.set (t).toNatClampNeg ci)) (Or.inr (Or.inr (Or.inr ⟨t_c42_103, rfl, rfl⟩))) X F_o46_s F_o46_v F_o46_n A_o51 A_o53 Kp
    intro T hh y107 y108 D109  X F_o46_s F_o46_v F_o46_n A_o51 A_o53 Kp
    have I110 : own_I 0 [] [yF, yF_5, yF_9, yF_13, yF_17] (i + 1) nv27 y108 y107 (cst out ci) := own_stp I (by decide) hi4 rfl D109
    refine s_iinc 96 C X (l' := #[rv o46, iv i0, iv en89, iv y107, .val (.int (fr + i1))]) d6_93 kc_iconst_1 rfl rfl ?_
    refine s_goto 27 C X d6_96 ?_
    exact ih (i + 1) T _ (fr + i1) y107 y108 (cst out ci) (by omega) (own_fr1 hf (by decide) hi4) I110 (own_fold (by show i < 5; omega) ho e_ci) (own_lti t_c30_97 hf hve_en89) X F_o46_s F_o46_v F_o46_n A_o51 A_o53 Kp
theorem rm_a34 (hw : Hw a0 Z) (cs : Int32) (fm : Value) (yF : Int32) (yF_5 : Int32) (yF_9 : Int32) (yF_13 : Int32) (yF_17 : Int32) (nv27 : Int32) (o46 : Addr) (k_o51 : ClassId) (k_o52 : ClassId) (k_o53 : ClassId) (o51 : Addr) (o52 : Addr) (o53 : Addr) (tF : Int32) (xsF : List Int32) (h0 : Heap) (n0 : Nat) (Z0 : n0 ≤ h0.size) (Od : Old Z n0 h0) (S_cs : Sta Z Z.heap cS cC "Z" (.int cs)) (S_fm : Sta Z Z.heap cP cM cF fm) (A_o52 : Arv Z h0 o52 k_o52 (.object cS) i8 [.null, .null, .null, .null, .null, .null, .null, .null] .null) (F_o46_s : Fld Z h0 o46 cE fs "[I" (.ref o51)) (F_o46_g : Fld Z h0 o46 cE fg cG (.ref o52)) (F_o46_v : Fld Z h0 o46 cE fv "[C" (.ref o53)) (A_o51 : Arv Z h0 o51 k_o51 .int i9 [(.int i0), (.int i0), (.int tF), (.int i0), (.int i0), (.int i0), (.int i0), (.int i0), (.int i0)] (.int i0)) (A_o53 : Arv Z h0 o53 k_o53 .char i256 (Y xsF) (.int i0)) (hv_cs : ¬ cs = i0) (hv_fm : fm.isRef = true) (hvB : own_B yF) (hvB_6 : own_B yF_5) (hvB_10 : own_B yF_9) (hvB_14 : own_B yF_13) (hvB_18 : own_B yF_17) (g_o52 : n0 ≤ o52) (ne_o46_o52 : o46 ≠ o52) (ne_o51_o52 : o51 ≠ o52) (ne_o52_o53 : o52 ≠ o53) (O_o52 : Ovr Z k_o52 cS) (hvC : own_C 0 [] [yF, yF_5, yF_9, yF_13, yF_17] nv27 xsF tF) :
    MetH l Z EL1 [] (⟨cE, "value", "(I)Ljava/lang/String;"⟩ : MethodName) prog_35_method_7_code 2 (some (.object cS)) (rM 4 5 12 70) [] #[(.ref o46), (.int i1)] h0 n0 (fun v h => ∃ (bF : Addr) (k_bF : ClassId) (m277 : Int32) (o276 : Addr) (zsF : List Int32), v = some (.ref o276) ∧ m277.toInt = (col [yF, yF_5, yF_9, yF_13, yF_17] nv27.toNatClampNeg).length ∧ own_Z 0 xsF m277 zsF ∧ Arv Z h o52 k_o52 (.object cS) i8 [.null, (.ref o276), .null, .null, .null, .null, .null, .null] .null ∧ Keep h0 h [o52] ∧ Exa Z h o276 cS ∧ Fld Z h o276 cS "value" "[B" (.ref bF) ∧ Fld Z h o276 cS "coder" "B" (.int i0) ∧ Old Z n0 h ∧ Arv Z h bF k_bF .byte m277 (Y zsF) (.int i0) ∧ o52 ≠ o276 ∧ h0.size ≤ o276 ∧ n0 ≤ o276 ∧ bF ≠ o52) := by
  refine MetH.mkQ (tabs := tables_1) (a0 := a0) (ls0 := #[rv o46, iv i1]) (plainFor_of_name pn_com_example_medis_medis_engine_ElementAttributes) hw Z0 (fun m => by first | (simp [entryFrame, mkF, argsToLocals, Value.category]; done) | rfl) ?_
  intro p e s m below meth c T Q' G' vm k1 hQ hG C X hS Rc hso
  have Kp : Keep h0 h0 [o52] := Keep.refl _ _
  refine s_aloadN 1 C X d9_0 rfl rfl ?_
  refine s_getfield 4 C X (host := "") d9_1 (Or.inl (mW 27 rfl)) Via.refl F_o46_g (fun T X => ?_)
  refine s_iloadN 5 C X d9_4 rfl ?_
  refine s_aaload 6 C X d9_5 A_o52 rfl ⟨by decide, by decide⟩ (v := .null) rfl ?_
  refine s_ifnonnullN 9 C X d9_6 ?_
  refine s_aloadN 10 C X d9_9 rfl rfl ?_
  refine s_getfield 13 C X (host := "") d9_10 (Or.inl (mW 27 rfl)) Via.refl F_o46_g (fun T X => ?_)
  refine s_iloadN 14 C X d9_13 rfl ?_
  refine s_new 17 C X d9_14 (mW 14 rfl) (mW 33 rfl) (mW 32 rfl) (fun T hh o276 hb_o276 X E E_o276 D g_o276 => ?_)
  have H_o276 : Safe Z EL1 vm _ o276 := Safe.ext E Rc.1.1 (Safe.new (Nat.le_of_eq hb_o276))
  have Rc := Rc.ext E
  have ne_o52_o276 : o52 ≠ o276 := Nat.ne_of_lt (Nat.lt_of_lt_of_le A_o52.lt (Nat.le_of_eq hb_o276))
  have ne_o46_o276 : o46 ≠ o276 := Nat.ne_of_lt (Nat.lt_of_lt_of_le F_o46_s.lt (Nat.le_of_eq hb_o276))
  have ne_o53_o276 : o53 ≠ o276 := Nat.ne_of_lt (Nat.lt_of_lt_of_le A_o53.lt (Nat.le_of_eq hb_o276))
  have sz_o276 : h0.size ≤ o276 := Nat.le_trans Kp.1 (Nat.le_of_eq hb_o276)
  have Od := Od.ext E
  have A_o52 := A_o52.ext E
  have F_o46_s := F_o46_s.ext E
  have F_o46_g := F_o46_g.ext E
  have F_o46_v := F_o46_v.ext E
  have A_o51 := A_o51.ext E
  have A_o53 := A_o53.ext E
  have Kp := Kp.ext E
  have F_o276_a : Fld Z _ o276 cS "value" "[B" .null := D (Or.inr (hw _ (mW 35 rfl))) (ty := (.array .byte)) (by decide)
  have F_o276_k : Fld Z _ o276 cS "coder" "B" (.int i0) := D (Or.inr (hw _ (mW 36 rfl))) (ty := .byte) (by decide)
  refine s_dup 18 C X d9_17 rfl ?_
  refine s_aloadN 19 C X d9_18 rfl rfl ?_
  refine s_getfield 22 C X (host := "") d9_19 (Or.inl (mW 29 rfl)) Via.refl F_o46_v (fun T X => ?_)
  refine s_aloadN 23 C X d9_22 rfl rfl ?_
  refine s_getfield 26 C X (host := "") d9_23 (Or.inl (mW 25 rfl)) Via.refl F_o46_s (fun T X => ?_)
  refine s_iloadN 27 C X d9_26 rfl ?_
  refine s_iaload 28 C X d9_27 A_o51 ⟨by decide, by decide⟩ (v := (.int i0)) rfl ?_
  refine s_aloadN 29 C X d9_28 rfl rfl ?_
  refine s_getfield 32 C X (host := "") d9_29 (Or.inl (mW 25 rfl)) Via.refl F_o46_s (fun T X => ?_)
  refine s_iloadN 33 C X d9_32 rfl ?_
  refine s_iconst 34 C X d9_33 kc_iconst_1 ?_
  refine s_iadd 35 C X d9_34 ?_
  refine rc (st' := [(.int i2), (.ref o51), (.int i0), (.ref o53), (.ref o276), (.ref o276), (.int i1), (.ref o52)]) (by rw [kf_7]) ?_
  refine s_iaload 36 C X d9_35 A_o51 ⟨by decide, by decide⟩ (v := (.int tF)) rfl ?_
  refine s_aloadN 37 C X d9_36 rfl rfl ?_
  refine s_getfield 40 C X (host := "") d9_37 (Or.inl (mW 25 rfl)) Via.refl F_o46_s (fun T X => ?_)
  refine s_iloadN 41 C X d9_40 rfl ?_
  refine s_iaload 42 C X d9_41 A_o51 ⟨by decide, by decide⟩ (v := (.int i0)) rfl ?_
  refine s_isub 43 C X d9_42 ?_
  refine rc (st' := [(.int tF), (.int i0), (.ref o53), (.ref o276), (.ref o276), (.int i1), (.ref o52)]) (by rw [Int32.sub_zero]) ?_
  obtain ⟨m277, e_m277⟩ : ∃ zz_ : Int32, zz_ = tF := ⟨_, rfl⟩
  refine rc (st' := [(.int m277), (.int i0), (.ref o53), (.ref o276), (.ref o276), (.int i1), (.ref o52)]) (by subst e_m277; rfl) ?_
  have qm := own_m0 hvC e_m277 (own_B5 hvB hvB_6 hvB_10 hvB_14 hvB_18)
  have hvN_m277 : own_N m277 := qm.1
  have hvW_m277 : own_W 0 xsF m277 := qm.2.1
  have hvL : m277.toInt = (col [yF, yF_5, yF_9, yF_13, yF_17] nv27.toNatClampNeg).length := qm.2.2
  refine s_hcallC 46 [(.ref o53), (.int i0), (.int m277)] [(.ref o276), (.int i1), (.ref o52)] 3 C X hS Rc.2 (own_EL hw) Rc.1.1 d9_43 rfl (mW 73 rfl) (mW 74 rfl) (mW 32 rfl) (mW 75 rfl) (rm_a19 l Z a0 hw cs fm k_o53 o53 xsF o276 m277 _ n0 X.sz Od S_cs S_fm A_o53 E_o276 F_o276_a F_o276_k hv_cs hv_fm ne_o53_o276 g_o276 hvN_m277 hvW_m277) (lenOf pd___CII_V rfl) rfl rfl rfl (soS ⟨E_o276.lt, H_o276⟩ so0) (fun T v hh vm k1 C X hS Nk Rn q => ?_)
  obtain ⟨bF, k_bF, zsF, rfl, hvZ, Kc, E_o276, F_o276_a, F_o276_k, Od, A_bF⟩ := q
  have Rc := Rc.call Rn Nk
  have A_o52 := A_o52.keep Kc (ninS ne_o52_o276 nin0)
  have F_o46_g := F_o46_g.keep Kc (ninS ne_o46_o276 nin0)
  have Kp := Kp.trans Kc (allS (Or.inr sz_o276) all0)
  refine rc (st' := [(.ref o276), (.int i1), (.ref o52)]) rfl ?_
  have ne_bF_o52 : bF ≠ o52 := own_ane A_bF A_o52 (by decide)
  have Sf : Safe Z EL1 vm _ o52 := (Safe.arv C.2.1.alike A_o52 (by decide))
  refine s_aastore 47 1 C X d9_46 A_o52 rfl rfl (fun _ A q => Sto.ofV A q O_o52 (Ins.self E_o276)) g_o52 ⟨by decide, by decide⟩ rfl (Nat.le_of_ble_eq_true rfl) (fun T hh X W A_o52 => ?_)
  have A_o52 : Arv Z _ o52 k_o52 (.object cS) i8 [.null, (.ref o276), .null, .null, .null, .null, .null, .null] .null := A_o52
  have Rc := Rc.wr W Sf
  have F_o46_g := F_o46_g.other W (Or.inl ne_o46_o52)
  have Kp := Kp.wr W (Or.inl (by simp))
  have E_o276 := E_o276.wr W
  have F_o276_a := F_o276_a.other W (Or.inl (Ne.symm ne_o52_o276))
  have F_o276_k := F_o276_k.other W (Or.inl (Ne.symm ne_o52_o276))
  have Od := Od.wr W g_o52
  have A_bF := A_bF.other W ne_bF_o52
  refine s_aloadN 48 C X d9_47 rfl rfl ?_
  refine s_getfield 51 C X (host := "") d9_48 (Or.inl (mW 27 rfl)) Via.refl F_o46_g (fun T X => ?_)
  refine s_iloadN 52 C X d9_51 rfl ?_
  refine s_aaload 53 C X d9_52 A_o52 rfl ⟨by decide, by decide⟩ (v := (.ref o276)) rfl ?_
  refine s_areturn C X d9_53 rfl rfl rfl ?_ (FGH hG hS Rc C (own_EL hw))
  exact hQ _ _ ⟨bF, k_bF, m277, o276, zsF, rfl, hvL, hvZ, A_o52, Kp, E_o276, F_o276_a, F_o276_k, Od, A_bF, ne_o52_o276, sz_o276, g_o276, ne_bF_o52⟩
theorem rm_a35 (hw : Hw a0 Z) (o46 : Addr) (h0 : Heap) (n0 : Nat) (Z0 : n0 ≤ h0.size) (F_o46_n : Fld Z h0 o46 cE "length" "I" (.int i2)) :
    Met l Z (⟨cE, "length", "()I"⟩ : MethodName) prog_35_method_2_code 1 (some .int) (rM 0 0 0 0) [] #[(.ref o46)] h0 n0 (fun v h => v = some (.int i2) ∧ Keep h0 h []) := by
  refine Met.mkQ (tabs := tables_1) (a0 := a0) (ls0 := #[rv o46]) (plainFor_of_name pn_com_example_medis_medis_engine_ElementAttributes) hw Z0 (fun m => by first | (simp [entryFrame, mkF, argsToLocals, Value.category]; done) | rfl) ?_
  intro p e s m below meth c T Q' G' hQ hG C X
  have Kp : Keep h0 h0 [] := Keep.refl _ _
  refine s_aloadN 1 C X d18_0 rfl rfl ?_
  refine s_getfield 4 C X (host := "") d18_1 (Or.inl (mW 44 rfl)) Via.refl F_o46_n (fun T X => ?_)
  refine s_ireturn C X d18_4 rfl ?_ (FG hG (by decide) (by decide))
  exact hQ _ _ ⟨rfl, Kp⟩
theorem rm_a36 (hw : Hw a0 Z) (fm : Value) (h0 : Heap) (n0 : Nat) (Z0 : n0 ≤ h0.size) (hv_fm : fm.isRef = true) :
    Met l Z (⟨cP, "checkFromIndexSize", sI⟩ : MethodName) jdk_41_method_13_code 4 (some .int) (rM 0 0 0 0) [] #[(.int i0), (.int i0), (.int i256), fm] h0 n0 (fun v h => v = some (.int i0) ∧ Keep h0 h []) := by
  refine Met.mkQ (tabs := tables_1) (a0 := a0) (ls0 := #[iv i0, iv i0, iv i256, .val fm]) (plainFor_of_name pn_jdk_internal_util_Preconditions) hw Z0 (fun m => by first | (simp [entryFrame, mkF, argsToLocals, Value.category]; done) | rfl | (cases fm <;> first | (simp [entryFrame, mkF, argsToLocals, Value.category]; done) | (exact absurd hv_fm (by simp [Value.isRef])))) ?_
  intro p e s m below meth c T Q' G' hQ hG C X
  have Kp : Keep h0 h0 [] := Keep.refl _ _
  refine s_iloadN 1 C X d13_0 rfl ?_
  refine s_iloadN 2 C X d13_1 rfl ?_
  refine s_ior 3 C X d13_2 ?_
  refine rc (st' := [(.int i256)]) (by rw [kf_2]) ?_
  refine s_iloadN 4 C X d13_3 rfl ?_
  refine s_ior 5 C X d13_4 ?_
  refine rc (st' := [(.int i256)]) (by rw [kf_2]) ?_
  refine s_if_lt 15 8 C X d13_5 (fun c => absurd c (by decide)) (fun _ => ?_)
  refine s_iloadN 9 C X d13_8 rfl ?_
  refine s_iloadN 10 C X d13_9 rfl ?_
  refine s_iloadN 11 C X d13_10 rfl ?_
  refine s_isub 12 C X d13_11 ?_
  refine rc (st' := [(.int i256), (.int i0)]) (by rw [kf_3]) ?_
  refine s_icmp_le 23 15 C X d13_12 (fun _ => ?_) (fun c => absurd c (by decide))
  refine s_iloadN 24 C X d13_23 rfl ?_
  refine s_ireturn C X d13_24 rfl ?_ (FG hG (by decide) (by decide))
  exact hQ _ _ ⟨rfl, Kp⟩
theorem rm_a37 (hw : Hw a0 Z) (fm : Value) (h0 : Heap) (n0 : Nat) (Z0 : n0 ≤ h0.size) (S_fm : Sta Z Z.heap cP cM cF fm) (Od : Old Z n0 h0) (hv_fm : fm.isRef = true) :
    Met l Z (⟨cS, "checkBoundsOffCount", "(III)I"⟩ : MethodName) jdk_42_method_157_code 3 (some .int) (rM 1 0 0 15) [] #[(.int i0), (.int i0), (.int i256)] h0 n0 (fun v h => v = some (.int i0) ∧ Old Z n0 h ∧ Keep h0 h []) := by
  refine Met.mkQ (tabs := tables_1) (a0 := a0) (ls0 := #[iv i0, iv i0, iv i256]) (plainFor_of_name pn_java_lang_String) hw Z0 (fun m => by first | (simp [entryFrame, mkF, argsToLocals, Value.category]; done) | rfl) ?_
  intro p e s m below meth c T Q' G' hQ hG C X
  have Kp : Keep h0 h0 [] := Keep.refl _ _
  refine s_iloadN 1 C X d12_0 rfl ?_
  refine s_iloadN 2 C X d12_1 rfl ?_
  refine s_iloadN 3 C X d12_2 rfl ?_
  refine s_getstatic 6 C X (host := "") d12_3 (Or.inl (mW 82 rfl)) Via.refl (S_fm.ext Od.2) (fun T X => ?_)
  refine s_callS 9 [(.int i0), (.int i0), (.int i256), fm] [] 0 C X d12_6 (mW 84 rfl) (mW 85 rfl) (mW 83 rfl) (mW 86 rfl) (rm_a36 l Z a0 hw fm _ n0 X.sz hv_fm) (lenOf pd__IIILjava_util_function_BiFunction__I rfl) rfl rfl rfl (fun T v hh X q => ?_)
  obtain ⟨rfl, Kc⟩ := q
  have Od := Od.keep Kc all0
  have Kp := Kp.trans Kc all0
  refine rc (st' := [(.int i0)]) rfl ?_
  refine s_ireturn C X d12_9 rfl ?_ (FG hG (by decide) (by decide))
  exact hQ _ _ ⟨rfl, Od, Kp⟩
theorem rm_a38 (hw : Hw a0 Z) (fm : Value) (k_o53 : ClassId) (o53 : Addr) (xsF : List Int32) (h0 : Heap) (n0 : Nat) (Z0 : n0 ≤ h0.size) (S_fm : Sta Z Z.heap cP cM cF fm) (A_o53 : Arv Z h0 o53 k_o53 .char i256 (Y xsF) (.int i0)) (Od : Old Z n0 h0) (hv_fm : fm.isRef = true) :
    Met l Z (⟨cS, "rangeCheck", "([CII)Ljava/lang/Void;"⟩ : MethodName) jdk_42_method_5_code 3 (some (.object "java/lang/Void")) (rM 2 0 0 29) [] #[(.ref o53), (.int i0), (.int i0)] h0 n0 (fun v h => v = some .null ∧ Keep h0 h [] ∧ Old Z n0 h) := by
  refine Met.mkQ (tabs := tables_1) (a0 := a0) (ls0 := #[rv o53, iv i0, iv i0]) (plainFor_of_name pn_java_lang_String) hw Z0 (fun m => by first | (simp [entryFrame, mkF, argsToLocals, Value.category]; done) | rfl) ?_
  intro p e s m below meth c T Q' G' hQ hG C X
  have Kp : Keep h0 h0 [] := Keep.refl _ _
  refine s_iloadN 1 C X d11_0 rfl ?_
  refine s_iloadN 2 C X d11_1 rfl ?_
  refine s_aloadN 3 C X d11_2 rfl rfl ?_
  refine s_arraylength 4 C X d11_3 A_o53 ?_
  refine s_callS 7 [(.int i0), (.int i0), (.int i256)] [] 0 C X d11_4 (mW 79 rfl) (mW 80 rfl) (mW 32 rfl) (mW 81 rfl) (rm_a37 l Z a0 hw fm _ n0 X.sz S_fm Od hv_fm) (lenOf pd__III_I rfl) rfl rfl rfl (fun T v hh X q => ?_)
  obtain ⟨rfl, Od, Kc⟩ := q
  have Kp := Kp.trans Kc all0
  refine rc (st' := [(.int i0)]) rfl ?_
  refine s_pop 8 C X d11_7 rfl ?_
  refine s_aconstNull 9 C X d11_8 ?_
  refine s_areturn C X d11_9 rfl rfl rfl ?_ (FG hG (by decide) (by decide))
  exact hQ _ _ ⟨rfl, Kp, Od⟩
theorem rm_a39 (hw : Hw a0 Z) (o53 : Addr) (o421 : Addr) (h0 : Heap) (n0 : Nat) (Z0 : n0 ≤ h0.size) (E_o421 : Exa Z h0 o421 cS) (F_o421_a : Fld Z h0 o421 cS "value" "[B" .null) (F_o421_k : Fld Z h0 o421 cS "coder" "B" (.int i0)) (g_o421 : n0 ≤ o421) :
    MetH l Z EL1 [o421] (⟨cS, "<init>", sV⟩ : MethodName) jdk_42_method_149_code 6 none (rM 1 4 8 12) [] #[(.ref o421), (.ref o53), (.int i0), (.int i0), .null] h0 n0 (fun v h => ∃ (b429 : Addr) (k_b429 : ClassId), v = none ∧ Exa Z h o421 cS ∧ Fld Z h o421 cS "value" "[B" (.ref b429) ∧ Fld Z h o421 cS "coder" "B" (.int i0) ∧ Keep h0 h [o421] ∧ Arv Z h b429 k_b429 .byte i0 [] (.int i0) ∧ o421 ≠ b429) := by
  refine MetH.mkQ (tabs := tables_1) (a0 := a0) (ls0 := #[rv o421, rv o53, iv i0, iv i0, .val .null, un]) (plainFor_of_name pn_java_lang_String) hw Z0 (fun m => by first | (simp [entryFrame, mkF, argsToLocals, Value.category]; done) | rfl) ?_
  intro p e s m below meth c T Q' G' vm k1 hQ hG C X hS Rc hso
  have Kp : Keep h0 h0 [o421] := Keep.refl _ _
  have H_o421 : Safe Z EL1 vm h0 o421 := hso _ (by simp)
  refine s_aloadN 1 C X d14_0 rfl rfl ?_
  refine s_objInit 4 C X d14_1 (mW 90 rfl) (mW 12 rfl) (mW 13 rfl) rfl (W := 0) rfl (by decide) (fun T X => ?_)
  refine s_iloadN 5 C X d14_4 rfl ?_
  refine s_if_ne 27 8 C X d14_5 (fun c => absurd (by decide : i0 = i0) c) (fun _ => ?_)
  refine s_aloadN 9 C X d14_8 rfl rfl ?_
  refine s_ldcH 11 0 C X hS Rc.2 (own_EL hw) Rc.1.1 d14_9 (mW 156 rfl) (own_wS hw) (vs := []) (z := i0) (by decide) ⟨by decide, rfl⟩ (by decide) rfl (fun T hh t428 b429 k_b429 vm k1 C X E hS Nk Rn E_t428 F_t428_k F_t428_a A_b429 nS => ?_)
  have H_o421 := Rn.safe E_o421.lt H_o421
  have Rc := Rc.call Rn Nk
  have E_o421 := E_o421.ext E
  have F_o421_a := F_o421_a.ext E
  have F_o421_k := F_o421_k.ext E
  have Kp := Kp.ext E
  have ne_o421_b429 : o421 ≠ b429 := (nS o421 H_o421).2
  refine s_getfield 14 C X (host := "") d14_11 (Or.inl (mW 103 rfl)) Via.refl F_t428_a (fun T X => ?_)
  refine s_putfield 17 C X (host := "") d14_14 (Or.inl (mW 103 rfl)) Via.refl F_o421_a E_o421 (Or.inr ⟨(mW 35 rfl), rfl, rfl⟩) (mW 33 rfl) (ty := (.array .byte)) (by decide) rfl rfl g_o421 (fun T hh X W => ?_)
  have Sf : Safe Z EL1 vm _ o421 := H_o421
  have H_o421 := Safe.wr W Sf Rc.1.1 H_o421
  have Rc := Rc.wr W Sf
  have E_o421 := E_o421.wr W
  have F_o421_a := F_o421_a.same W
  have F_o421_k := oth F_o421_k W (Or.inr (hw _ (mW 36 rfl))) (Or.inr (hw _ (mW 35 rfl))) (by decide)
  have Kp := Kp.wr W (Or.inl (by simp))
  have A_b429 := A_b429.other W (Ne.symm ne_o421_b429)
  refine s_aloadN 18 C X d14_17 rfl rfl ?_
  refine s_ldcH 20 0 C X hS Rc.2 (own_EL hw) Rc.1.1 d14_18 (mW 156 rfl) (own_wS hw) (vs := []) (z := i0) (by decide) ⟨by decide, rfl⟩ (by decide) rfl (fun T hh t430 b431 k_b431 vm k1 C X E hS Nk Rn E_t430 F_t430_k F_t430_a A_b431 nS => ?_)
  have H_o421 := Rn.safe E_o421.lt H_o421
  have Rc := Rc.call Rn Nk
  have E_o421 := E_o421.ext E
  have F_o421_a := F_o421_a.ext E
  have F_o421_k := F_o421_k.ext E
  have Kp := Kp.ext E
  have A_b429 := A_b429.ext E
  refine s_getfield 23 C X (host := "") d14_20 (Or.inl (mW 102 rfl)) Via.refl F_t430_k (fun T X => ?_)
  refine s_putfieldN 26 C X d14_23 (mW 102 rfl) Via.refl F_o421_k E_o421 (Or.inr ⟨(mW 36 rfl), rfl, rfl⟩) (mW 33 rfl) (ty := .byte) (by decide) rfl rfl g_o421 (fun T hh X W => ?_)
  have Sf : Safe Z EL1 vm _ o421 := H_o421
  have Rc := Rc.wr W Sf
  have E_o421 := E_o421.wr W
  have F_o421_a := oth F_o421_a W (Or.inr (hw _ (mW 35 rfl))) (Or.inr (hw _ (mW 36 rfl))) (by decide)
  have F_o421_k := F_o421_k.same W
  have Kp := Kp.wr W (Or.inl (by simp))
  have A_b429 := A_b429.other W (Ne.symm ne_o421_b429)
  refine s_return C X d14_26 rfl ?_ (FGH hG hS Rc C (own_EL hw))
  exact hQ _ _ ⟨b429, k_b429, rfl, E_o421, F_o421_a, F_o421_k, Kp, A_b429, ne_o421_b429⟩
theorem rm_a40 (hw : Hw a0 Z) (fm : Value) (k_o53 : ClassId) (o53 : Addr) (xsF : List Int32) (o421 : Addr) (h0 : Heap) (n0 : Nat) (Z0 : n0 ≤ h0.size) (S_fm : Sta Z Z.heap cP cM cF fm) (A_o53 : Arv Z h0 o53 k_o53 .char i256 (Y xsF) (.int i0)) (Od : Old Z n0 h0) (E_o421 : Exa Z h0 o421 cS) (F_o421_a : Fld Z h0 o421 cS "value" "[B" .null) (F_o421_k : Fld Z h0 o421 cS "coder" "B" (.int i0)) (hv_fm : fm.isRef = true) (ne_o53_o421 : o53 ≠ o421) (g_o421 : n0 ≤ o421) :
    MetH l Z EL1 [o421] (⟨cS, "<init>", "([CII)V"⟩ : MethodName) jdk_42_method_4_code 4 none (rM 3 4 8 47) [] #[(.ref o421), (.ref o53), (.int i0), (.int i0)] h0 n0 (fun v h => ∃ (b429 : Addr) (k_b429 : ClassId), v = none ∧ Keep h0 h [o421] ∧ Old Z n0 h ∧ Exa Z h o421 cS ∧ Fld Z h o421 cS "value" "[B" (.ref b429) ∧ Fld Z h o421 cS "coder" "B" (.int i0) ∧ Arv Z h b429 k_b429 .byte i0 [] (.int i0) ∧ o421 ≠ b429) := by
  refine MetH.mkQ (tabs := tables_1) (a0 := a0) (ls0 := #[rv o421, rv o53, iv i0, iv i0]) (plainFor_of_name pn_java_lang_String) hw Z0 (fun m => by first | (simp [entryFrame, mkF, argsToLocals, Value.category]; done) | rfl) ?_
  intro p e s m below meth c T Q' G' vm k1 hQ hG C X hS Rc hso
  have Kp : Keep h0 h0 [o421] := Keep.refl _ _
  have H_o421 : Safe Z EL1 vm h0 o421 := hso _ (by simp)
  refine s_aloadN 1 C X d10_0 rfl rfl ?_
  refine s_aloadN 2 C X d10_1 rfl rfl ?_
  refine s_iloadN 3 C X d10_2 rfl ?_
  refine s_iloadN 4 C X d10_3 rfl ?_
  refine s_aloadN 5 C X d10_4 rfl rfl ?_
  refine s_iloadN 6 C X d10_5 rfl ?_
  refine s_iloadN 7 C X d10_6 rfl ?_
  refine s_callS 10 [(.ref o53), (.int i0), (.int i0)] [(.int i0), (.int i0), (.ref o53), (.ref o421)] 4 C X d10_7 (mW 76 rfl) (mW 77 rfl) (mW 32 rfl) (mW 78 rfl) (rm_a38 l Z a0 hw fm k_o53 o53 xsF _ n0 X.sz S_fm A_o53 Od hv_fm) (lenOf pd___CII_Ljava_lang_Void_ rfl) rfl rfl rfl (fun T v hh X q => ?_)
  obtain ⟨rfl, Kc, Od⟩ := q
  have H_o421 := Safe.keep Kc so0 Rc.1.1 H_o421
  have Rc := Rc.keep Kc so0
  have E_o421 := E_o421.keep Kc
  have F_o421_a := F_o421_a.keep Kc nin0
  have F_o421_k := F_o421_k.keep Kc nin0
  have Kp := Kp.trans Kc all0
  refine rc (st' := [.null, (.int i0), (.int i0), (.ref o53), (.ref o421)]) rfl ?_
  refine s_hcallC 13 [(.ref o53), (.int i0), (.int i0), .null] [] 0 C X hS Rc.2 (own_EL hw) Rc.1.1 d10_10 rfl (mW 87 rfl) (mW 88 rfl) (mW 32 rfl) (mW 89 rfl) (rm_a39 l Z a0 hw o53 o421 _ n0 X.sz E_o421 F_o421_a F_o421_k g_o421) (lenOf pd___CIILjava_lang_Void__V rfl) rfl rfl rfl (soS ⟨E_o421.lt, H_o421⟩ so0) (fun T v hh vm k1 C X hS Nk Rn q => ?_)
  obtain ⟨b429, k_b429, rfl, E_o421, F_o421_a, F_o421_k, Kc, A_b429, ne_o421_b429⟩ := q
  have Rc := Rc.call Rn Nk
  have Kp := Kp.trans Kc (allS (Or.inl (by simp)) all0)
  have Od := Od.keep Kc (allS g_o421 all0)
  refine rc (st' := []) rfl ?_
  refine s_return C X d10_13 rfl ?_ (FGH hG hS Rc C (own_EL hw))
  exact hQ _ _ ⟨b429, k_b429, rfl, Kp, Od, E_o421, F_o421_a, F_o421_k, A_b429, ne_o421_b429⟩
theorem rm_a41 (hw : Hw a0 Z) (fm : Value) (o46 : Addr) (k_o51 : ClassId) (k_o52 : ClassId) (k_o53 : ClassId) (o51 : Addr) (o52 : Addr) (o53 : Addr) (tF : Int32) (xsF : List Int32) (o276 : Addr) (h0 : Heap) (n0 : Nat) (Z0 : n0 ≤ h0.size) (S_fm : Sta Z Z.heap cP cM cF fm) (F_o46_s : Fld Z h0 o46 cE fs "[I" (.ref o51)) (F_o46_g : Fld Z h0 o46 cE fg cG (.ref o52)) (F_o46_v : Fld Z h0 o46 cE fv "[C" (.ref o53)) (A_o51 : Arv Z h0 o51 k_o51 .int i9 [(.int i0), (.int i0), (.int tF), (.int i0), (.int i0), (.int i0), (.int i0), (.int i0), (.int i0)] (.int i0)) (A_o53 : Arv Z h0 o53 k_o53 .char i256 (Y xsF) (.int i0)) (A_o52 : Arv Z h0 o52 k_o52 (.object cS) i8 [.null, (.ref o276), .null, .null, .null, .null, .null, .null] .null) (Od : Old Z n0 h0) (hv_fm : fm.isRef = true) (g_o52 : n0 ≤ o52) (ne_o46_o52 : o46 ≠ o52) (ne_o51_o52 : o51 ≠ o52) (ne_o52_o53 : o52 ≠ o53) (O_o52 : Ovr Z k_o52 cS) :
    MetH l Z EL1 [] (⟨cE, "value", "(I)Ljava/lang/String;"⟩ : MethodName) prog_35_method_7_code 2 (some (.object cS)) (rM 4 5 12 65) [] #[(.ref o46), (.int i0)] h0 n0 (fun v h => ∃ (b429 : Addr) (k_b429 : ClassId) (o421 : Addr), v = some (.ref o421) ∧ Arv Z h o52 k_o52 (.object cS) i8 [(.ref o421), (.ref o276), .null, .null, .null, .null, .null, .null] .null ∧ Keep h0 h [o52] ∧ Old Z n0 h ∧ Exa Z h o421 cS ∧ Fld Z h o421 cS "value" "[B" (.ref b429) ∧ Fld Z h o421 cS "coder" "B" (.int i0) ∧ Arv Z h b429 k_b429 .byte i0 [] (.int i0) ∧ o52 ≠ o421 ∧ h0.size ≤ o421 ∧ n0 ≤ o421 ∧ o421 ≠ b429 ∧ b429 ≠ o52) := by
  refine MetH.mkQ (tabs := tables_1) (a0 := a0) (ls0 := #[rv o46, iv i0]) (plainFor_of_name pn_com_example_medis_medis_engine_ElementAttributes) hw Z0 (fun m => by first | (simp [entryFrame, mkF, argsToLocals, Value.category]; done) | rfl) ?_
  intro p e s m below meth c T Q' G' vm k1 hQ hG C X hS Rc hso
  have Kp : Keep h0 h0 [o52] := Keep.refl _ _
  refine s_aloadN 1 C X d9_0 rfl rfl ?_
  refine s_getfield 4 C X (host := "") d9_1 (Or.inl (mW 27 rfl)) Via.refl F_o46_g (fun T X => ?_)
  refine s_iloadN 5 C X d9_4 rfl ?_
  refine s_aaload 6 C X d9_5 A_o52 rfl ⟨by decide, by decide⟩ (v := .null) rfl ?_
  refine s_ifnonnullN 9 C X d9_6 ?_
  refine s_aloadN 10 C X d9_9 rfl rfl ?_
  refine s_getfield 13 C X (host := "") d9_10 (Or.inl (mW 27 rfl)) Via.refl F_o46_g (fun T X => ?_)
  refine s_iloadN 14 C X d9_13 rfl ?_
  refine s_new 17 C X d9_14 (mW 14 rfl) (mW 33 rfl) (mW 32 rfl) (fun T hh o421 hb_o421 X E E_o421 D g_o421 => ?_)
  have H_o421 : Safe Z EL1 vm _ o421 := Safe.ext E Rc.1.1 (Safe.new (Nat.le_of_eq hb_o421))
  have Rc := Rc.ext E
  have ne_o46_o421 : o46 ≠ o421 := Nat.ne_of_lt (Nat.lt_of_lt_of_le F_o46_s.lt (Nat.le_of_eq hb_o421))
  have ne_o53_o421 : o53 ≠ o421 := Nat.ne_of_lt (Nat.lt_of_lt_of_le A_o53.lt (Nat.le_of_eq hb_o421))
  have ne_o52_o421 : o52 ≠ o421 := Nat.ne_of_lt (Nat.lt_of_lt_of_le A_o52.lt (Nat.le_of_eq hb_o421))
  have sz_o421 : h0.size ≤ o421 := Nat.le_trans Kp.1 (Nat.le_of_eq hb_o421)
  have F_o46_s := F_o46_s.ext E
  have F_o46_g := F_o46_g.ext E
  have F_o46_v := F_o46_v.ext E
  have A_o51 := A_o51.ext E
  have A_o53 := A_o53.ext E
  have A_o52 := A_o52.ext E
  have Od := Od.ext E
  have Kp := Kp.ext E
  have F_o421_a : Fld Z _ o421 cS "value" "[B" .null := D (Or.inr (hw _ (mW 35 rfl))) (ty := (.array .byte)) (by decide)
  have F_o421_k : Fld Z _ o421 cS "coder" "B" (.int i0) := D (Or.inr (hw _ (mW 36 rfl))) (ty := .byte) (by decide)
  refine s_dup 18 C X d9_17 rfl ?_
  refine s_aloadN 19 C X d9_18 rfl rfl ?_
  refine s_getfield 22 C X (host := "") d9_19 (Or.inl (mW 29 rfl)) Via.refl F_o46_v (fun T X => ?_)
  refine s_aloadN 23 C X d9_22 rfl rfl ?_
  refine s_getfield 26 C X (host := "") d9_23 (Or.inl (mW 25 rfl)) Via.refl F_o46_s (fun T X => ?_)
  refine s_iloadN 27 C X d9_26 rfl ?_
  refine s_iaload 28 C X d9_27 A_o51 ⟨by decide, by decide⟩ (v := (.int i0)) rfl ?_
  refine s_aloadN 29 C X d9_28 rfl rfl ?_
  refine s_getfield 32 C X (host := "") d9_29 (Or.inl (mW 25 rfl)) Via.refl F_o46_s (fun T X => ?_)
  refine s_iloadN 33 C X d9_32 rfl ?_
  refine s_iconst 34 C X d9_33 kc_iconst_1 ?_
  refine s_iadd 35 C X d9_34 ?_
  refine rc (st' := [(.int i1), (.ref o51), (.int i0), (.ref o53), (.ref o421), (.ref o421), (.int i0), (.ref o52)]) (by rw [kf_0]) ?_
  refine s_iaload 36 C X d9_35 A_o51 ⟨by decide, by decide⟩ (v := (.int i0)) rfl ?_
  refine s_aloadN 37 C X d9_36 rfl rfl ?_
  refine s_getfield 40 C X (host := "") d9_37 (Or.inl (mW 25 rfl)) Via.refl F_o46_s (fun T X => ?_)
  refine s_iloadN 41 C X d9_40 rfl ?_
  refine s_iaload 42 C X d9_41 A_o51 ⟨by decide, by decide⟩ (v := (.int i0)) rfl ?_
  refine s_isub 43 C X d9_42 ?_
  refine rc (st' := [(.int i0), (.int i0), (.ref o53), (.ref o421), (.ref o421), (.int i0), (.ref o52)]) (by rw [kf_9]) ?_
  refine s_hcallC 46 [(.ref o53), (.int i0), (.int i0)] [(.ref o421), (.int i0), (.ref o52)] 3 C X hS Rc.2 (own_EL hw) Rc.1.1 d9_43 rfl (mW 73 rfl) (mW 74 rfl) (mW 32 rfl) (mW 75 rfl) (rm_a40 l Z a0 hw fm k_o53 o53 xsF o421 _ n0 X.sz S_fm A_o53 Od E_o421 F_o421_a F_o421_k hv_fm ne_o53_o421 g_o421) (lenOf pd___CII_V rfl) rfl rfl rfl (soS ⟨E_o421.lt, H_o421⟩ so0) (fun T v hh vm k1 C X hS Nk Rn q => ?_)
  obtain ⟨b429, k_b429, rfl, Kc, Od, E_o421, F_o421_a, F_o421_k, A_b429, ne_o421_b429⟩ := q
  have Rc := Rc.call Rn Nk
  have F_o46_g := F_o46_g.keep Kc (ninS ne_o46_o421 nin0)
  have A_o52 := A_o52.keep Kc (ninS ne_o52_o421 nin0)
  have Kp := Kp.trans Kc (allS (Or.inr sz_o421) all0)
  refine rc (st' := [(.ref o421), (.int i0), (.ref o52)]) rfl ?_
  have ne_b429_o52 : b429 ≠ o52 := own_ane A_b429 A_o52 (by decide)
  have Sf : Safe Z EL1 vm _ o52 := (Safe.arv C.2.1.alike A_o52 (by decide))
  refine s_aastore 47 0 C X d9_46 A_o52 rfl rfl (fun _ A q => Sto.ofV A q O_o52 (Ins.self E_o421)) g_o52 ⟨by decide, by decide⟩ rfl (Nat.le_of_ble_eq_true rfl) (fun T hh X W A_o52 => ?_)
  have A_o52 : Arv Z _ o52 k_o52 (.object cS) i8 [(.ref o421), (.ref o276), .null, .null, .null, .null, .null, .null] .null := A_o52
  have Rc := Rc.wr W Sf
  have F_o46_g := F_o46_g.other W (Or.inl ne_o46_o52)
  have Kp := Kp.wr W (Or.inl (by simp))
  have Od := Od.wr W g_o52
  have E_o421 := E_o421.wr W
  have F_o421_a := F_o421_a.other W (Or.inl (Ne.symm ne_o52_o421))
  have F_o421_k := F_o421_k.other W (Or.inl (Ne.symm ne_o52_o421))
  have A_b429 := A_b429.other W ne_b429_o52
  refine s_aloadN 48 C X d9_47 rfl rfl ?_
  refine s_getfield 51 C X (host := "") d9_48 (Or.inl (mW 27 rfl)) Via.refl F_o46_g (fun T X => ?_)
  refine s_iloadN 52 C X d9_51 rfl ?_
  refine s_aaload 53 C X d9_52 A_o52 rfl ⟨by decide, by decide⟩ (v := (.ref o421)) rfl ?_
  refine s_areturn C X d9_53 rfl rfl rfl ?_ (FGH hG hS Rc C (own_EL hw))
  exact hQ _ _ ⟨b429, k_b429, o421, rfl, A_o52, Kp, Od, E_o421, F_o421_a, F_o421_k, A_b429, ne_o52_o421, sz_o421, g_o421, ne_o421_b429, ne_b429_o52⟩
theorem rm_a42 (hw : Hw a0 Z) (o32 : Addr) (k_o32 : ClassId) (o435 : Addr) (h0 : Heap) (n0 : Nat) (Z0 : n0 ≤ h0.size) (A_o32 : Arv Z h0 o32 k_o32 .char i0 [] (.int i0)) (E_o435 : Exa Z h0 o435 cS) (F_o435_a : Fld Z h0 o435 cS "value" "[B" .null) (F_o435_k : Fld Z h0 o435 cS "coder" "B" (.int i0)) (ne_o32_o435 : o32 ≠ o435) (g_o435 : n0 ≤ o435) :
    MetH l Z EL1 [o435] (⟨cS, "<init>", "([C)V"⟩ : MethodName) jdk_42_method_3_code 2 none (rM 2 4 8 29) [] #[(.ref o435), (.ref o32)] h0 n0 (fun v h => ∃ (b429_442 : Addr) (k_b429_442 : ClassId), v = none ∧ Keep h0 h [o435] ∧ Exa Z h o435 cS ∧ Fld Z h o435 cS "value" "[B" (.ref b429_442) ∧ Fld Z h o435 cS "coder" "B" (.int i0) ∧ Arv Z h b429_442 k_b429_442 .byte i0 [] (.int i0) ∧ o435 ≠ b429_442) := by
  refine MetH.mkQ (tabs := tables_1) (a0 := a0) (ls0 := #[rv o435, rv o32]) (plainFor_of_name pn_java_lang_String) hw Z0 (fun m => by first | (simp [entryFrame, mkF, argsToLocals, Value.category]; done) | rfl) ?_
  intro p e s m below meth c T Q' G' vm k1 hQ hG C X hS Rc hso
  have Kp : Keep h0 h0 [o435] := Keep.refl _ _
  have H_o435 : Safe Z EL1 vm h0 o435 := hso _ (by simp)
  refine s_aloadN 1 C X d27_0 rfl rfl ?_
  refine s_aloadN 2 C X d27_1 rfl rfl ?_
  refine s_iconst 3 C X d27_2 kc_iconst_0 ?_
  refine s_aloadN 4 C X d27_3 rfl rfl ?_
  refine s_arraylength 5 C X d27_4 A_o32 ?_
  refine s_aconstNull 6 C X d27_5 ?_
  refine s_hcallC 9 [(.ref o32), (.int i0), (.int i0), .null] [] 0 C X hS Rc.2 (own_EL hw) Rc.1.1 d27_6 rfl (mW 87 rfl) (mW 88 rfl) (mW 32 rfl) (mW 89 rfl) (rm_a39 l Z a0 hw o32 o435 _ n0 X.sz E_o435 F_o435_a F_o435_k g_o435) (lenOf pd___CIILjava_lang_Void__V rfl) rfl rfl rfl (soS ⟨E_o435.lt, H_o435⟩ so0) (fun T v hh vm k1 C X hS Nk Rn q => ?_)
  obtain ⟨b429_442, k_b429_442, rfl, E_o435, F_o435_a, F_o435_k, Kc, A_b429_442, ne_o435_b429_442⟩ := q
  have Rc := Rc.call Rn Nk
  have Kp := Kp.trans Kc (allS (Or.inl (by simp)) all0)
  refine rc (st' := []) rfl ?_
  refine s_return C X d27_9 rfl ?_ (FGH hG hS Rc C (own_EL hw))
  exact hQ _ _ ⟨b429_442, k_b429_442, rfl, Kp, E_o435, F_o435_a, F_o435_k, A_b429_442, ne_o435_b429_442⟩
theorem rm_a43 (hw : Hw a0 Z) (b429 : Addr) (k_b429 : ClassId) (b429_442 : Addr) (k_b429_442 : ClassId) (h0 : Heap) (n0 : Nat) (Z0 : n0 ≤ h0.size) (A_b429 : Arv Z h0 b429 k_b429 .byte i0 [] (.int i0)) (A_b429_442 : Arv Z h0 b429_442 k_b429_442 .byte i0 [] (.int i0)) :
    Met l Z (⟨cW, "equals", "([B[B)Z"⟩ : MethodName) jdk_43_method_13_code 3 (some .boolean) (rM 0 0 0 0) [] #[(.ref b429), (.ref b429_442)] h0 n0 (fun v h => v = some (.int i1) ∧ Keep h0 h []) := by
  refine Met.mkQ (tabs := tables_1) (a0 := a0) (ls0 := #[rv b429, rv b429_442, un]) (plainFor_of_name pn_java_lang_StringLatin1) hw Z0 (fun m => by first | (simp [entryFrame, mkF, argsToLocals, Value.category]; done) | rfl) ?_
  intro p e s m below meth c T Q' G' hQ hG C X
  have Kp : Keep h0 h0 [] := Keep.refl _ _
  refine s_aloadN 1 C X d29_0 rfl rfl ?_
  refine s_arraylength 2 C X d29_1 A_b429 ?_
  refine s_aloadN 3 C X d29_2 rfl rfl ?_
  refine s_arraylength 4 C X d29_3 A_b429_442 ?_
  refine s_icmp_ne 34 7 C X d29_4 (fun c => absurd (by decide : i0 = i0) c) (fun _ => ?_)
  refine s_iconst 8 C X d29_7 kc_iconst_0 ?_
  refine s_istoreN 9 C X (l' := #[rv b429, rv b429_442, iv i0]) d29_8 rfl ?_
  refine s_iloadN 10 C X d29_9 rfl ?_
  refine s_aloadN 11 C X d29_10 rfl rfl ?_
  refine s_arraylength 12 C X d29_11 A_b429 ?_
  refine s_icmp_ge 32 15 C X d29_12 (fun _ => ?_) (fun c => absurd c (by decide))
  refine s_iconst 33 C X d29_32 kc_iconst_1 ?_
  refine s_nreturn C X d29_33 rfl (by simp) rfl ?_ (FG hG (by decide) (by decide))
  exact hQ _ _ ⟨rfl, Kp⟩
theorem rm_a44 (hw : Hw a0 Z) (cs : Int32) (b429 : Addr) (k_b429 : ClassId) (o421 : Addr) (o435 : Addr) (b429_442 : Addr) (k_b429_442 : ClassId) (h0 : Heap) (n0 : Nat) (Z0 : n0 ≤ h0.size) (S_cs : Sta Z Z.heap cS cC "Z" (.int cs)) (Od : Old Z n0 h0) (F_o421_a : Fld Z h0 o421 cS "value" "[B" (.ref b429)) (F_o421_k : Fld Z h0 o421 cS "coder" "B" (.int i0)) (A_b429 : Arv Z h0 b429 k_b429 .byte i0 [] (.int i0)) (E_o435 : Exa Z h0 o435 cS) (F_o435_a : Fld Z h0 o435 cS "value" "[B" (.ref b429_442)) (F_o435_k : Fld Z h0 o435 cS "coder" "B" (.int i0)) (A_b429_442 : Arv Z h0 b429_442 k_b429_442 .byte i0 [] (.int i0)) (hv_cs : ¬ cs = i0) (ne_o421_o435 : o421 ≠ o435) :
    Met l Z (⟨cS, "equals", "(Ljava/lang/Object;)Z"⟩ : MethodName) jdk_42_method_66_code 3 (some .boolean) (rM 1 0 0 14) [] #[(.ref o421), (.ref o435)] h0 n0 (fun v h => v = some (.int i1) ∧ Old Z n0 h ∧ Keep h0 h []) := by
  refine Met.mkQ (tabs := tables_1) (a0 := a0) (ls0 := #[rv o421, rv o435, un]) (plainFor_of_name pn_java_lang_String) hw Z0 (fun m => by first | (simp [entryFrame, mkF, argsToLocals, Value.category]; done) | rfl) ?_
  intro p e s m below meth c T Q' G' hQ hG C X
  have Kp : Keep h0 h0 [] := Keep.refl _ _
  refine s_aloadN 1 C X d28_0 rfl rfl ?_
  refine s_aloadN 2 C X d28_1 rfl rfl ?_
  refine s_acmp_ne 7 5 C X d28_2 rfl rfl (fun c2_445 => ?_) (fun c => absurd (Value.ref.inj c) ne_o421_o435)
  refine s_aloadN 8 C X d28_7 rfl rfl ?_
  refine s_instY 11 C X d28_8 (mW 152 rfl) (Ins.self E_o435) (fun T X => ?_)
  refine s_if_eq 54 14 C X d28_11 (fun c => absurd c (by decide)) (fun _ => ?_)
  refine s_aloadN 15 C X d28_14 rfl rfl ?_
  refine s_castY 18 C X d28_15 (mW 152 rfl) (Ins.self E_o435) (fun T X => ?_)
  refine s_astoreN 19 C X (l' := #[rv o421, rv o435, rv o435]) d28_18 rfl rfl ?_
  refine s_getstatic 22 C X (host := "") d28_19 (Or.inl (mW 91 rfl)) Via.refl (S_cs.ext Od.2) (fun T X => ?_)
  refine s_if_eq 36 25 C X d28_22 (fun c => absurd c hv_cs) (fun c22_447 => ?_)
  refine s_aloadN 26 C X d28_25 rfl rfl ?_
  refine s_getfield 29 C X (host := "") d28_26 (Or.inl (mW 102 rfl)) Via.refl F_o421_k (fun T X => ?_)
  refine s_aloadN 30 C X d28_29 rfl rfl ?_
  refine s_getfield 33 C X (host := "") d28_30 (Or.inl (mW 102 rfl)) Via.refl F_o435_k (fun T X => ?_)
  refine s_icmp_ne 54 36 C X d28_33 (fun c => absurd (by decide : i0 = i0) c) (fun _ => ?_)
  refine s_aloadN 37 C X d28_36 rfl rfl ?_
  refine s_getfield 40 C X (host := "") d28_37 (Or.inl (mW 103 rfl)) Via.refl F_o421_a (fun T X => ?_)
  refine s_aloadN 41 C X d28_40 rfl rfl ?_
  refine s_getfield 44 C X (host := "") d28_41 (Or.inl (mW 103 rfl)) Via.refl F_o435_a (fun T X => ?_)
  refine s_callS 47 [(.ref b429), (.ref b429_442)] [] 0 C X d28_44 (mW 153 rfl) (mW 154 rfl) (mW 134 rfl) (mW 155 rfl) (rm_a43 l Z a0 hw b429 k_b429 b429_442 k_b429_442 _ n0 X.sz A_b429 A_b429_442) (lenOf pd___B_B_Z rfl) rfl rfl rfl (fun T v hh X q => ?_)
  obtain ⟨rfl, Kc⟩ := q
  have Od := Od.keep Kc all0
  have Kp := Kp.trans Kc all0
  refine rc (st' := [(.int i1)]) rfl ?_
  refine s_if_eq 54 50 C X d28_47 (fun c => absurd c (by decide)) (fun _ => ?_)
  refine s_iconst 51 C X d28_50 kc_iconst_1 ?_
  refine s_goto 55 C X d28_51 ?_
  refine s_nreturn C X d28_55 rfl (by simp) rfl ?_ (FG hG (by decide) (by decide))
  exact hQ _ _ ⟨rfl, Od, Kp⟩
theorem rm_a45 (hw : Hw a0 Z) (yF_21 : Int32) (yF_25 : Int32) (o457 : Addr) (o46 : Addr) (k_o457 : ClassId) (k_o51 : ClassId) (k_o53 : ClassId) (o51 : Addr) (o53 : Addr) (h0 : Heap) (n0 : Nat) (Z0 : n0 ≤ h0.size) (A_o457 : Arv Z h0 o457 k_o457 .char i2 [(.int yF_21), (.int yF_25)] (.int i0)) (A_o53 : Arv Z h0 o53 k_o53 .char i256 [(.int i0), (.int i0), (.int i0), (.int i0), (.int i0), (.int i0), (.int i0), (.int i0)] (.int i0)) (F_o46_s : Fld Z h0 o46 cE fs "[I" (.ref o51)) (F_o46_v : Fld Z h0 o46 cE fv "[C" (.ref o53)) (F_o46_n : Fld Z h0 o46 cE "length" "I" (.int i1)) (A_o51 : Arv Z h0 o51 k_o51 .int i9 [(.int i0), (.int i0), (.int i0), (.int i0), (.int i0), (.int i0), (.int i0), (.int i0), (.int i0)] (.int i0)) (ne_o457_o51 : o457 ≠ o51) (g_o51 : n0 ≤ o51) (ne_o457_o53 : o457 ≠ o53) (g_o53 : n0 ≤ o53) (ne_o46_o51 : o46 ≠ o51) (ne_o46_o53 : o46 ≠ o53) (ne_o51_o53 : o51 ≠ o53) :
    Met l Z (⟨cE, "append", "([CII)V"⟩ : MethodName) prog_35_method_12_code 5 none (rM 1 0 0 40) [] #[(.ref o46), (.ref o457), (.int i0), (.int i2)] h0 n0 (fun v h => v = none ∧ Arv Z h o51 k_o51 .int i9 [(.int i0), (.int i2), (.int i0), (.int i0), (.int i0), (.int i0), (.int i0), (.int i0), (.int i0)] (.int i0) ∧ Keep h0 h [o51, o53] ∧ Arv Z h o53 k_o53 .char i256 [(.int yF_21), (.int yF_25), (.int i0), (.int i0), (.int i0), (.int i0), (.int i0), (.int i0)] (.int i0)) := by
  refine Met.mkQ (tabs := tables_1) (a0 := a0) (ls0 := #[rv o46, rv o457, iv i0, iv i2, un]) (plainFor_of_name pn_com_example_medis_medis_engine_ElementAttributes) hw Z0 (fun m => by first | (simp [entryFrame, mkF, argsToLocals, Value.category]; done) | rfl) ?_
  intro p e s m below meth c T Q' G' hQ hG C X
  have Kp : Keep h0 h0 [o51, o53] := Keep.refl _ _
  refine s_aloadN 1 C X d5_0 rfl rfl ?_
  refine s_getfield 4 C X (host := "") d5_1 (Or.inl (mW 25 rfl)) Via.refl F_o46_s (fun T X => ?_)
  refine s_aloadN 5 C X d5_4 rfl rfl ?_
  refine s_getfield 8 C X (host := "") d5_5 (Or.inl (mW 44 rfl)) Via.refl F_o46_n (fun T X => ?_)
  refine s_iaload 9 C X d5_8 A_o51 ⟨by decide, by decide⟩ (v := (.int i0)) rfl ?_
  refine s_istore 11 C X (l' := #[rv o46, rv o457, iv i0, iv i2, iv i0]) d5_9 rfl ?_
  refine s_iload 13 C X d5_11 rfl ?_
  refine s_iloadN 14 C X d5_13 rfl ?_
  refine s_iadd 15 C X d5_14 ?_
  refine rc (st' := [(.int i2)]) (by rw [kf_10]) ?_
  refine s_aloadN 16 C X d5_15 rfl rfl ?_
  refine s_getfield 19 C X (host := "") d5_16 (Or.inl (mW 29 rfl)) Via.refl F_o46_v (fun T X => ?_)
  refine s_arraylength 20 C X d5_19 A_o53 ?_
  refine s_icmp_le 48 23 C X d5_20 (fun _ => ?_) (fun c => absurd c (by decide))
  refine s_aloadN 49 C X d5_48 rfl rfl ?_
  refine s_iloadN 50 C X d5_49 rfl ?_
  refine s_aloadN 51 C X d5_50 rfl rfl ?_
  refine s_getfield 54 C X (host := "") d5_51 (Or.inl (mW 29 rfl)) Via.refl F_o46_v (fun T X => ?_)
  refine s_iload 56 C X d5_54 rfl ?_
  refine s_iloadN 57 C X d5_56 rfl ?_
  refine s_arraycopy 60 0 [(.int yF_21), (.int yF_25), (.int i0), (.int i0), (.int i0), (.int i0), (.int i0), (.int i0)] C X d5_57 (mW 53 rfl) (mW 56 rfl) (mW 54 rfl) (mW 55 rfl) A_o457 A_o53 rfl (by decide) (by decide) (by decide) (by decide) (by decide) (Nat.le_of_ble_eq_true rfl) g_o53 rfl rfl rfl (fun T hh X Kc A_o53 => ?_)
  have F_o46_s := F_o46_s.keep Kc (ninS ne_o46_o53 nin0)
  have F_o46_n := F_o46_n.keep Kc (ninS ne_o46_o53 nin0)
  have A_o51 := A_o51.keep Kc (ninS ne_o51_o53 nin0)
  have Kp := Kp.trans Kc (allS (Or.inl (by simp)) all0)
  refine rc (st' := []) rfl ?_
  refine s_aloadN 61 C X d5_60 rfl rfl ?_
  refine s_getfield 64 C X (host := "") d5_61 (Or.inl (mW 25 rfl)) Via.refl F_o46_s (fun T X => ?_)
  refine s_aloadN 65 C X d5_64 rfl rfl ?_
  refine s_getfield 68 C X (host := "") d5_65 (Or.inl (mW 44 rfl)) Via.refl F_o46_n (fun T X => ?_)
  refine s_iload 70 C X d5_68 rfl ?_
  refine s_iloadN 71 C X d5_70 rfl ?_
  refine s_iadd 72 C X d5_71 ?_
  refine rc (st' := [(.int i2), (.int i1), (.ref o51)]) (by rw [kf_10]) ?_
  refine s_iastore 73 1 C X d5_72 A_o51 g_o51 ⟨by decide, by decide⟩ rfl (Nat.le_of_ble_eq_true rfl) (fun T hh X W A_o51 => ?_)
  have A_o51 : Arv Z _ o51 k_o51 .int i9 [(.int i0), (.int i2), (.int i0), (.int i0), (.int i0), (.int i0), (.int i0), (.int i0), (.int i0)] (.int i0) := A_o51
  have Kp := Kp.wr W (Or.inl (by simp))
  have A_o53 := A_o53.other W (Ne.symm ne_o51_o53)
  refine s_return C X d5_73 rfl ?_ (FG hG (by decide) (by decide))
  exact hQ _ _ ⟨rfl, A_o51, Kp, A_o53⟩
theorem rm_a46 (hw : Hw a0 Z) (o46 : Addr) (k_o47 : ClassId) (k_o48 : ClassId) (k_o49 : ClassId) (k_o50 : ClassId) (k_o51 : ClassId) (o47 : Addr) (o48 : Addr) (o49 : Addr) (o50 : Addr) (o51 : Addr) (o52 : Addr) (o53 : Addr) (t61 : Addr) (t64 : Addr) (t81 : Addr) (h0 : Heap) (n0 : Nat) (Z0 : n0 ≤ h0.size) (E_o46 : Exa Z h0 o46 cE) (F_o46_q : Fld Z h0 o46 cE fq cG (.ref o47)) (F_o46_u : Fld Z h0 o46 cE fu cG (.ref o48)) (F_o46_l : Fld Z h0 o46 cE fl cG (.ref o49)) (F_o46_c : Fld Z h0 o46 cE fc "[I" (.ref o50)) (F_o46_s : Fld Z h0 o46 cE fs "[I" (.ref o51)) (F_o46_g : Fld Z h0 o46 cE fg cG (.ref o52)) (F_o46_v : Fld Z h0 o46 cE fv "[C" (.ref o53)) (F_o46_n : Fld Z h0 o46 cE "length" "I" (.int i1)) (A_o47 : Arv Z h0 o47 k_o47 (.object cS) i8 [(.ref t61), .null, .null, .null, .null, .null, .null, .null] .null) (A_o48 : Arv Z h0 o48 k_o48 (.object cS) i8 [(.ref t64), .null, .null, .null, .null, .null, .null, .null] .null) (A_o49 : Arv Z h0 o49 k_o49 (.object cS) i8 [(.ref t61), .null, .null, .null, .null, .null, .null, .null] .null) (A_o50 : Arv Z h0 o50 k_o50 .int i8 [(.int im1), (.int i0), (.int i0), (.int i0), (.int i0), (.int i0), (.int i0), (.int i0)] (.int i0)) (A_o51 : Arv Z h0 o51 k_o51 .int i9 [(.int i0), (.int i2), (.int i0), (.int i0), (.int i0), (.int i0), (.int i0), (.int i0), (.int i0)] (.int i0)) (E_t81 : Exa Z h0 t81 cS) (g_o46 : n0 ≤ o46) (g_o47 : n0 ≤ o47) (g_o48 : n0 ≤ o48) (g_o49 : n0 ≤ o49) (g_o50 : n0 ≤ o50) (g_o51 : n0 ≤ o51) (ne_o46_o47 : o46 ≠ o47) (ne_o46_o48 : o46 ≠ o48) (ne_o47_o48 : o47 ≠ o48) (ne_o46_o49 : o46 ≠ o49) (ne_o47_o49 : o47 ≠ o49) (ne_o48_o49 : o48 ≠ o49) (ne_o46_o50 : o46 ≠ o50) (ne_o47_o50 : o47 ≠ o50) (ne_o48_o50 : o48 ≠ o50) (ne_o49_o50 : o49 ≠ o50) (ne_o46_o51 : o46 ≠ o51) (ne_o47_o51 : o47 ≠ o51) (ne_o48_o51 : o48 ≠ o51) (ne_o49_o51 : o49 ≠ o51) (ne_o50_o51 : o50 ≠ o51) (O_o47 : Ovr Z k_o47 cS) (O_o48 : Ovr Z k_o48 cS) (O_o49 : Ovr Z k_o49 cS) :
    MetH l Z EL1 [] (⟨cE, "add", "(Ljava/lang/String;I)V"⟩ : MethodName) prog_35_method_9_code 4 none (rM 0 2 4 0) [] #[(.ref o46), (.ref t81), (.int im1)] h0 n0 (fun v h => ∃ (b85 : Addr) (k_b85 : ClassId) (t84 : Addr), v = none ∧ Exa Z h o46 cE ∧ Fld Z h o46 cE fq cG (.ref o47) ∧ Fld Z h o46 cE fu cG (.ref o48) ∧ Fld Z h o46 cE fl cG (.ref o49) ∧ Fld Z h o46 cE fc "[I" (.ref o50) ∧ Fld Z h o46 cE fs "[I" (.ref o51) ∧ Fld Z h o46 cE fg cG (.ref o52) ∧ Fld Z h o46 cE fv "[C" (.ref o53) ∧ Fld Z h o46 cE "length" "I" (.int i2) ∧ Arv Z h o47 k_o47 (.object cS) i8 [(.ref t61), (.ref t81), .null, .null, .null, .null, .null, .null] .null ∧ Arv Z h o48 k_o48 (.object cS) i8 [(.ref t64), (.ref t84), .null, .null, .null, .null, .null, .null] .null ∧ Arv Z h o49 k_o49 (.object cS) i8 [(.ref t61), (.ref t81), .null, .null, .null, .null, .null, .null] .null ∧ Arv Z h o50 k_o50 .int i8 [(.int im1), (.int im1), (.int i0), (.int i0), (.int i0), (.int i0), (.int i0), (.int i0)] (.int i0) ∧ Arv Z h o51 k_o51 .int i9 [(.int i0), (.int i2), (.int i2), (.int i0), (.int i0), (.int i0), (.int i0), (.int i0), (.int i0)] (.int i0) ∧ Keep h0 h [o46, o47, o48, o49, o50, o51] ∧ Exa Z h t84 cS ∧ Fld Z h t84 cS "coder" "B" (.int i0) ∧ Fld Z h t84 cS "value" "[B" (.ref b85) ∧ Arv Z h b85 k_b85 .byte i0 [] (.int i0) ∧ o46 ≠ t84 ∧ o46 ≠ b85 ∧ o47 ≠ t84 ∧ o47 ≠ b85 ∧ o48 ≠ t84 ∧ o48 ≠ b85 ∧ o49 ≠ t84 ∧ o49 ≠ b85 ∧ o50 ≠ t84 ∧ o50 ≠ b85 ∧ o51 ≠ t84 ∧ o51 ≠ b85) := by
  refine MetH.mkQ (tabs := tables_1) (a0 := a0) (ls0 := #[rv o46, rv t81, iv im1, un]) (plainFor_of_name pn_com_example_medis_medis_engine_ElementAttributes) hw Z0 (fun m => by first | (simp [entryFrame, mkF, argsToLocals, Value.category]; done) | rfl) ?_
  intro p e s m below meth c T Q' G' vm k1 hQ hG C X hS Rc hso
  have Kp : Keep h0 h0 [o46, o47, o48, o49, o50, o51] := Keep.refl _ _
  refine s_aloadN 1 C X d4_0 rfl rfl ?_
  refine s_getfield 4 C X (host := "") d4_1 (Or.inl (mW 44 rfl)) Via.refl F_o46_n (fun T X => ?_)
  refine s_aloadN 5 C X d4_4 rfl rfl ?_
  refine s_getfield 8 C X (host := "") d4_5 (Or.inl (mW 16 rfl)) Via.refl F_o46_q (fun T X => ?_)
  refine s_arraylength 9 C X d4_8 A_o47 ?_
  refine s_icmp_ne 105 12 C X d4_9 (fun _ => ?_) (fun c => absurd c (by decide))
  refine s_aloadN 106 C X d4_105 rfl rfl ?_
  refine s_getfield 109 C X (host := "") d4_106 (Or.inl (mW 16 rfl)) Via.refl F_o46_q (fun T X => ?_)
  refine s_aloadN 110 C X d4_109 rfl rfl ?_
  refine s_getfield 113 C X (host := "") d4_110 (Or.inl (mW 44 rfl)) Via.refl F_o46_n (fun T X => ?_)
  refine s_aloadN 114 C X d4_113 rfl rfl ?_
  have Sf : Safe Z EL1 vm _ o47 := (Safe.arv C.2.1.alike A_o47 (by decide))
  refine s_aastore 115 1 C X d4_114 A_o47 rfl rfl (fun _ A q => Sto.ofV A q O_o47 (Ins.self E_t81)) g_o47 ⟨by decide, by decide⟩ rfl (Nat.le_of_ble_eq_true rfl) (fun T hh X W A_o47 => ?_)
  have A_o47 : Arv Z _ o47 k_o47 (.object cS) i8 [(.ref t61), (.ref t81), .null, .null, .null, .null, .null, .null] .null := A_o47
  have Rc := Rc.wr W Sf
  have E_o46 := E_o46.wr W
  have F_o46_q := F_o46_q.other W (Or.inl ne_o46_o47)
  have F_o46_u := F_o46_u.other W (Or.inl ne_o46_o47)
  have F_o46_l := F_o46_l.other W (Or.inl ne_o46_o47)
  have F_o46_c := F_o46_c.other W (Or.inl ne_o46_o47)
  have F_o46_s := F_o46_s.other W (Or.inl ne_o46_o47)
  have F_o46_g := F_o46_g.other W (Or.inl ne_o46_o47)
  have F_o46_v := F_o46_v.other W (Or.inl ne_o46_o47)
  have F_o46_n := F_o46_n.other W (Or.inl ne_o46_o47)
  have A_o48 := A_o48.other W (Ne.symm ne_o47_o48)
  have A_o49 := A_o49.other W (Ne.symm ne_o47_o49)
  have A_o50 := A_o50.other W (Ne.symm ne_o47_o50)
  have A_o51 := A_o51.other W (Ne.symm ne_o47_o51)
  have E_t81 := E_t81.wr W
  have Kp := Kp.wr W (Or.inl (by simp))
  refine s_aloadN 116 C X d4_115 rfl rfl ?_
  refine s_getfield 119 C X (host := "") d4_116 (Or.inl (mW 23 rfl)) Via.refl F_o46_c (fun T X => ?_)
  refine s_aloadN 120 C X d4_119 rfl rfl ?_
  refine s_getfield 123 C X (host := "") d4_120 (Or.inl (mW 44 rfl)) Via.refl F_o46_n (fun T X => ?_)
  refine s_iloadN 124 C X d4_123 rfl ?_
  have Sf : Safe Z EL1 vm _ o50 := (Safe.arv C.2.1.alike A_o50 (by decide))
  refine s_iastore 125 1 C X d4_124 A_o50 g_o50 ⟨by decide, by decide⟩ rfl (Nat.le_of_ble_eq_true rfl) (fun T hh X W A_o50 => ?_)
  have A_o50 : Arv Z _ o50 k_o50 .int i8 [(.int im1), (.int im1), (.int i0), (.int i0), (.int i0), (.int i0), (.int i0), (.int i0)] (.int i0) := A_o50
  have Rc := Rc.wr W Sf
  have E_o46 := E_o46.wr W
  have F_o46_q := F_o46_q.other W (Or.inl ne_o46_o50)
  have F_o46_u := F_o46_u.other W (Or.inl ne_o46_o50)
  have F_o46_l := F_o46_l.other W (Or.inl ne_o46_o50)
  have F_o46_c := F_o46_c.other W (Or.inl ne_o46_o50)
  have F_o46_s := F_o46_s.other W (Or.inl ne_o46_o50)
  have F_o46_g := F_o46_g.other W (Or.inl ne_o46_o50)
  have F_o46_v := F_o46_v.other W (Or.inl ne_o46_o50)
  have F_o46_n := F_o46_n.other W (Or.inl ne_o46_o50)
  have A_o47 := A_o47.other W ne_o47_o50
  have A_o48 := A_o48.other W ne_o48_o50
  have A_o49 := A_o49.other W ne_o49_o50
  have A_o51 := A_o51.other W (Ne.symm ne_o50_o51)
  have E_t81 := E_t81.wr W
  have Kp := Kp.wr W (Or.inl (by simp))
  refine s_aloadN 126 C X d4_125 rfl rfl ?_
  refine s_getfield 129 C X (host := "") d4_126 (Or.inl (mW 18 rfl)) Via.refl F_o46_u (fun T X => ?_)
  refine s_aloadN 130 C X d4_129 rfl rfl ?_
  refine s_getfield 133 C X (host := "") d4_130 (Or.inl (mW 44 rfl)) Via.refl F_o46_n (fun T X => ?_)
  refine s_ldcH 135 0 C X hS Rc.2 (own_EL hw) Rc.1.1 d4_133 (mW 47 rfl) (own_wS hw) (vs := []) (z := i0) (by decide) ⟨by decide, rfl⟩ (by decide) rfl (fun T hh t84 b85 k_b85 vm k1 C X E hS Nk Rn E_t84 F_t84_k F_t84_a A_b85 nS => ?_)
  have Rc := Rc.call Rn Nk
  have E_o46 := E_o46.ext E
  have F_o46_q := F_o46_q.ext E
  have F_o46_u := F_o46_u.ext E
  have F_o46_l := F_o46_l.ext E
  have F_o46_c := F_o46_c.ext E
  have F_o46_s := F_o46_s.ext E
  have F_o46_g := F_o46_g.ext E
  have F_o46_v := F_o46_v.ext E
  have F_o46_n := F_o46_n.ext E
  have A_o47 := A_o47.ext E
  have A_o48 := A_o48.ext E
  have A_o49 := A_o49.ext E
  have A_o50 := A_o50.ext E
  have A_o51 := A_o51.ext E
  have E_t81 := E_t81.ext E
  have Kp := Kp.ext E
  have ne_o46_t84 : o46 ≠ t84 := (nS o46 (Safe.exa C.2.1.alike E_o46 (by decide) (by decide))).1
  have ne_o46_b85 : o46 ≠ b85 := (nS o46 (Safe.exa C.2.1.alike E_o46 (by decide) (by decide))).2
  have ne_o47_t84 : o47 ≠ t84 := (nS o47 (Safe.arv C.2.1.alike A_o47 (by decide))).1
  have ne_o47_b85 : o47 ≠ b85 := (nS o47 (Safe.arv C.2.1.alike A_o47 (by decide))).2
  have ne_o48_t84 : o48 ≠ t84 := (nS o48 (Safe.arv C.2.1.alike A_o48 (by decide))).1
  have ne_o48_b85 : o48 ≠ b85 := (nS o48 (Safe.arv C.2.1.alike A_o48 (by decide))).2
  have ne_o49_t84 : o49 ≠ t84 := (nS o49 (Safe.arv C.2.1.alike A_o49 (by decide))).1
  have ne_o49_b85 : o49 ≠ b85 := (nS o49 (Safe.arv C.2.1.alike A_o49 (by decide))).2
  have ne_o50_t84 : o50 ≠ t84 := (nS o50 (Safe.arv C.2.1.alike A_o50 (by decide))).1
  have ne_o50_b85 : o50 ≠ b85 := (nS o50 (Safe.arv C.2.1.alike A_o50 (by decide))).2
  have ne_o51_t84 : o51 ≠ t84 := (nS o51 (Safe.arv C.2.1.alike A_o51 (by decide))).1
  have ne_o51_b85 : o51 ≠ b85 := (nS o51 (Safe.arv C.2.1.alike A_o51 (by decide))).2
  have Sf : Safe Z EL1 vm _ o48 := (Safe.arv C.2.1.alike A_o48 (by decide))
  refine s_aastore 136 1 C X d4_135 A_o48 rfl rfl (fun _ A q => Sto.ofV A q O_o48 (Ins.self E_t84)) g_o48 ⟨by decide, by decide⟩ rfl (Nat.le_of_ble_eq_true rfl) (fun T hh X W A_o48 => ?_)
  have A_o48 : Arv Z _ o48 k_o48 (.object cS) i8 [(.ref t64), (.ref t84), .null, .null, .null, .null, .null, .null] .null := A_o48
  have Rc := Rc.wr W Sf
  have E_o46 := E_o46.wr W
  have F_o46_q := F_o46_q.other W (Or.inl ne_o46_o48)
  have F_o46_u := F_o46_u.other W (Or.inl ne_o46_o48)
  have F_o46_l := F_o46_l.other W (Or.inl ne_o46_o48)
  have F_o46_c := F_o46_c.other W (Or.inl ne_o46_o48)
  have F_o46_s := F_o46_s.other W (Or.inl ne_o46_o48)
  have F_o46_g := F_o46_g.other W (Or.inl ne_o46_o48)
  have F_o46_v := F_o46_v.other W (Or.inl ne_o46_o48)
  have F_o46_n := F_o46_n.other W (Or.inl ne_o46_o48)
  have A_o47 := A_o47.other W ne_o47_o48
  have A_o49 := A_o49.other W (Ne.symm ne_o48_o49)
  have A_o50 := A_o50.other W (Ne.symm ne_o48_o50)
  have A_o51 := A_o51.other W (Ne.symm ne_o48_o51)
  have E_t81 := E_t81.wr W
  have Kp := Kp.wr W (Or.inl (by simp))
  have E_t84 := E_t84.wr W
  have F_t84_k := F_t84_k.other W (Or.inl (Ne.symm ne_o48_t84))
  have F_t84_a := F_t84_a.other W (Or.inl (Ne.symm ne_o48_t84))
  have A_b85 := A_b85.other W (Ne.symm ne_o48_b85)
  refine s_aloadN 137 C X d4_136 rfl rfl ?_
  refine s_getfield 140 C X (host := "") d4_137 (Or.inl (mW 20 rfl)) Via.refl F_o46_l (fun T X => ?_)
  refine s_aloadN 141 C X d4_140 rfl rfl ?_
  refine s_getfield 144 C X (host := "") d4_141 (Or.inl (mW 44 rfl)) Via.refl F_o46_n (fun T X => ?_)
  refine s_aloadN 145 C X d4_144 rfl rfl ?_
  have Sf : Safe Z EL1 vm _ o49 := (Safe.arv C.2.1.alike A_o49 (by decide))
  refine s_aastore 146 1 C X d4_145 A_o49 rfl rfl (fun _ A q => Sto.ofV A q O_o49 (Ins.self E_t81)) g_o49 ⟨by decide, by decide⟩ rfl (Nat.le_of_ble_eq_true rfl) (fun T hh X W A_o49 => ?_)
  have A_o49 : Arv Z _ o49 k_o49 (.object cS) i8 [(.ref t61), (.ref t81), .null, .null, .null, .null, .null, .null] .null := A_o49
  have Rc := Rc.wr W Sf
  have E_o46 := E_o46.wr W
  have F_o46_q := F_o46_q.other W (Or.inl ne_o46_o49)
  have F_o46_u := F_o46_u.other W (Or.inl ne_o46_o49)
  have F_o46_l := F_o46_l.other W (Or.inl ne_o46_o49)
  have F_o46_c := F_o46_c.other W (Or.inl ne_o46_o49)
  have F_o46_s := F_o46_s.other W (Or.inl ne_o46_o49)
  have F_o46_g := F_o46_g.other W (Or.inl ne_o46_o49)
  have F_o46_v := F_o46_v.other W (Or.inl ne_o46_o49)
  have F_o46_n := F_o46_n.other W (Or.inl ne_o46_o49)
  have A_o47 := A_o47.other W ne_o47_o49
  have A_o48 := A_o48.other W ne_o48_o49
  have A_o50 := A_o50.other W (Ne.symm ne_o49_o50)
  have A_o51 := A_o51.other W (Ne.symm ne_o49_o51)
  have Kp := Kp.wr W (Or.inl (by simp))
  have E_t84 := E_t84.wr W
  have F_t84_k := F_t84_k.other W (Or.inl (Ne.symm ne_o49_t84))
  have F_t84_a := F_t84_a.other W (Or.inl (Ne.symm ne_o49_t84))
  have A_b85 := A_b85.other W (Ne.symm ne_o49_b85)
  refine s_aloadN 147 C X d4_146 rfl rfl ?_
  refine s_getfield 150 C X (host := "") d4_147 (Or.inl (mW 25 rfl)) Via.refl F_o46_s (fun T X => ?_)
  refine s_aloadN 151 C X d4_150 rfl rfl ?_
  refine s_getfield 154 C X (host := "") d4_151 (Or.inl (mW 44 rfl)) Via.refl F_o46_n (fun T X => ?_)
  refine s_iconst 155 C X d4_154 kc_iconst_1 ?_
  refine s_iadd 156 C X d4_155 ?_
  refine rc (st' := [(.int i2), (.ref o51)]) (by rw [kf_7]) ?_
  refine s_aloadN 157 C X d4_156 rfl rfl ?_
  refine s_getfield 160 C X (host := "") d4_157 (Or.inl (mW 25 rfl)) Via.refl F_o46_s (fun T X => ?_)
  refine s_aloadN 161 C X d4_160 rfl rfl ?_
  refine s_getfield 164 C X (host := "") d4_161 (Or.inl (mW 44 rfl)) Via.refl F_o46_n (fun T X => ?_)
  refine s_iaload 165 C X d4_164 A_o51 ⟨by decide, by decide⟩ (v := (.int i2)) rfl ?_
  have Sf : Safe Z EL1 vm _ o51 := (Safe.arv C.2.1.alike A_o51 (by decide))
  refine s_iastore 166 2 C X d4_165 A_o51 g_o51 ⟨by decide, by decide⟩ rfl (Nat.le_of_ble_eq_true rfl) (fun T hh X W A_o51 => ?_)
  have A_o51 : Arv Z _ o51 k_o51 .int i9 [(.int i0), (.int i2), (.int i2), (.int i0), (.int i0), (.int i0), (.int i0), (.int i0), (.int i0)] (.int i0) := A_o51
  have Rc := Rc.wr W Sf
  have E_o46 := E_o46.wr W
  have F_o46_q := F_o46_q.other W (Or.inl ne_o46_o51)
  have F_o46_u := F_o46_u.other W (Or.inl ne_o46_o51)
  have F_o46_l := F_o46_l.other W (Or.inl ne_o46_o51)
  have F_o46_c := F_o46_c.other W (Or.inl ne_o46_o51)
  have F_o46_s := F_o46_s.other W (Or.inl ne_o46_o51)
  have F_o46_g := F_o46_g.other W (Or.inl ne_o46_o51)
  have F_o46_v := F_o46_v.other W (Or.inl ne_o46_o51)
  have F_o46_n := F_o46_n.other W (Or.inl ne_o46_o51)
  have A_o47 := A_o47.other W ne_o47_o51
  have A_o48 := A_o48.other W ne_o48_o51
  have A_o49 := A_o49.other W ne_o49_o51
  have A_o50 := A_o50.other W ne_o50_o51
  have Kp := Kp.wr W (Or.inl (by simp))
  have E_t84 := E_t84.wr W
  have F_t84_k := F_t84_k.other W (Or.inl (Ne.symm ne_o51_t84))
  have F_t84_a := F_t84_a.other W (Or.inl (Ne.symm ne_o51_t84))
  have A_b85 := A_b85.other W (Ne.symm ne_o51_b85)
  refine s_aloadN 167 C X d4_166 rfl rfl ?_
  refine s_dup 168 C X d4_167 rfl ?_
  refine s_getfield 171 C X (host := "") d4_168 (Or.inl (mW 44 rfl)) Via.refl F_o46_n (fun T X => ?_)
  refine s_iconst 172 C X d4_171 kc_iconst_1 ?_
  refine s_iadd 173 C X d4_172 ?_
  refine rc (st' := [(.int i2), (.ref o46)]) (by rw [kf_7]) ?_
  refine s_putfield 176 C X (host := "") d4_173 (Or.inl (mW 44 rfl)) Via.refl F_o46_n E_o46 (Or.inl (mW 45 rfl)) (mW 6 rfl) (ty := .int) (by decide) rfl rfl g_o46 (fun T hh X W => ?_)
  have Sf : Safe Z EL1 vm _ o46 := (Safe.exa C.2.1.alike E_o46 (by decide) (by decide))
  have Rc := Rc.wr W Sf
  have E_o46 := E_o46.wr W
  have F_o46_q := oth F_o46_q W (Or.inl (hw _ (mW 17 rfl))) (Or.inl (hw _ (mW 45 rfl))) (by decide)
  have F_o46_u := oth F_o46_u W (Or.inl (hw _ (mW 19 rfl))) (Or.inl (hw _ (mW 45 rfl))) (by decide)
  have F_o46_l := oth F_o46_l W (Or.inl (hw _ (mW 21 rfl))) (Or.inl (hw _ (mW 45 rfl))) (by decide)
  have F_o46_c := oth F_o46_c W (Or.inl (hw _ (mW 24 rfl))) (Or.inl (hw _ (mW 45 rfl))) (by decide)
  have F_o46_s := oth F_o46_s W (Or.inl (hw _ (mW 26 rfl))) (Or.inl (hw _ (mW 45 rfl))) (by decide)
  have F_o46_g := oth F_o46_g W (Or.inl (hw _ (mW 28 rfl))) (Or.inl (hw _ (mW 45 rfl))) (by decide)
  have F_o46_v := oth F_o46_v W (Or.inl (hw _ (mW 30 rfl))) (Or.inl (hw _ (mW 45 rfl))) (by decide)
  have F_o46_n := F_o46_n.same W
  have A_o47 := A_o47.other W (Ne.symm ne_o46_o47)
  have A_o48 := A_o48.other W (Ne.symm ne_o46_o48)
  have A_o49 := A_o49.other W (Ne.symm ne_o46_o49)
  have A_o50 := A_o50.other W (Ne.symm ne_o46_o50)
  have A_o51 := A_o51.other W (Ne.symm ne_o46_o51)
  have Kp := Kp.wr W (Or.inl (by simp))
  have E_t84 := E_t84.wr W
  have F_t84_k := F_t84_k.other W (Or.inl (Ne.symm ne_o46_t84))
  have F_t84_a := F_t84_a.other W (Or.inl (Ne.symm ne_o46_t84))
  have A_b85 := A_b85.other W (Ne.symm ne_o46_b85)
  refine s_return C X d4_176 rfl ?_ (FGH hG hS Rc C (own_EL hw))
  exact hQ _ _ ⟨b85, k_b85, t84, rfl, E_o46, F_o46_q, F_o46_u, F_o46_l, F_o46_c, F_o46_s, F_o46_g, F_o46_v, F_o46_n, A_o47, A_o48, A_o49, A_o50, A_o51, Kp, E_t84, F_t84_k, F_t84_a, A_b85, ne_o46_t84, ne_o46_b85, ne_o47_t84, ne_o47_b85, ne_o48_t84, ne_o48_b85, ne_o49_t84, ne_o49_b85, ne_o50_t84, ne_o50_b85, ne_o51_t84, ne_o51_b85⟩
theorem rm_a47 (hw : Hw a0 Z) (yF : Int32) (yF_5 : Int32) (yF_9 : Int32) (yF_13 : Int32) (yF_17 : Int32) (yF_21 : Int32) (yF_25 : Int32) (nv27 : Int32) (o29 : Addr) (o46 : Addr) (k_o29 : ClassId) (k_o51 : ClassId) (k_o53 : ClassId) (o51 : Addr) (o53 : Addr) (h0 : Heap) (n0 : Nat) (Z0 : n0 ≤ h0.size) (A_o29 : Arv Z h0 o29 k_o29 .char i5 [(.int yF), (.int yF_5), (.int yF_9), (.int yF_13), (.int yF_17)] (.int i0)) (A_o53 : Arv Z h0 o53 k_o53 .char i256 [(.int yF_21), (.int yF_25), (.int i0), (.int i0), (.int i0), (.int i0), (.int i0), (.int i0)] (.int i0)) (F_o46_s : Fld Z h0 o46 cE fs "[I" (.ref o51)) (F_o46_v : Fld Z h0 o46 cE fv "[C" (.ref o53)) (F_o46_n : Fld Z h0 o46 cE "length" "I" (.int i2)) (A_o51 : Arv Z h0 o51 k_o51 .int i9 [(.int i0), (.int i2), (.int i2), (.int i0), (.int i0), (.int i0), (.int i0), (.int i0), (.int i0)] (.int i0)) (hv_nv27 : own_N nv27) (ne_o29_o51 : o29 ≠ o51) (g_o51 : n0 ≤ o51) (ne_o29_o53 : o29 ≠ o53) (g_o53 : n0 ≤ o53) (ne_o46_o51 : o46 ≠ o51) (ne_o46_o53 : o46 ≠ o53) (ne_o51_o53 : o51 ≠ o53) :
    Met l Z (⟨cE, "append", "([CII)V"⟩ : MethodName) prog_35_method_12_code 5 none (rM 1 0 0 40) [] #[(.ref o46), (.ref o29), (.int i0), (.int nv27)] h0 n0 (fun v h => v = none ∧ Arv Z h o51 k_o51 .int i9 [(.int i0), (.int i2), (.int (i2 + nv27)), (.int i0), (.int i0), (.int i0), (.int i0), (.int i0), (.int i0)] (.int i0) ∧ Keep h0 h [o51, o53] ∧ Arv Z h o53 k_o53 .char i256 (Y (own_ap [yF_21, yF_25] [yF, yF_5, yF_9, yF_13, yF_17] (nv27).toNatClampNeg)) (.int i0)) := by
  refine Met.mkQ (tabs := tables_1) (a0 := a0) (ls0 := #[rv o46, rv o29, iv i0, iv nv27, un]) (plainFor_of_name pn_com_example_medis_medis_engine_ElementAttributes) hw Z0 (fun m => by first | (simp [entryFrame, mkF, argsToLocals, Value.category]; done) | rfl) ?_
  intro p e s m below meth c T Q' G' hQ hG C X
  have Kp : Keep h0 h0 [o51, o53] := Keep.refl _ _
  refine s_aloadN 1 C X d5_0 rfl rfl ?_
  refine s_getfield 4 C X (host := "") d5_1 (Or.inl (mW 25 rfl)) Via.refl F_o46_s (fun T X => ?_)
  refine s_aloadN 5 C X d5_4 rfl rfl ?_
  refine s_getfield 8 C X (host := "") d5_5 (Or.inl (mW 44 rfl)) Via.refl F_o46_n (fun T X => ?_)
  refine s_iaload 9 C X d5_8 A_o51 ⟨by decide, by decide⟩ (v := (.int i2)) rfl ?_
  refine s_istore 11 C X (l' := #[rv o46, rv o29, iv i0, iv nv27, iv i2]) d5_9 rfl ?_
  refine s_iload 13 C X d5_11 rfl ?_
  refine s_iloadN 14 C X d5_13 rfl ?_
  refine s_iadd 15 C X d5_14 ?_
  refine s_aloadN 16 C X d5_15 rfl rfl ?_
  refine s_getfield 19 C X (host := "") d5_16 (Or.inl (mW 29 rfl)) Via.refl F_o46_v (fun T X => ?_)
  refine s_arraylength 20 C X d5_19 A_o53 ?_
  refine s_icmp_le 48 23 C X d5_20 (fun c20_87 => ?_) (fun c => absurd c (own_gt hv_nv27 rfl (by decide)))
  refine s_aloadN 49 C X d5_48 rfl rfl ?_
  refine s_iloadN 50 C X d5_49 rfl ?_
  refine s_aloadN 51 C X d5_50 rfl rfl ?_
  refine s_getfield 54 C X (host := "") d5_51 (Or.inl (mW 29 rfl)) Via.refl F_o46_v (fun T X => ?_)
  refine s_iload 56 C X d5_54 rfl ?_
  refine s_iloadN 57 C X d5_56 rfl ?_
  refine s_arraycopy 60 0 (Y (own_ap [yF_21, yF_25] [yF, yF_5, yF_9, yF_13, yF_17] (nv27).toNatClampNeg)) C X d5_57 (mW 53 rfl) (mW 56 rfl) (mW 54 rfl) (mW 55 rfl) A_o29 A_o53 rfl (by decide) (by decide) (own_nn hv_nv27).1 (own_c5 hv_nv27) (own_c256 hv_nv27) (own_c8 hv_nv27) g_o53 (own_cp2 hv_nv27) rfl rfl (fun T hh X Kc A_o53 => ?_)
  have F_o46_s := F_o46_s.keep Kc (ninS ne_o46_o53 nin0)
  have F_o46_n := F_o46_n.keep Kc (ninS ne_o46_o53 nin0)
  have A_o51 := A_o51.keep Kc (ninS ne_o51_o53 nin0)
  have Kp := Kp.trans Kc (allS (Or.inl (by simp)) all0)
  refine rc (st' := []) rfl ?_
  refine s_aloadN 61 C X d5_60 rfl rfl ?_
  refine s_getfield 64 C X (host := "") d5_61 (Or.inl (mW 25 rfl)) Via.refl F_o46_s (fun T X => ?_)
  refine s_aloadN 65 C X d5_64 rfl rfl ?_
  refine s_getfield 68 C X (host := "") d5_65 (Or.inl (mW 44 rfl)) Via.refl F_o46_n (fun T X => ?_)
  refine s_iload 70 C X d5_68 rfl ?_
  refine s_iloadN 71 C X d5_70 rfl ?_
  refine s_iadd 72 C X d5_71 ?_
  refine s_iastore 73 2 C X d5_72 A_o51 g_o51 ⟨by decide, by decide⟩ rfl (Nat.le_of_ble_eq_true rfl) (fun T hh X W A_o51 => ?_)
  have A_o51 : Arv Z _ o51 k_o51 .int i9 [(.int i0), (.int i2), (.int (i2 + nv27)), (.int i0), (.int i0), (.int i0), (.int i0), (.int i0), (.int i0)] (.int i0) := A_o51
  have Kp := Kp.wr W (Or.inl (by simp))
  have A_o53 := A_o53.other W (Ne.symm ne_o51_o53)
  refine s_return C X d5_73 rfl ?_ (FG hG (by decide) (by decide))
  exact hQ _ _ ⟨rfl, A_o51, Kp, A_o53⟩
theorem rm_a48 (hw : Hw a0 Z) (yF : Int32) (yF_5 : Int32) (yF_9 : Int32) (yF_13 : Int32) (yF_17 : Int32) (yF_21 : Int32) (yF_25 : Int32) (nv27 : Int32) (o46 : Addr) (k_o51 : ClassId) (k_o53 : ClassId) (o51 : Addr) (o53 : Addr) (h0 : Heap) (n0 : Nat) (Z0 : n0 ≤ h0.size) (F_o46_s : Fld Z h0 o46 cE fs "[I" (.ref o51)) (F_o46_v : Fld Z h0 o46 cE fv "[C" (.ref o53)) (F_o46_n : Fld Z h0 o46 cE "length" "I" (.int i2)) (A_o51 : Arv Z h0 o51 k_o51 .int i9 [(.int i0), (.int i2), (.int (i2 + nv27)), (.int i0), (.int i0), (.int i0), (.int i0), (.int i0), (.int i0)] (.int i0)) (A_o53 : Arv Z h0 o53 k_o53 .char i256 (Y (own_ap [yF_21, yF_25] [yF, yF_5, yF_9, yF_13, yF_17] (nv27).toNatClampNeg)) (.int i0)) (hvB : own_B yF) (hvB_6 : own_B yF_5) (hvB_10 : own_B yF_9) (hvB_14 : own_B yF_13) (hvB_18 : own_B yF_17) (hv_nv27 : own_N nv27) (g_o51 : n0 ≤ o51) (g_o53 : n0 ≤ o53) (ne_o46_o51 : o46 ≠ o51) (ne_o46_o53 : o46 ≠ o53) (ne_o51_o53 : o51 ≠ o53) :
    Met l Z (⟨cE, "collapseLast", "()V"⟩ : MethodName) prog_35_method_13_code 5 none (rM 0 0 0 0) [] #[(.ref o46)] h0 n0 (fun v h => ∃ (tF : Int32) (xsF : List Int32), v = none ∧ own_C 2 [yF_21, yF_25] [yF, yF_5, yF_9, yF_13, yF_17] nv27 xsF tF ∧ Arv Z h o51 k_o51 .int i9 [(.int i0), (.int i2), (.int tF), (.int i0), (.int i0), (.int i0), (.int i0), (.int i0), (.int i0)] (.int i0) ∧ Arv Z h o53 k_o53 .char i256 (Y xsF) (.int i0) ∧ Keep h0 h [o51, o53]) := by
  refine Met.mkQ (tabs := tables_1) (a0 := a0) (ls0 := #[rv o46, un, un, un, un]) (plainFor_of_name pn_com_example_medis_medis_engine_ElementAttributes) hw Z0 (fun m => by first | (simp [entryFrame, mkF, argsToLocals, Value.category]; done) | rfl) ?_
  intro p e s m below meth c T Q' G' hQ hG C X
  have Kp : Keep h0 h0 [o51, o53] := Keep.refl _ _
  refine s_aloadN 1 C X d6_0 rfl rfl ?_
  refine s_getfield 4 C X (host := "") d6_1 (Or.inl (mW 25 rfl)) Via.refl F_o46_s (fun T X => ?_)
  refine s_aloadN 5 C X d6_4 rfl rfl ?_
  refine s_getfield 8 C X (host := "") d6_5 (Or.inl (mW 44 rfl)) Via.refl F_o46_n (fun T X => ?_)
  refine s_iconst 9 C X d6_8 kc_iconst_1 ?_
  refine s_isub 10 C X d6_9 ?_
  refine rc (st' := [(.int i1), (.ref o51)]) (by rw [kf_8]) ?_
  refine s_iaload 11 C X d6_10 A_o51 ⟨by decide, by decide⟩ (v := (.int i2)) rfl ?_
  refine s_istoreN 12 C X (l' := #[rv o46, iv i2, un, un, un]) d6_11 rfl ?_
  refine s_aloadN 13 C X d6_12 rfl rfl ?_
  refine s_getfield 16 C X (host := "") d6_13 (Or.inl (mW 25 rfl)) Via.refl F_o46_s (fun T X => ?_)
  refine s_aloadN 17 C X d6_16 rfl rfl ?_
  refine s_getfield 20 C X (host := "") d6_17 (Or.inl (mW 44 rfl)) Via.refl F_o46_n (fun T X => ?_)
  refine s_iaload 21 C X d6_20 A_o51 ⟨by decide, by decide⟩ (v := (.int (i2 + nv27))) rfl ?_
  obtain ⟨en89, e_en89⟩ : ∃ zz_ : Int32, zz_ = (i2 + nv27) := ⟨_, rfl⟩
  refine rc (st' := [(.int en89)]) (by subst e_en89; rfl) ?_
  have hve_en89 : en89.toInt = (2 : Int) + nv27.toInt := own_en e_en89 hv_nv27 rfl (by decide)
  refine s_istoreN 22 C X (l' := #[rv o46, iv i2, iv en89, un, un]) d6_21 rfl ?_
  refine s_iloadN 23 C X d6_22 rfl ?_
  refine s_istoreN 24 C X (l' := #[rv o46, iv i2, iv en89, iv i2, un]) d6_23 rfl ?_
  refine s_iloadN 25 C X d6_24 rfl ?_
  refine s_istore 27 C X (l' := #[rv o46, iv i2, iv en89, iv i2, iv i2]) d6_25 rfl ?_
  have I90 : own_I 2 [yF_21, yF_25] [yF, yF_5, yF_9, yF_13, yF_17] 0 nv27 (own_ap [yF_21, yF_25] [yF, yF_5, yF_9, yF_13, yF_17] (nv27).toNatClampNeg) i2 [] := own_I0 hv_nv27 (by decide) rfl (by decide)
  suffices J27 : ∀ (k i : Nat) (T : State) (hh : Heap) (fr t : Int32) (xs out : List Int32), i + k = 5 → fr.toInt = ((2 : Nat) : Int) + i → own_I 2 [yF_21, yF_25] [yF, yF_5, yF_9, yF_13, yF_17] i nv27 xs t out → (List.take i [yF, yF_5, yF_9, yF_13, yF_17]).foldl cst [] = out → (i : Int) ≤ nv27.toInt → ∀ (X : St p l e (rM 0 0 0 0) s m #[(.ref o46)] below meth c n0 T hh 0 0) (F_o46_s : Fld Z hh o46 cE fs "[I" (.ref o51)) (F_o46_v : Fld Z hh o46 cE fv "[C" (.ref o53)) (F_o46_n : Fld Z hh o46 cE "length" "I" (.int i2)) (A_o51 : Arv Z hh o51 k_o51 .int i9 [(.int i0), (.int i2), (.int (i2 + nv27)), (.int i0), (.int i0), (.int i0), (.int i0), (.int i0), (.int i0)] (.int i0)) (A_o53 : Arv Z hh o53 k_o53 .char i256 (Y xs) (.int i0)) (Kp : Keep h0 hh [o51, o53]), Run p e below n0 Q' G' m T 27 #[rv o46, iv i2, iv en89, iv t, iv fr] [] by
    exact J27 5 0 T _ i2 i2 _ [] rfl (by decide) I90 rfl hv_nv27.1 X F_o46_s F_o46_v F_o46_n A_o51 A_o53 Kp
  intro k
  induction k with
  | zero =>
    intro i T hh fr t xs out hk hf I ho hi X F_o46_s F_o46_v F_o46_n A_o51 A_o53 Kp
    obtain rfl : i = 5 := by omega
    refine s_iload 29 C X d6_27 rfl ?_
    refine s_iloadN 30 C X d6_29 rfl ?_
    refine s_icmp_ge 99 33 C X d6_30 (fun c30_91 => ?_) (fun c => absurd c (own_sti hv_nv27 hve_en89 hf))
    have hn_i : nv27.toInt = ((5 : Nat) : Int) := own_ex5i hi hv_nv27
    refine s_iloadN 100 C X d6_99 rfl ?_
    refine s_iloadN 101 C X d6_100 rfl ?_
    suffices J96 : ∀ (T : State) (hh : Heap) (y95 : Int32) (D96 : ((¬ ((2 : Int) < (t).toInt)) ∧ y95 = t) ∨ (((2 : Int) < (t).toInt) ∧ (¬ (((xs.getD ((t - i1)).toNatClampNeg 0)).toInt = (32 : Int))) ∧ y95 = t) ∨ (((2 : Int) < (t).toInt) ∧ (((xs.getD ((t - i1)).toNatClampNeg 0)).toInt = (32 : Int)) ∧ y95 = (t + im1))) (X : St p l e (rM 0 0 0 0) s m #[(.ref o46)] below meth c n0 T hh 0 0) (F_o46_s : Fld Z hh o46 cE fs "[I" (.ref o51)) (F_o46_n : Fld Z hh o46 cE "length" "I" (.int i2)) (A_o51 : Arv Z hh o51 k_o51 .int i9 [(.int i0), (.int i2), (.int (i2 + nv27)), (.int i0), (.int i0), (.int i0), (.int i0), (.int i0), (.int i0)] (.int i0)) (A_o53 : Arv Z hh o53 k_o53 .char i256 (Y xs) (.int i0)) (Kp : Keep h0 hh [o51, o53]), Run p e below n0 Q' G' m T 120 #[rv o46, iv i2, iv en89, iv y95, iv fr] [] by
      refine s_icmp_le 120 104 C X d6_101 (fun c101_92 => ?_) (fun c101_92 => ?_)
      · have t_c101_92 := inl c101_92
        exact J96 T _ (t) ((Or.inl ⟨t_c101_92, rfl⟩)) X F_o46_s F_o46_n A_o51 A_o53 Kp
      have t_c101_92 := ilt c101_92
      refine s_aloadN 105 C X d6_104 rfl rfl ?_
      refine s_getfield 108 C X (host := "") d6_105 (Or.inl (mW 29 rfl)) Via.refl F_o46_v (fun T X => ?_)
      refine s_iloadN 109 C X d6_108 rfl ?_
      refine s_iconst 110 C X d6_109 kc_iconst_1 ?_
      refine s_isub 111 C X d6_110 ?_
      refine s_caload 112 C X d6_111 A_o53 (own_ix1 I (by decide) (by decide) rfl t_c101_92) (v := (.int (xs.getD ((t - i1)).toNatClampNeg 0))) (own_getX _ _) ?_
      refine s_bipush 114 C X d6_112 kc_bipush_32 ?_
      refine s_icmp_ne 120 117 C X d6_114 (fun c114_93 => ?_) (fun c114_93 => ?_)
      · have t_c114_93 := ine c114_93
        exact J96 T _ (t) (Or.inr (Or.inl ⟨t_c101_92, t_c114_93, rfl⟩)) X F_o46_s F_o46_n A_o51 A_o53 Kp
      have t_c114_93 := ieq c114_93
      refine s_iinc 120 C X (l' := #[rv o46, iv i2, iv en89, .val (.int (t + im1)), iv fr]) d6_117 kc_iconst_m1 rfl rfl ?_
      exact J96 T _ ((t + im1)) (Or.inr (Or.inr ⟨t_c101_92, t_c114_93, rfl⟩)) X F_o46_s F_o46_n A_o51 A_o53 Kp
    intro T hh y95 D96  X F_o46_s F_o46_n A_o51 A_o53 Kp
    have hC : own_C 2 [yF_21, yF_25] [yF, yF_5, yF_9, yF_13, yF_17] nv27 xs y95 := own_fin I (by decide) (by decide) hn_i ho rfl D96
    refine s_aloadN 121 C X d6_120 rfl rfl ?_
    refine s_getfield 124 C X (host := "") d6_121 (Or.inl (mW 25 rfl)) Via.refl F_o46_s (fun T X => ?_)
    refine s_aloadN 125 C X d6_124 rfl rfl ?_
    refine s_getfield 128 C X (host := "") d6_125 (Or.inl (mW 44 rfl)) Via.refl F_o46_n (fun T X => ?_)
    refine s_iloadN 129 C X d6_128 rfl ?_
    refine s_iastore 130 2 C X d6_129 A_o51 g_o51 ⟨by decide, by decide⟩ rfl (Nat.le_of_ble_eq_true rfl) (fun T hh X W A_o51 => ?_)
    have A_o51 : Arv Z _ o51 k_o51 .int i9 [(.int i0), (.int i2), (.int y95), (.int i0), (.int i0), (.int i0), (.int i0), (.int i0), (.int i0)] (.int i0) := A_o51
    have A_o53 := A_o53.other W (Ne.symm ne_o51_o53)
    have Kp := Kp.wr W (Or.inl (by simp))
    refine s_return C X d6_130 rfl ?_ (FG hG (by decide) (by decide))
    obtain ⟨xsF, e_xsF⟩ : ∃ z : List Int32, z = xs := ⟨_, rfl⟩
    rw [← e_xsF] at A_o53 hC
    obtain ⟨tF, e_tF⟩ : ∃ z : Int32, z = y95 := ⟨_, rfl⟩
    rw [← e_tF] at A_o51 hC
    have hvC := hC
    exact hQ _ _ ⟨tF, xsF, rfl, hvC, A_o51, A_o53, Kp⟩
  | succ k ih =>
    intro i T hh fr t xs out hk hf I ho hi X F_o46_s F_o46_v F_o46_n A_o51 A_o53 Kp
    have hi4 : i ≤ 4 := by omega
    refine s_iload 29 C X d6_27 rfl ?_
    refine s_iloadN 30 C X d6_29 rfl ?_
    refine s_icmp_ge 99 33 C X d6_30 (fun c30_97 => ?_) (fun c30_97 => ?_)
    · have t_c30_97 := inl c30_97
      have hn_i : nv27.toInt = ((i : Nat) : Int) := own_exi t_c30_97 hf hve_en89 hi
      refine s_iloadN 100 C X d6_99 rfl ?_
      refine s_iloadN 101 C X d6_100 rfl ?_
      suffices J102 : ∀ (T : State) (hh : Heap) (y101 : Int32) (D102 : ((¬ ((2 : Int) < (t).toInt)) ∧ y101 = t) ∨ (((2 : Int) < (t).toInt) ∧ (¬ (((xs.getD ((t - i1)).toNatClampNeg 0)).toInt = (32 : Int))) ∧ y101 = t) ∨ (((2 : Int) < (t).toInt) ∧ (((xs.getD ((t - i1)).toNatClampNeg 0)).toInt = (32 : Int)) ∧ y101 = (t + im1))) (X : St p l e (rM 0 0 0 0) s m #[(.ref o46)] below meth c n0 T hh 0 0) (F_o46_s : Fld Z hh o46 cE fs "[I" (.ref o51)) (F_o46_n : Fld Z hh o46 cE "length" "I" (.int i2)) (A_o51 : Arv Z hh o51 k_o51 .int i9 [(.int i0), (.int i2), (.int (i2 + nv27)), (.int i0), (.int i0), (.int i0), (.int i0), (.int i0), (.int i0)] (.int i0)) (A_o53 : Arv Z hh o53 k_o53 .char i256 (Y xs) (.int i0)) (Kp : Keep h0 hh [o51, o53]), Run p e below n0 Q' G' m T 120 #[rv o46, iv i2, iv en89, iv y101, iv fr] [] by
        refine s_icmp_le 120 104 C X d6_101 (fun c101_98 => ?_) (fun c101_98 => ?_)
        · have t_c101_98 := inl c101_98
          exact J102 T _ (t) ((Or.inl ⟨t_c101_98, rfl⟩)) X F_o46_s F_o46_n A_o51 A_o53 Kp
        have t_c101_98 := ilt c101_98
        refine s_aloadN 105 C X d6_104 rfl rfl ?_
        refine s_getfield 108 C X (host := "") d6_105 (Or.inl (mW 29 rfl)) Via.refl F_o46_v (fun T X => ?_)
        refine s_iloadN 109 C X d6_108 rfl ?_
        refine s_iconst 110 C X d6_109 kc_iconst_1 ?_
        refine s_isub 111 C X d6_110 ?_
        refine s_caload 112 C X d6_111 A_o53 (own_ix1 I (by decide) (Nat.le_succ_of_le hi4) rfl t_c101_98) (v := (.int (xs.getD ((t - i1)).toNatClampNeg 0))) (own_getX _ _) ?_
        refine s_bipush 114 C X d6_112 kc_bipush_32 ?_
        refine s_icmp_ne 120 117 C X d6_114 (fun c114_99 => ?_) (fun c114_99 => ?_)
        · have t_c114_99 := ine c114_99
          exact J102 T _ (t) (Or.inr (Or.inl ⟨t_c101_98, t_c114_99, rfl⟩)) X F_o46_s F_o46_n A_o51 A_o53 Kp
        have t_c114_99 := ieq c114_99
        refine s_iinc 120 C X (l' := #[rv o46, iv i2, iv en89, .val (.int (t + im1)), iv fr]) d6_117 kc_iconst_m1 rfl rfl ?_
        exact J102 T _ ((t + im1)) (Or.inr (Or.inr ⟨t_c101_98, t_c114_99, rfl⟩)) X F_o46_s F_o46_n A_o51 A_o53 Kp
      intro T hh y101 D102  X F_o46_s F_o46_n A_o51 A_o53 Kp
      have hC : own_C 2 [yF_21, yF_25] [yF, yF_5, yF_9, yF_13, yF_17] nv27 xs y101 := own_fin I (by decide) (Nat.le_succ_of_le hi4) hn_i ho rfl D102
      refine s_aloadN 121 C X d6_120 rfl rfl ?_
      refine s_getfield 124 C X (host := "") d6_121 (Or.inl (mW 25 rfl)) Via.refl F_o46_s (fun T X => ?_)
      refine s_aloadN 125 C X d6_124 rfl rfl ?_
      refine s_getfield 128 C X (host := "") d6_125 (Or.inl (mW 44 rfl)) Via.refl F_o46_n (fun T X => ?_)
      refine s_iloadN 129 C X d6_128 rfl ?_
      refine s_iastore 130 2 C X d6_129 A_o51 g_o51 ⟨by decide, by decide⟩ rfl (Nat.le_of_ble_eq_true rfl) (fun T hh X W A_o51 => ?_)
      have A_o51 : Arv Z _ o51 k_o51 .int i9 [(.int i0), (.int i2), (.int y101), (.int i0), (.int i0), (.int i0), (.int i0), (.int i0), (.int i0)] (.int i0) := A_o51
      have A_o53 := A_o53.other W (Ne.symm ne_o51_o53)
      have Kp := Kp.wr W (Or.inl (by simp))
      refine s_return C X d6_130 rfl ?_ (FG hG (by decide) (by decide))
      obtain ⟨xsF, e_xsF⟩ : ∃ z : List Int32, z = xs := ⟨_, rfl⟩
      rw [← e_xsF] at A_o53 hC
      obtain ⟨tF, e_tF⟩ : ∃ z : Int32, z = y101 := ⟨_, rfl⟩
      rw [← e_tF] at A_o51 hC
      have hvC := hC
      exact hQ _ _ ⟨tF, xsF, rfl, hvC, A_o51, A_o53, Kp⟩
    have t_c30_97 := ilt c30_97
    obtain ⟨ci, e_ci⟩ : ∃ z : Int32, z = List.getD [yF, yF_5, yF_9, yF_13, yF_17] i 0 := ⟨_, rfl⟩
    have hvci : own_B ci := own_getB (own_B5 hvB hvB_6 hvB_10 hvB_14 hvB_18) (by show i < 5; omega) e_ci
    refine s_aloadN 34 C X d6_33 rfl rfl ?_
    refine s_getfield 37 C X (host := "") d6_34 (Or.inl (mW 29 rfl)) Via.refl F_o46_v (fun T X => ?_)
    refine s_iload 39 C X d6_37 rfl ?_
    refine s_caload 40 C X d6_39 A_o53 (own_fr hf (by decide) (Nat.le_succ_of_le hi4)) (v := (.int ci)) (own_ldi I t_c30_97 hf hve_en89 e_ci) ?_
    refine s_bipush 42 C X d6_40 kc_bipush_32 ?_
    suffices J109 : ∀ (T : State) (hh : Heap) (y107 : Int32) (y108 : List Int32) (D109 : (((ci).toInt = (32 : Int)) ∧ (¬ ((2 : Int) < (t).toInt)) ∧ y107 = t ∧ y108 = xs) ∨ (((ci).toInt = (32 : Int)) ∧ ((2 : Int) < (t).toInt) ∧ (((xs.getD ((t - i1)).toNatClampNeg 0)).toInt = (32 : Int)) ∧ y107 = t ∧ y108 = xs) ∨ (((ci).toInt = (32 : Int)) ∧ ((2 : Int) < (t).toInt) ∧ (¬ (((xs.getD ((t - i1)).toNatClampNeg 0)).toInt = (32 : Int))) ∧ y107 = (t + i1) ∧ y108 = (xs.set (t).toNatClampNeg i32)) ∨ ((¬ ((ci).toInt = (32 : Int))) ∧ y107 = (t + i1) ∧ y108 = (xs.set (t).toNatClampNeg ci))) (X : St p l e (rM 0 0 0 0) s m #[(.ref o46)] below meth c n0 T hh 0 0) (F_o46_s : Fld Z hh o46 cE fs "[I" (.ref o51)) (F_o46_v : Fld Z hh o46 cE fv "[C" (.ref o53)) (F_o46_n : Fld Z hh o46 cE "length" "I" (.int i2)) (A_o51 : Arv Z hh o51 k_o51 .int i9 [(.int i0), (.int i2), (.int (i2 + nv27)), (.int i0), (.int i0), (.int i0), (.int i0), (.int i0), (.int i0)] (.int i0)) (A_o53 : Arv Z hh o53 k_o53 .char i256 (Y y108) (.int i0)) (Kp : Keep h0 hh [o51, o53]), Run p e below n0 Q' G' m T 93 #[rv o46, iv i2, iv en89, iv y107, iv fr] [] by
      refine s_icmp_eq 64 45 C X d6_42 (fun c42_103 => ?_) (fun c42_103 => ?_)
      · have t_c42_103 := ieq c42_103
        refine s_iloadN 65 C X d6_64 rfl ?_
        refine s_iloadN 66 C X d6_65 rfl ?_
        refine s_icmp_le 93 69 C X d6_66 (fun c66_104 => ?_) (fun c66_104 => ?_)
        · have t_c66_104 := inl c66_104
          exact J109 T _ (t) (xs) ((Or.inl ⟨t_c42_103, t_c66_104, rfl, rfl⟩)) X F_o46_s F_o46_v F_o46_n A_o51 A_o53 Kp
        have t_c66_104 := ilt c66_104
        refine s_aloadN 70 C X d6_69 rfl rfl ?_
        refine s_getfield 73 C X (host := "") d6_70 (Or.inl (mW 29 rfl)) Via.refl F_o46_v (fun T X => ?_)
        refine s_iloadN 74 C X d6_73 rfl ?_
        refine s_iconst 75 C X d6_74 kc_iconst_1 ?_
        refine s_isub 76 C X d6_75 ?_
        refine s_caload 77 C X d6_76 A_o53 (own_ix1 I (by decide) (Nat.le_succ_of_le hi4) rfl t_c66_104) (v := (.int (xs.getD ((t - i1)).toNatClampNeg 0))) (own_getX _ _) ?_
        refine s_bipush 79 C X d6_77 kc_bipush_32 ?_
        refine s_icmp_eq 93 82 C X d6_79 (fun c79_105 => ?_) (fun c79_105 => ?_)
        · have t_c79_105 := ieq c79_105
          exact J109 T _ (t) (xs) (Or.inr (Or.inl ⟨t_c42_103, t_c66_104, t_c79_105, rfl, rfl⟩)) X F_o46_s F_o46_v F_o46_n A_o51 A_o53 Kp
        have t_c79_105 := ine c79_105
        refine s_aloadN 83 C X d6_82 rfl rfl ?_
        refine s_getfield 86 C X (host := "") d6_83 (Or.inl (mW 29 rfl)) Via.refl F_o46_v (fun T X => ?_)
        refine s_iloadN 87 C X d6_86 rfl ?_
        refine s_iinc 90 C X (l' := #[rv o46, iv i2, iv en89, .val (.int (t + i1)), iv fr]) d6_87 kc_iconst_1 rfl rfl ?_
        refine s_bipush 92 C X d6_90 kc_bipush_32 ?_
        refine s_castore 93 (t).toNatClampNeg C X d6_92 A_o53 g_o53 (own_ix I (by decide) (Nat.le_succ_of_le hi4)).1 rfl ((own_ix I (by decide) (Nat.le_succ_of_le hi4)).2 hi4) (fun T hh X W A_o53 => ?_)
        have F_o46_s := F_o46_s.other W (Or.inl ne_o46_o53)
        have F_o46_v := F_o46_v.other W (Or.inl ne_o46_o53)
        have F_o46_n := F_o46_n.other W (Or.inl ne_o46_o53)
        have A_o51 := A_o51.other W ne_o51_o53
        have Kp := Kp.wr W (Or.inl (by simp))
        rw [own_setX, kn32] at A_o53
        exact J109 T _ ((t + i1)) ((xs.set (t).toNatClampNeg i32)) (Or.inr (Or.inr (Or.inl ⟨t_c42_103, t_c66_104, t_c79_105, rfl, rfl⟩))) X F_o46_s F_o46_v F_o46_n A_o51 A_o53 Kp
      have t_c42_103 := ine c42_103
      refine s_aloadN 46 C X d6_45 rfl rfl ?_
      refine s_getfield 49 C X (host := "") d6_46 (Or.inl (mW 29 rfl)) Via.refl F_o46_v (fun T X => ?_)
      refine s_iloadN 50 C X d6_49 rfl ?_
      refine s_iinc 53 C X (l' := #[rv o46, iv i2, iv en89, .val (.int (t + i1)), iv fr]) d6_50 kc_iconst_1 rfl rfl ?_
      refine s_aloadN 54 C X d6_53 rfl rfl ?_
      refine s_getfield 57 C X (host := "") d6_54 (Or.inl (mW 29 rfl)) Via.refl F_o46_v (fun T X => ?_)
      refine s_iload 59 C X d6_57 rfl ?_
      refine s_caload 60 C X d6_59 A_o53 (own_fr hf (by decide) (Nat.le_succ_of_le hi4)) (v := (.int ci)) (own_ldi I t_c30_97 hf hve_en89 e_ci) ?_
      refine s_castore 61 (t).toNatClampNeg C X d6_60 A_o53 g_o53 (own_ix I (by decide) (Nat.le_succ_of_le hi4)).1 rfl ((own_ix I (by decide) (Nat.le_succ_of_le hi4)).2 hi4) (fun T hh X W A_o53 => ?_)
      have F_o46_s := F_o46_s.other W (Or.inl ne_o46_o53)
      have F_o46_v := F_o46_v.other W (Or.inl ne_o46_o53)
      have F_o46_n := F_o46_n.other W (Or.inl ne_o46_o53)
      have A_o51 := A_o51.other W ne_o51_o53
      have Kp := Kp.wr W (Or.inl (by simp))
      rw [own_setX, own_nc hvci] at A_o53
      refine s_goto 93 C X d6_61 ?_
      exact J109 T _ ((t + i1)) ((xs.set (t).toNatClampNeg ci)) (Or.inr (Or.inr (Or.inr ⟨t_c42_103, rfl, rfl⟩))) X F_o46_s F_o46_v F_o46_n A_o51 A_o53 Kp
    intro T hh y107 y108 D109  X F_o46_s F_o46_v F_o46_n A_o51 A_o53 Kp
    have I110 : own_I 2 [yF_21, yF_25] [yF, yF_5, yF_9, yF_13, yF_17] (i + 1) nv27 y108 y107 (cst out ci) := own_stp I (by decide) hi4 rfl D109
    refine s_iinc 96 C X (l' := #[rv o46, iv i2, iv en89, iv y107, .val (.int (fr + i1))]) d6_93 kc_iconst_1 rfl rfl ?_
    refine s_goto 27 C X d6_96 ?_
    exact ih (i + 1) T _ (fr + i1) y107 y108 (cst out ci) (by omega) (own_fr1 hf (by decide) hi4) I110 (own_fold (by show i < 5; omega) ho e_ci) (own_lti t_c30_97 hf hve_en89) X F_o46_s F_o46_v F_o46_n A_o51 A_o53 Kp
theorem rm_a49 (hw : Hw a0 Z) (fm : Value) (m277 : Int32) (h0 : Heap) (n0 : Nat) (Z0 : n0 ≤ h0.size) (hv_fm : fm.isRef = true) (hvN_m277 : own_N m277) :
    Met l Z (⟨cP, "checkFromIndexSize", sI⟩ : MethodName) jdk_41_method_13_code 4 (some .int) (rM 0 0 0 0) [] #[(.int i2), (.int m277), (.int i256), fm] h0 n0 (fun v h => v = some (.int i2) ∧ Keep h0 h []) := by
  refine Met.mkQ (tabs := tables_1) (a0 := a0) (ls0 := #[iv i2, iv m277, iv i256, .val fm]) (plainFor_of_name pn_jdk_internal_util_Preconditions) hw Z0 (fun m => by first | (simp [entryFrame, mkF, argsToLocals, Value.category]; done) | rfl | (cases fm <;> first | (simp [entryFrame, mkF, argsToLocals, Value.category]; done) | (exact absurd hv_fm (by simp [Value.isRef])))) ?_
  intro p e s m below meth c T Q' G' hQ hG C X
  have Kp : Keep h0 h0 [] := Keep.refl _ _
  refine s_iloadN 1 C X d13_0 rfl ?_
  refine s_iloadN 2 C X d13_1 rfl ?_
  refine s_ior 3 C X d13_2 ?_
  refine rc (st' := [(.int i258)]) (by rw [kf_11]) ?_
  refine s_iloadN 4 C X d13_3 rfl ?_
  refine s_ior 5 C X d13_4 ?_
  refine s_if_lt 15 8 C X d13_5 (fun c => absurd c (own_or hvN_m277 (by decide))) (fun c5_278 => ?_)
  refine s_iloadN 9 C X d13_8 rfl ?_
  refine s_iloadN 10 C X d13_9 rfl ?_
  refine s_iloadN 11 C X d13_10 rfl ?_
  refine s_isub 12 C X d13_11 ?_
  refine rc (st' := [(.int i254), (.int m277)]) (by rw [kf_12]) ?_
  refine s_icmp_le 23 15 C X d13_12 (fun c12_279 => ?_) (fun c => absurd c (own_szs hvN_m277 (by decide)))
  refine s_iloadN 24 C X d13_23 rfl ?_
  refine s_ireturn C X d13_24 rfl ?_ (FG hG (by decide) (by decide))
  exact hQ _ _ ⟨rfl, Kp⟩
theorem rm_a50 (hw : Hw a0 Z) (fm : Value) (m277 : Int32) (h0 : Heap) (n0 : Nat) (Z0 : n0 ≤ h0.size) (Od : Old Z n0 h0) (S_fm : Sta Z Z.heap cP cM cF fm) (hv_fm : fm.isRef = true) (hvN_m277 : own_N m277) :
    Met l Z (⟨cS, "checkBoundsOffCount", "(III)I"⟩ : MethodName) jdk_42_method_157_code 3 (some .int) (rM 1 0 0 15) [] #[(.int i2), (.int m277), (.int i256)] h0 n0 (fun v h => v = some (.int i2) ∧ Old Z n0 h ∧ Keep h0 h []) := by
  refine Met.mkQ (tabs := tables_1) (a0 := a0) (ls0 := #[iv i2, iv m277, iv i256]) (plainFor_of_name pn_java_lang_String) hw Z0 (fun m => by first | (simp [entryFrame, mkF, argsToLocals, Value.category]; done) | rfl) ?_
  intro p e s m below meth c T Q' G' hQ hG C X
  have Kp : Keep h0 h0 [] := Keep.refl _ _
  refine s_iloadN 1 C X d12_0 rfl ?_
  refine s_iloadN 2 C X d12_1 rfl ?_
  refine s_iloadN 3 C X d12_2 rfl ?_
  refine s_getstatic 6 C X (host := "") d12_3 (Or.inl (mW 82 rfl)) Via.refl (S_fm.ext Od.2) (fun T X => ?_)
  refine s_callS 9 [(.int i2), (.int m277), (.int i256), fm] [] 0 C X d12_6 (mW 84 rfl) (mW 85 rfl) (mW 83 rfl) (mW 86 rfl) (rm_a49 l Z a0 hw fm m277 _ n0 X.sz hv_fm hvN_m277) (lenOf pd__IIILjava_util_function_BiFunction__I rfl) rfl rfl rfl (fun T v hh X q => ?_)
  obtain ⟨rfl, Kc⟩ := q
  have Od := Od.keep Kc all0
  have Kp := Kp.trans Kc all0
  refine rc (st' := [(.int i2)]) rfl ?_
  refine s_ireturn C X d12_9 rfl ?_ (FG hG (by decide) (by decide))
  exact hQ _ _ ⟨rfl, Od, Kp⟩
theorem rm_a51 (hw : Hw a0 Z) (fm : Value) (k_o53 : ClassId) (o53 : Addr) (xsF : List Int32) (m277 : Int32) (h0 : Heap) (n0 : Nat) (Z0 : n0 ≤ h0.size) (Od : Old Z n0 h0) (S_fm : Sta Z Z.heap cP cM cF fm) (A_o53 : Arv Z h0 o53 k_o53 .char i256 (Y xsF) (.int i0)) (hv_fm : fm.isRef = true) (hvN_m277 : own_N m277) :
    Met l Z (⟨cS, "rangeCheck", "([CII)Ljava/lang/Void;"⟩ : MethodName) jdk_42_method_5_code 3 (some (.object "java/lang/Void")) (rM 2 0 0 29) [] #[(.ref o53), (.int i2), (.int m277)] h0 n0 (fun v h => v = some .null ∧ Keep h0 h [] ∧ Old Z n0 h) := by
  refine Met.mkQ (tabs := tables_1) (a0 := a0) (ls0 := #[rv o53, iv i2, iv m277]) (plainFor_of_name pn_java_lang_String) hw Z0 (fun m => by first | (simp [entryFrame, mkF, argsToLocals, Value.category]; done) | rfl) ?_
  intro p e s m below meth c T Q' G' hQ hG C X
  have Kp : Keep h0 h0 [] := Keep.refl _ _
  refine s_iloadN 1 C X d11_0 rfl ?_
  refine s_iloadN 2 C X d11_1 rfl ?_
  refine s_aloadN 3 C X d11_2 rfl rfl ?_
  refine s_arraylength 4 C X d11_3 A_o53 ?_
  refine s_callS 7 [(.int i2), (.int m277), (.int i256)] [] 0 C X d11_4 (mW 79 rfl) (mW 80 rfl) (mW 32 rfl) (mW 81 rfl) (rm_a50 l Z a0 hw fm m277 _ n0 X.sz Od S_fm hv_fm hvN_m277) (lenOf pd__III_I rfl) rfl rfl rfl (fun T v hh X q => ?_)
  obtain ⟨rfl, Od, Kc⟩ := q
  have Kp := Kp.trans Kc all0
  refine rc (st' := [(.int i2)]) rfl ?_
  refine s_pop 8 C X d11_7 rfl ?_
  refine s_aconstNull 9 C X d11_8 ?_
  refine s_areturn C X d11_9 rfl rfl rfl ?_ (FG hG (by decide) (by decide))
  exact hQ _ _ ⟨rfl, Kp, Od⟩
theorem rm_a52 (hw : Hw a0 Z) (k_o53 : ClassId) (o53 : Addr) (xsF : List Int32) (m277 : Int32) (o285 : Addr) (k_o285 : ClassId) (h0 : Heap) (n0 : Nat) (Z0 : n0 ≤ h0.size) (A_o53 : Arv Z h0 o53 k_o53 .char i256 (Y xsF) (.int i0)) (A_o285 : Arv Z h0 o285 k_o285 .byte m277 [(.int i0), (.int i0), (.int i0), (.int i0), (.int i0)] (.int i0)) (hvN_m277 : own_N m277) (hvW_m277 : own_W 2 xsF m277) (ne_o53_o285 : o53 ≠ o285) (g_o285 : n0 ≤ o285) :
    Met l Z (⟨cU, "compress", "([CI[BII)I"⟩ : MethodName) jdk_52_method_21_code 7 (some .int) (rM 0 0 0 0) [] #[(.ref o53), (.int i2), (.ref o285), (.int i0), (.int m277)] h0 n0 (fun v h => ∃ (zsF : List Int32), v = some (.int m277) ∧ own_Z 2 xsF m277 zsF ∧ Arv Z h o285 k_o285 .byte m277 (Y zsF) (.int i0) ∧ Keep h0 h [o285]) := by
  refine Met.mkQ (tabs := tables_1) (a0 := a0) (ls0 := #[rv o53, iv i2, rv o285, iv i0, iv m277, un, un]) (plainFor_of_name pn_java_lang_StringUTF16) hw Z0 (fun m => by first | (simp [entryFrame, mkF, argsToLocals, Value.category]; done) | rfl) ?_
  intro p e s m below meth c T Q' G' hQ hG C X
  have Kp : Keep h0 h0 [o285] := Keep.refl _ _
  refine s_iconst 1 C X d16_0 kc_iconst_0 ?_
  refine s_istore 3 C X (l' := #[rv o53, iv i2, rv o285, iv i0, iv m277, iv i0, un]) d16_1 rfl ?_
  refine s_iload 5 C X d16_3 rfl ?_
  refine s_iload 7 C X d16_5 rfl ?_
  refine s_icmp_ge 44 10 C X d16_7 (fun c7_286 => ?_) (fun c7_286 => ?_)
  · have t_c7_286 := inl c7_286
    refine s_iload 46 C X d16_44 rfl ?_
    refine s_ireturn C X d16_46 rfl ?_ (FG hG (by decide) (by decide))
    obtain ⟨zsF, e_zsF⟩ : ∃ z : List Int32, z = [i0, i0, i0, i0, i0] := ⟨_, rfl⟩
    have hvZ : own_Z 2 xsF m277 zsF := by rw [e_zsF]; exact own_z20 (Int.not_lt.mp t_c7_286)
    have A_o285 : Arv Z h0 o285 k_o285 .byte m277 (Y zsF) (.int i0) := by rw [e_zsF]; exact A_o285
    exact hQ _ _ ⟨zsF, rfl, hvZ, A_o285, Kp⟩
  have t_c7_286 := ilt c7_286
  refine s_aloadN 11 C X d16_10 rfl rfl ?_
  refine s_iloadN 12 C X d16_11 rfl ?_
  refine s_caload 13 C X d16_12 A_o53 ⟨by decide, by decide⟩ (v := (.int (xsF.getD 2 0))) (own_getX _ _) ?_
  refine s_istore 15 C X (l' := #[rv o53, iv i2, rv o285, iv i0, iv m277, iv i0, .val (.int (xsF.getD 2 0))]) d16_13 rfl ?_
  refine s_iload 17 C X d16_15 rfl ?_
  refine s_sipush 20 C X d16_17 kc_sipush_255 ?_
  refine s_icmp_le 26 23 C X d16_20 (fun c20_287 => ?_) (fun c => absurd c (own_le (own_wk hvW_m277 t_c7_286 rfl rfl)))
  refine s_aloadN 27 C X d16_26 rfl rfl ?_
  refine s_iloadN 28 C X d16_27 rfl ?_
  refine s_iload 30 C X d16_28 rfl ?_
  refine s_i2b 31 C X d16_30 ?_
  refine s_bastore 32 0 C X d16_31 A_o285 g_o285 ⟨by decide, c7_286⟩ rfl (Nat.le_of_ble_eq_true rfl) (fun T hh X W A_o285 => ?_)
  have A_o285 : Arv Z _ o285 k_o285 .byte m277 [(.int (nar .byte ((xsF.getD 2 0)).toInt8.toInt32)), (.int i0), (.int i0), (.int i0), (.int i0)] (.int i0) := A_o285
  have A_o53 := A_o53.other W ne_o53_o285
  have Kp := Kp.wr W (Or.inl (by simp))
  have A_o285 : Arv Z _ o285 k_o285 .byte m277 [(.int (bv (xsF.getD 2 0))), (.int i0), (.int i0), (.int i0), (.int i0)] (.int i0) := A_o285
  refine s_iinc 35 C X (l' := #[rv o53, iv i3, rv o285, iv i0, iv m277, iv i0, .val (.int (xsF.getD 2 0))]) d16_32 kc_iconst_1 rfl rfl ?_
  refine s_iinc 38 C X (l' := #[rv o53, iv i3, rv o285, iv i1, iv m277, iv i0, .val (.int (xsF.getD 2 0))]) d16_35 kc_iconst_1 rfl rfl ?_
  refine s_iinc 41 C X (l' := #[rv o53, iv i3, rv o285, iv i1, iv m277, iv i1, .val (.int (xsF.getD 2 0))]) d16_38 kc_iconst_1 rfl rfl ?_
  refine s_goto 3 C X d16_41 ?_
  refine s_iload 5 C X d16_3 rfl ?_
  refine s_iload 7 C X d16_5 rfl ?_
  refine s_icmp_ge 44 10 C X d16_7 (fun c7_288 => ?_) (fun c7_288 => ?_)
  · have t_c7_288 := inl c7_288
    refine s_iload 46 C X d16_44 rfl ?_
    refine s_ireturn C X d16_46 rfl ?_ (FG hG (by decide) (by decide))
    obtain ⟨zsF, e_zsF⟩ : ∃ z : List Int32, z = [(bv (xsF.getD 2 0)), i0, i0, i0, i0] := ⟨_, rfl⟩
    have hvZ : own_Z 2 xsF m277 zsF := by rw [e_zsF]; exact own_z21 (Int.not_lt.mp t_c7_288)
    have A_o285 : Arv Z hh o285 k_o285 .byte m277 (Y zsF) (.int i0) := by rw [e_zsF]; exact A_o285
    exact hQ _ _ ⟨zsF, rfl, hvZ, A_o285, Kp⟩
  have t_c7_288 := ilt c7_288
  refine s_aloadN 11 C X d16_10 rfl rfl ?_
  refine s_iloadN 12 C X d16_11 rfl ?_
  refine s_caload 13 C X d16_12 A_o53 ⟨by decide, by decide⟩ (v := (.int (xsF.getD 3 0))) (own_getX _ _) ?_
  refine s_istore 15 C X (l' := #[rv o53, iv i3, rv o285, iv i1, iv m277, iv i1, .val (.int (xsF.getD 3 0))]) d16_13 rfl ?_
  refine s_iload 17 C X d16_15 rfl ?_
  refine s_sipush 20 C X d16_17 kc_sipush_255 ?_
  refine s_icmp_le 26 23 C X d16_20 (fun c20_289 => ?_) (fun c => absurd c (own_le (own_wk hvW_m277 t_c7_288 rfl rfl)))
  refine s_aloadN 27 C X d16_26 rfl rfl ?_
  refine s_iloadN 28 C X d16_27 rfl ?_
  refine s_iload 30 C X d16_28 rfl ?_
  refine s_i2b 31 C X d16_30 ?_
  refine s_bastore 32 1 C X d16_31 A_o285 g_o285 ⟨by decide, c7_288⟩ rfl (Nat.le_of_ble_eq_true rfl) (fun T hh X W A_o285 => ?_)
  have A_o285 : Arv Z _ o285 k_o285 .byte m277 [(.int (bv (xsF.getD 2 0))), (.int (nar .byte ((xsF.getD 3 0)).toInt8.toInt32)), (.int i0), (.int i0), (.int i0)] (.int i0) := A_o285
  have A_o53 := A_o53.other W ne_o53_o285
  have Kp := Kp.wr W (Or.inl (by simp))
  have A_o285 : Arv Z _ o285 k_o285 .byte m277 [(.int (bv (xsF.getD 2 0))), (.int (bv (xsF.getD 3 0))), (.int i0), (.int i0), (.int i0)] (.int i0) := A_o285
  refine s_iinc 35 C X (l' := #[rv o53, iv i4, rv o285, iv i1, iv m277, iv i1, .val (.int (xsF.getD 3 0))]) d16_32 kc_iconst_1 rfl rfl ?_
  refine s_iinc 38 C X (l' := #[rv o53, iv i4, rv o285, iv i2, iv m277, iv i1, .val (.int (xsF.getD 3 0))]) d16_35 kc_iconst_1 rfl rfl ?_
  refine s_iinc 41 C X (l' := #[rv o53, iv i4, rv o285, iv i2, iv m277, iv i2, .val (.int (xsF.getD 3 0))]) d16_38 kc_iconst_1 rfl rfl ?_
  refine s_goto 3 C X d16_41 ?_
  refine s_iload 5 C X d16_3 rfl ?_
  refine s_iload 7 C X d16_5 rfl ?_
  refine s_icmp_ge 44 10 C X d16_7 (fun c7_290 => ?_) (fun c7_290 => ?_)
  · have t_c7_290 := inl c7_290
    refine s_iload 46 C X d16_44 rfl ?_
    refine s_ireturn C X d16_46 rfl ?_ (FG hG (by decide) (by decide))
    obtain ⟨zsF, e_zsF⟩ : ∃ z : List Int32, z = [(bv (xsF.getD 2 0)), (bv (xsF.getD 3 0)), i0, i0, i0] := ⟨_, rfl⟩
    have hvZ : own_Z 2 xsF m277 zsF := by rw [e_zsF]; exact own_z22 (Int.not_lt.mp t_c7_290)
    have A_o285 : Arv Z hh o285 k_o285 .byte m277 (Y zsF) (.int i0) := by rw [e_zsF]; exact A_o285
    exact hQ _ _ ⟨zsF, rfl, hvZ, A_o285, Kp⟩
  have t_c7_290 := ilt c7_290
  refine s_aloadN 11 C X d16_10 rfl rfl ?_
  refine s_iloadN 12 C X d16_11 rfl ?_
  refine s_caload 13 C X d16_12 A_o53 ⟨by decide, by decide⟩ (v := (.int (xsF.getD 4 0))) (own_getX _ _) ?_
  refine s_istore 15 C X (l' := #[rv o53, iv i4, rv o285, iv i2, iv m277, iv i2, .val (.int (xsF.getD 4 0))]) d16_13 rfl ?_
  refine s_iload 17 C X d16_15 rfl ?_
  refine s_sipush 20 C X d16_17 kc_sipush_255 ?_
  refine s_icmp_le 26 23 C X d16_20 (fun c20_291 => ?_) (fun c => absurd c (own_le (own_wk hvW_m277 t_c7_290 rfl rfl)))
  refine s_aloadN 27 C X d16_26 rfl rfl ?_
  refine s_iloadN 28 C X d16_27 rfl ?_
  refine s_iload 30 C X d16_28 rfl ?_
  refine s_i2b 31 C X d16_30 ?_
  refine s_bastore 32 2 C X d16_31 A_o285 g_o285 ⟨by decide, c7_290⟩ rfl (Nat.le_of_ble_eq_true rfl) (fun T hh X W A_o285 => ?_)
  have A_o285 : Arv Z _ o285 k_o285 .byte m277 [(.int (bv (xsF.getD 2 0))), (.int (bv (xsF.getD 3 0))), (.int (nar .byte ((xsF.getD 4 0)).toInt8.toInt32)), (.int i0), (.int i0)] (.int i0) := A_o285
  have A_o53 := A_o53.other W ne_o53_o285
  have Kp := Kp.wr W (Or.inl (by simp))
  have A_o285 : Arv Z _ o285 k_o285 .byte m277 [(.int (bv (xsF.getD 2 0))), (.int (bv (xsF.getD 3 0))), (.int (bv (xsF.getD 4 0))), (.int i0), (.int i0)] (.int i0) := A_o285
  refine s_iinc 35 C X (l' := #[rv o53, iv i5, rv o285, iv i2, iv m277, iv i2, .val (.int (xsF.getD 4 0))]) d16_32 kc_iconst_1 rfl rfl ?_
  refine s_iinc 38 C X (l' := #[rv o53, iv i5, rv o285, iv i3, iv m277, iv i2, .val (.int (xsF.getD 4 0))]) d16_35 kc_iconst_1 rfl rfl ?_
  refine s_iinc 41 C X (l' := #[rv o53, iv i5, rv o285, iv i3, iv m277, iv i3, .val (.int (xsF.getD 4 0))]) d16_38 kc_iconst_1 rfl rfl ?_
  refine s_goto 3 C X d16_41 ?_
  refine s_iload 5 C X d16_3 rfl ?_
  refine s_iload 7 C X d16_5 rfl ?_
  refine s_icmp_ge 44 10 C X d16_7 (fun c7_292 => ?_) (fun c7_292 => ?_)
  · have t_c7_292 := inl c7_292
    refine s_iload 46 C X d16_44 rfl ?_
    refine s_ireturn C X d16_46 rfl ?_ (FG hG (by decide) (by decide))
    obtain ⟨zsF, e_zsF⟩ : ∃ z : List Int32, z = [(bv (xsF.getD 2 0)), (bv (xsF.getD 3 0)), (bv (xsF.getD 4 0)), i0, i0] := ⟨_, rfl⟩
    have hvZ : own_Z 2 xsF m277 zsF := by rw [e_zsF]; exact own_z23 (Int.not_lt.mp t_c7_292)
    have A_o285 : Arv Z hh o285 k_o285 .byte m277 (Y zsF) (.int i0) := by rw [e_zsF]; exact A_o285
    exact hQ _ _ ⟨zsF, rfl, hvZ, A_o285, Kp⟩
  have t_c7_292 := ilt c7_292
  refine s_aloadN 11 C X d16_10 rfl rfl ?_
  refine s_iloadN 12 C X d16_11 rfl ?_
  refine s_caload 13 C X d16_12 A_o53 ⟨by decide, by decide⟩ (v := (.int (xsF.getD 5 0))) (own_getX _ _) ?_
  refine s_istore 15 C X (l' := #[rv o53, iv i5, rv o285, iv i3, iv m277, iv i3, .val (.int (xsF.getD 5 0))]) d16_13 rfl ?_
  refine s_iload 17 C X d16_15 rfl ?_
  refine s_sipush 20 C X d16_17 kc_sipush_255 ?_
  refine s_icmp_le 26 23 C X d16_20 (fun c20_293 => ?_) (fun c => absurd c (own_le (own_wk hvW_m277 t_c7_292 rfl rfl)))
  refine s_aloadN 27 C X d16_26 rfl rfl ?_
  refine s_iloadN 28 C X d16_27 rfl ?_
  refine s_iload 30 C X d16_28 rfl ?_
  refine s_i2b 31 C X d16_30 ?_
  refine s_bastore 32 3 C X d16_31 A_o285 g_o285 ⟨by decide, c7_292⟩ rfl (Nat.le_of_ble_eq_true rfl) (fun T hh X W A_o285 => ?_)
  have A_o285 : Arv Z _ o285 k_o285 .byte m277 [(.int (bv (xsF.getD 2 0))), (.int (bv (xsF.getD 3 0))), (.int (bv (xsF.getD 4 0))), (.int (nar .byte ((xsF.getD 5 0)).toInt8.toInt32)), (.int i0)] (.int i0) := A_o285
  have A_o53 := A_o53.other W ne_o53_o285
  have Kp := Kp.wr W (Or.inl (by simp))
  have A_o285 : Arv Z _ o285 k_o285 .byte m277 [(.int (bv (xsF.getD 2 0))), (.int (bv (xsF.getD 3 0))), (.int (bv (xsF.getD 4 0))), (.int (bv (xsF.getD 5 0))), (.int i0)] (.int i0) := A_o285
  refine s_iinc 35 C X (l' := #[rv o53, iv i6, rv o285, iv i3, iv m277, iv i3, .val (.int (xsF.getD 5 0))]) d16_32 kc_iconst_1 rfl rfl ?_
  refine s_iinc 38 C X (l' := #[rv o53, iv i6, rv o285, iv i4, iv m277, iv i3, .val (.int (xsF.getD 5 0))]) d16_35 kc_iconst_1 rfl rfl ?_
  refine s_iinc 41 C X (l' := #[rv o53, iv i6, rv o285, iv i4, iv m277, iv i4, .val (.int (xsF.getD 5 0))]) d16_38 kc_iconst_1 rfl rfl ?_
  refine s_goto 3 C X d16_41 ?_
  refine s_iload 5 C X d16_3 rfl ?_
  refine s_iload 7 C X d16_5 rfl ?_
  refine s_icmp_ge 44 10 C X d16_7 (fun c7_294 => ?_) (fun c7_294 => ?_)
  · have t_c7_294 := inl c7_294
    refine s_iload 46 C X d16_44 rfl ?_
    refine s_ireturn C X d16_46 rfl ?_ (FG hG (by decide) (by decide))
    obtain ⟨zsF, e_zsF⟩ : ∃ z : List Int32, z = [(bv (xsF.getD 2 0)), (bv (xsF.getD 3 0)), (bv (xsF.getD 4 0)), (bv (xsF.getD 5 0)), i0] := ⟨_, rfl⟩
    have hvZ : own_Z 2 xsF m277 zsF := by rw [e_zsF]; exact own_z24 (Int.not_lt.mp t_c7_294)
    have A_o285 : Arv Z hh o285 k_o285 .byte m277 (Y zsF) (.int i0) := by rw [e_zsF]; exact A_o285
    exact hQ _ _ ⟨zsF, rfl, hvZ, A_o285, Kp⟩
  have t_c7_294 := ilt c7_294
  refine s_aloadN 11 C X d16_10 rfl rfl ?_
  refine s_iloadN 12 C X d16_11 rfl ?_
  refine s_caload 13 C X d16_12 A_o53 ⟨by decide, by decide⟩ (v := (.int (xsF.getD 6 0))) (own_getX _ _) ?_
  refine s_istore 15 C X (l' := #[rv o53, iv i6, rv o285, iv i4, iv m277, iv i4, .val (.int (xsF.getD 6 0))]) d16_13 rfl ?_
  refine s_iload 17 C X d16_15 rfl ?_
  refine s_sipush 20 C X d16_17 kc_sipush_255 ?_
  refine s_icmp_le 26 23 C X d16_20 (fun c20_295 => ?_) (fun c => absurd c (own_le (own_wk hvW_m277 t_c7_294 rfl rfl)))
  refine s_aloadN 27 C X d16_26 rfl rfl ?_
  refine s_iloadN 28 C X d16_27 rfl ?_
  refine s_iload 30 C X d16_28 rfl ?_
  refine s_i2b 31 C X d16_30 ?_
  refine s_bastore 32 4 C X d16_31 A_o285 g_o285 ⟨by decide, c7_294⟩ rfl (Nat.le_of_ble_eq_true rfl) (fun T hh X W A_o285 => ?_)
  have A_o285 : Arv Z _ o285 k_o285 .byte m277 [(.int (bv (xsF.getD 2 0))), (.int (bv (xsF.getD 3 0))), (.int (bv (xsF.getD 4 0))), (.int (bv (xsF.getD 5 0))), (.int (nar .byte ((xsF.getD 6 0)).toInt8.toInt32))] (.int i0) := A_o285
  have Kp := Kp.wr W (Or.inl (by simp))
  have A_o285 : Arv Z _ o285 k_o285 .byte m277 [(.int (bv (xsF.getD 2 0))), (.int (bv (xsF.getD 3 0))), (.int (bv (xsF.getD 4 0))), (.int (bv (xsF.getD 5 0))), (.int (bv (xsF.getD 6 0)))] (.int i0) := A_o285
  refine s_iinc 35 C X (l' := #[rv o53, iv i7, rv o285, iv i4, iv m277, iv i4, .val (.int (xsF.getD 6 0))]) d16_32 kc_iconst_1 rfl rfl ?_
  refine s_iinc 38 C X (l' := #[rv o53, iv i7, rv o285, iv i5, iv m277, iv i4, .val (.int (xsF.getD 6 0))]) d16_35 kc_iconst_1 rfl rfl ?_
  refine s_iinc 41 C X (l' := #[rv o53, iv i7, rv o285, iv i5, iv m277, iv i5, .val (.int (xsF.getD 6 0))]) d16_38 kc_iconst_1 rfl rfl ?_
  refine s_goto 3 C X d16_41 ?_
  refine s_iload 5 C X d16_3 rfl ?_
  refine s_iload 7 C X d16_5 rfl ?_
  refine s_icmp_ge 44 10 C X d16_7 (fun c7_296 => ?_) (fun c => absurd c (own_n5 hvN_m277))
  refine s_iload 46 C X d16_44 rfl ?_
  refine s_ireturn C X d16_46 rfl ?_ (FG hG (by decide) (by decide))
  obtain ⟨zsF, e_zsF⟩ : ∃ z : List Int32, z = [(bv (xsF.getD 2 0)), (bv (xsF.getD 3 0)), (bv (xsF.getD 4 0)), (bv (xsF.getD 5 0)), (bv (xsF.getD 6 0))] := ⟨_, rfl⟩
  have hvZ : own_Z 2 xsF m277 zsF := by rw [e_zsF]; exact own_z25 (own_nn5 hvN_m277)
  have A_o285 : Arv Z hh o285 k_o285 .byte m277 (Y zsF) (.int i0) := by rw [e_zsF]; exact A_o285
  exact hQ _ _ ⟨zsF, rfl, hvZ, A_o285, Kp⟩
theorem rm_a53 (hw : Hw a0 Z) (k_o53 : ClassId) (o53 : Addr) (xsF : List Int32) (m277 : Int32) (h0 : Heap) (n0 : Nat) (Z0 : n0 ≤ h0.size) (A_o53 : Arv Z h0 o53 k_o53 .char i256 (Y xsF) (.int i0)) (hvN_m277 : own_N m277) (hvW_m277 : own_W 2 xsF m277) :
    Met l Z (⟨cU, "compress", "([CII)[B"⟩ : MethodName) jdk_52_method_16_code 6 (some (.array .byte)) (rM 1 1 5 18) [] #[(.ref o53), (.int i2), (.int m277)] h0 n0 (fun v h => ∃ (k_o285 : ClassId) (o285 : Addr) (zsF : List Int32), v = some (.ref o285) ∧ own_Z 2 xsF m277 zsF ∧ Keep h0 h [] ∧ Arv Z h o285 k_o285 .byte m277 (Y zsF) (.int i0) ∧ h0.size ≤ o285 ∧ n0 ≤ o285) := by
  refine Met.mkQ (tabs := tables_1) (a0 := a0) (ls0 := #[rv o53, iv i2, iv m277, un, un, un]) (plainFor_of_name pn_java_lang_StringUTF16) hw Z0 (fun m => by first | (simp [entryFrame, mkF, argsToLocals, Value.category]; done) | rfl) ?_
  intro p e s m below meth c T Q' G' hQ hG C X
  have Kp : Keep h0 h0 [] := Keep.refl _ _
  refine s_iloadN 1 C X d15_0 rfl ?_
  refine s_newarray 3 5 C X d15_1 (mW 34 rfl) (own_nn hvN_m277).1 (own_nn hvN_m277).2 (fun T hh o285 k_o285 hb_o285 X E A_o285 g_o285 => ?_)
  have ne_o53_o285 : o53 ≠ o285 := Nat.ne_of_lt (Nat.lt_of_lt_of_le A_o53.lt (Nat.le_of_eq hb_o285))
  have sz_o285 : h0.size ≤ o285 := Nat.le_trans Kp.1 (Nat.le_of_eq hb_o285)
  have A_o53 := A_o53.ext E
  have Kp := Kp.ext E
  have A_o285 : Arv Z _ o285 k_o285 .byte m277 [(.int i0), (.int i0), (.int i0), (.int i0), (.int i0)] (.int i0) := A_o285.pad (pad_rep [] _ 5)
  refine s_astoreN 4 C X (l' := #[rv o53, iv i2, iv m277, rv o285, un, un]) d15_3 rfl rfl ?_
  refine s_aloadN 5 C X d15_4 rfl rfl ?_
  refine s_iloadN 6 C X d15_5 rfl ?_
  refine s_aloadN 7 C X d15_6 rfl rfl ?_
  refine s_iconst 8 C X d15_7 kc_iconst_0 ?_
  refine s_iloadN 9 C X d15_8 rfl ?_
  refine s_callS 12 [(.ref o53), (.int i2), (.ref o285), (.int i0), (.int m277)] [] 0 C X d15_9 (mW 96 rfl) (mW 97 rfl) (mW 94 rfl) (mW 98 rfl) (rm_a52 l Z a0 hw k_o53 o53 xsF m277 o285 k_o285 _ n0 X.sz A_o53 A_o285 hvN_m277 hvW_m277 ne_o53_o285 g_o285) (lenOf pd___CI_BII_I rfl) rfl rfl rfl (fun T v hh X q => ?_)
  obtain ⟨zsF, rfl, hvZ, A_o285, Kc⟩ := q
  have Kp := Kp.trans Kc (allS (Or.inr sz_o285) all0)
  refine rc (st' := [(.int m277)]) rfl ?_
  refine s_istore 14 C X (l' := #[rv o53, iv i2, iv m277, rv o285, iv m277, un]) d15_12 rfl ?_
  refine s_iload 16 C X d15_14 rfl ?_
  refine s_iloadN 17 C X d15_16 rfl ?_
  refine s_icmp_eq 57 20 C X d15_17 (fun _ => ?_) (fun c => absurd rfl c)
  refine s_aloadN 58 C X d15_57 rfl rfl ?_
  refine s_areturn C X d15_58 rfl rfl rfl ?_ (FG hG (by decide) (by decide))
  exact hQ _ _ ⟨k_o285, o285, zsF, rfl, hvZ, Kp, A_o285, sz_o285, g_o285⟩
theorem rm_a54 (hw : Hw a0 Z) (cs : Int32) (k_o53 : ClassId) (o53 : Addr) (xsF : List Int32) (o276 : Addr) (m277 : Int32) (h0 : Heap) (n0 : Nat) (Z0 : n0 ≤ h0.size) (S_cs : Sta Z Z.heap cS cC "Z" (.int cs)) (A_o53 : Arv Z h0 o53 k_o53 .char i256 (Y xsF) (.int i0)) (E_o276 : Exa Z h0 o276 cS) (F_o276_a : Fld Z h0 o276 cS "value" "[B" .null) (F_o276_k : Fld Z h0 o276 cS "coder" "B" (.int i0)) (Od : Old Z n0 h0) (hv_cs : ¬ cs = i0) (ne_o53_o276 : o53 ≠ o276) (g_o276 : n0 ≤ o276) (hvN_m277 : own_N m277) (hvW_m277 : own_W 2 xsF m277) :
    MetH l Z EL1 [o276] (⟨cS, "<init>", sV⟩ : MethodName) jdk_42_method_149_code 6 none (rM 2 4 8 35) [] #[(.ref o276), (.ref o53), (.int i2), (.int m277), .null] h0 n0 (fun v h => ∃ (bF : Addr) (k_bF : ClassId) (zsF : List Int32), v = none ∧ own_Z 2 xsF m277 zsF ∧ Exa Z h o276 cS ∧ Fld Z h o276 cS "value" "[B" (.ref bF) ∧ Fld Z h o276 cS "coder" "B" (.int i0) ∧ Old Z n0 h ∧ Keep h0 h [o276] ∧ Arv Z h bF k_bF .byte m277 (Y zsF) (.int i0)) := by
  refine MetH.mkQ (tabs := tables_1) (a0 := a0) (ls0 := #[rv o276, rv o53, iv i2, iv m277, .val .null, un]) (plainFor_of_name pn_java_lang_String) hw Z0 (fun m => by first | (simp [entryFrame, mkF, argsToLocals, Value.category]; done) | rfl) ?_
  intro p e s m below meth c T Q' G' vm k1 hQ hG C X hS Rc hso
  have Kp : Keep h0 h0 [o276] := Keep.refl _ _
  have H_o276 : Safe Z EL1 vm h0 o276 := hso _ (by simp)
  refine s_aloadN 1 C X d14_0 rfl rfl ?_
  refine s_objInit 4 C X d14_1 (mW 90 rfl) (mW 12 rfl) (mW 13 rfl) rfl (W := 0) rfl (by decide) (fun T X => ?_)
  refine s_iloadN 5 C X d14_4 rfl ?_
  refine s_if_ne 27 8 C X d14_5 (fun c5_283 => ?_) (fun c5_283 => ?_)
  · have t_c5_283 := ine c5_283
    refine s_getstatic 30 C X (host := "") d14_27 (Or.inl (mW 91 rfl)) Via.refl (S_cs.ext Od.2) (fun T X => ?_)
    refine s_if_eq 58 33 C X d14_30 (fun c => absurd c hv_cs) (fun c30_284 => ?_)
    refine s_aloadN 34 C X d14_33 rfl rfl ?_
    refine s_iloadN 35 C X d14_34 rfl ?_
    refine s_iloadN 36 C X d14_35 rfl ?_
    refine s_callS 39 [(.ref o53), (.int i2), (.int m277)] [] 0 C X d14_36 (mW 92 rfl) (mW 93 rfl) (mW 94 rfl) (mW 95 rfl) (rm_a53 l Z a0 hw k_o53 o53 xsF m277 _ n0 X.sz A_o53 hvN_m277 hvW_m277) (lenOf pd___CII__B rfl) rfl rfl rfl (fun T v hh X q => ?_)
    obtain ⟨k_o285, o285, zsF, rfl, hvZ, Kc, A_o285, sz_o285', g_o285⟩ := q
    have ne_o276_o285 : o276 ≠ o285 := Nat.ne_of_lt (Nat.lt_of_lt_of_le E_o276.lt sz_o285')
    have H_o276 := Safe.keep Kc so0 Rc.1.1 H_o276
    have Rc := Rc.keep Kc so0
    have E_o276 := E_o276.keep Kc
    have F_o276_a := F_o276_a.keep Kc nin0
    have F_o276_k := F_o276_k.keep Kc nin0
    have Od := Od.keep Kc all0
    have Kp := Kp.trans Kc all0
    refine rc (st' := [(.ref o285)]) rfl ?_
    refine s_astore 41 C X (l' := #[rv o276, rv o53, iv i2, iv m277, .val .null, rv o285]) d14_39 rfl rfl ?_
    refine s_aloadN 42 C X d14_41 rfl rfl ?_
    refine s_aload 44 C X d14_42 rfl rfl ?_
    refine s_iloadN 45 C X d14_44 rfl ?_
    refine s_callS 48 [(.ref o285), (.int m277)] [(.ref o276)] 1 C X d14_45 (mW 99 rfl) (mW 100 rfl) (mW 94 rfl) (mW 101 rfl) (rm_a17 l Z a0 hw m277 k_o285 o285 zsF _ n0 X.sz A_o285) (lenOf pd___BI_B rfl) rfl rfl rfl (fun T v hh X q => ?_)
    obtain ⟨rfl, Kc⟩ := q
    have H_o276 := Safe.keep Kc so0 Rc.1.1 H_o276
    have Rc := Rc.keep Kc so0
    have E_o276 := E_o276.keep Kc
    have F_o276_a := F_o276_a.keep Kc nin0
    have F_o276_k := F_o276_k.keep Kc nin0
    have Od := Od.keep Kc all0
    have Kp := Kp.trans Kc all0
    have A_o285 := A_o285.keep Kc nin0
    refine rc (st' := [(.int i0), (.ref o276)]) rfl ?_
    refine s_putfieldN 51 C X d14_48 (mW 102 rfl) Via.refl F_o276_k E_o276 (Or.inr ⟨(mW 36 rfl), rfl, rfl⟩) (mW 33 rfl) (ty := .byte) (by decide) rfl rfl g_o276 (fun T hh X W => ?_)
    have Sf : Safe Z EL1 vm _ o276 := H_o276
    have H_o276 := Safe.wr W Sf Rc.1.1 H_o276
    have Rc := Rc.wr W Sf
    have E_o276 := E_o276.wr W
    have F_o276_a := oth F_o276_a W (Or.inr (hw _ (mW 35 rfl))) (Or.inr (hw _ (mW 36 rfl))) (by decide)
    have F_o276_k := F_o276_k.same W
    have Od := Od.wr W g_o276
    have Kp := Kp.wr W (Or.inl (by simp))
    have A_o285 := A_o285.other W (Ne.symm ne_o276_o285)
    refine s_aloadN 52 C X d14_51 rfl rfl ?_
    refine s_aload 54 C X d14_52 rfl rfl ?_
    refine s_putfield 57 C X (host := "") d14_54 (Or.inl (mW 103 rfl)) Via.refl F_o276_a E_o276 (Or.inr ⟨(mW 35 rfl), rfl, rfl⟩) (mW 33 rfl) (ty := (.array .byte)) (by decide) rfl rfl g_o276 (fun T hh X W => ?_)
    have Sf : Safe Z EL1 vm _ o276 := H_o276
    have Rc := Rc.wr W Sf
    have E_o276 := E_o276.wr W
    have F_o276_a := F_o276_a.same W
    have F_o276_k := oth F_o276_k W (Or.inr (hw _ (mW 36 rfl))) (Or.inr (hw _ (mW 35 rfl))) (by decide)
    have Od := Od.wr W g_o276
    have Kp := Kp.wr W (Or.inl (by simp))
    have A_o285 := A_o285.other W (Ne.symm ne_o276_o285)
    refine s_return C X d14_57 rfl ?_ (FGH hG hS Rc C (own_EL hw))
    obtain ⟨bF, e_bF⟩ : ∃ z : Addr, z = o285 := ⟨_, rfl⟩
    obtain ⟨k_bF, e_k⟩ : ∃ z : ClassId, z = k_o285 := ⟨_, rfl⟩
    rw [← e_bF] at F_o276_a
    obtain ⟨zsF, e_zsF⟩ : ∃ z : List Int32, z = zsF := ⟨_, rfl⟩
    have hvZ : own_Z 2 xsF m277 zsF := by rw [e_zsF]; exact hvZ
    have A_bF : Arv Z hh bF k_bF .byte m277 (Y zsF) (.int i0) := by rw [e_bF, e_k, e_zsF]; exact A_o285
    exact hQ _ _ ⟨bF, k_bF, zsF, rfl, hvZ, E_o276, F_o276_a, F_o276_k, Od, Kp, A_bF⟩
  have t_c5_283 := ieq c5_283
  refine s_aloadN 9 C X d14_8 rfl rfl ?_
  refine s_ldcH 11 0 C X hS Rc.2 (own_EL hw) Rc.1.1 d14_9 (mW 156 rfl) (own_wS hw) (vs := []) (z := i0) (by decide) ⟨by decide, rfl⟩ (by decide) rfl (fun T hh t301 b302 k_b302 vm k1 C X E hS Nk Rn E_t301 F_t301_k F_t301_a A_b302 nS => ?_)
  have H_o276 := Rn.safe E_o276.lt H_o276
  have Rc := Rc.call Rn Nk
  have E_o276 := E_o276.ext E
  have F_o276_a := F_o276_a.ext E
  have F_o276_k := F_o276_k.ext E
  have Od := Od.ext E
  have Kp := Kp.ext E
  have ne_o276_b302 : o276 ≠ b302 := (nS o276 H_o276).2
  refine s_getfield 14 C X (host := "") d14_11 (Or.inl (mW 103 rfl)) Via.refl F_t301_a (fun T X => ?_)
  refine s_putfield 17 C X (host := "") d14_14 (Or.inl (mW 103 rfl)) Via.refl F_o276_a E_o276 (Or.inr ⟨(mW 35 rfl), rfl, rfl⟩) (mW 33 rfl) (ty := (.array .byte)) (by decide) rfl rfl g_o276 (fun T hh X W => ?_)
  have Sf : Safe Z EL1 vm _ o276 := H_o276
  have H_o276 := Safe.wr W Sf Rc.1.1 H_o276
  have Rc := Rc.wr W Sf
  have E_o276 := E_o276.wr W
  have F_o276_a := F_o276_a.same W
  have F_o276_k := oth F_o276_k W (Or.inr (hw _ (mW 36 rfl))) (Or.inr (hw _ (mW 35 rfl))) (by decide)
  have Od := Od.wr W g_o276
  have Kp := Kp.wr W (Or.inl (by simp))
  have A_b302 := A_b302.other W (Ne.symm ne_o276_b302)
  refine s_aloadN 18 C X d14_17 rfl rfl ?_
  refine s_ldcH 20 0 C X hS Rc.2 (own_EL hw) Rc.1.1 d14_18 (mW 156 rfl) (own_wS hw) (vs := []) (z := i0) (by decide) ⟨by decide, rfl⟩ (by decide) rfl (fun T hh t303 b304 k_b304 vm k1 C X E hS Nk Rn E_t303 F_t303_k F_t303_a A_b304 nS => ?_)
  have H_o276 := Rn.safe E_o276.lt H_o276
  have Rc := Rc.call Rn Nk
  have E_o276 := E_o276.ext E
  have F_o276_a := F_o276_a.ext E
  have F_o276_k := F_o276_k.ext E
  have Od := Od.ext E
  have Kp := Kp.ext E
  have A_b302 := A_b302.ext E
  refine s_getfield 23 C X (host := "") d14_20 (Or.inl (mW 102 rfl)) Via.refl F_t303_k (fun T X => ?_)
  refine s_putfieldN 26 C X d14_23 (mW 102 rfl) Via.refl F_o276_k E_o276 (Or.inr ⟨(mW 36 rfl), rfl, rfl⟩) (mW 33 rfl) (ty := .byte) (by decide) rfl rfl g_o276 (fun T hh X W => ?_)
  have Sf : Safe Z EL1 vm _ o276 := H_o276
  have Rc := Rc.wr W Sf
  have E_o276 := E_o276.wr W
  have F_o276_a := oth F_o276_a W (Or.inr (hw _ (mW 35 rfl))) (Or.inr (hw _ (mW 36 rfl))) (by decide)
  have F_o276_k := F_o276_k.same W
  have Od := Od.wr W g_o276
  have Kp := Kp.wr W (Or.inl (by simp))
  have A_b302 := A_b302.other W (Ne.symm ne_o276_b302)
  refine s_return C X d14_26 rfl ?_ (FGH hG hS Rc C (own_EL hw))
  obtain ⟨bF, e_bF⟩ : ∃ z : Addr, z = b302 := ⟨_, rfl⟩
  obtain ⟨k_bF, e_k⟩ : ∃ z : ClassId, z = k_b302 := ⟨_, rfl⟩
  rw [← e_bF] at F_o276_a
  obtain ⟨zsF, e_zsF⟩ : ∃ z : List Int32, z = [0, 0, 0, 0, 0] := ⟨_, rfl⟩
  have hvZ : own_Z 2 xsF m277 zsF := by rw [e_zsF]; exact own_z20 (Int.le_of_eq t_c5_283)
  have A_bF : Arv Z hh bF k_bF .byte m277 (Y zsF) (.int i0) := by rw [e_bF, e_k, e_zsF, own_0 t_c5_283]; exact A_b302.pad (pad_rep [] _ 5)
  exact hQ _ _ ⟨bF, k_bF, zsF, rfl, hvZ, E_o276, F_o276_a, F_o276_k, Od, Kp, A_bF⟩
theorem rm_a55 (hw : Hw a0 Z) (cs : Int32) (fm : Value) (k_o53 : ClassId) (o53 : Addr) (xsF : List Int32) (o276 : Addr) (m277 : Int32) (h0 : Heap) (n0 : Nat) (Z0 : n0 ≤ h0.size) (Od : Old Z n0 h0) (S_cs : Sta Z Z.heap cS cC "Z" (.int cs)) (S_fm : Sta Z Z.heap cP cM cF fm) (A_o53 : Arv Z h0 o53 k_o53 .char i256 (Y xsF) (.int i0)) (E_o276 : Exa Z h0 o276 cS) (F_o276_a : Fld Z h0 o276 cS "value" "[B" .null) (F_o276_k : Fld Z h0 o276 cS "coder" "B" (.int i0)) (hv_cs : ¬ cs = i0) (hv_fm : fm.isRef = true) (ne_o53_o276 : o53 ≠ o276) (g_o276 : n0 ≤ o276) (hvN_m277 : own_N m277) (hvW_m277 : own_W 2 xsF m277) :
    MetH l Z EL1 [o276] (⟨cS, "<init>", "([CII)V"⟩ : MethodName) jdk_42_method_4_code 4 none (rM 3 4 8 52) [] #[(.ref o276), (.ref o53), (.int i2), (.int m277)] h0 n0 (fun v h => ∃ (bF : Addr) (k_bF : ClassId) (zsF : List Int32), v = none ∧ own_Z 2 xsF m277 zsF ∧ Keep h0 h [o276] ∧ Exa Z h o276 cS ∧ Fld Z h o276 cS "value" "[B" (.ref bF) ∧ Fld Z h o276 cS "coder" "B" (.int i0) ∧ Old Z n0 h ∧ Arv Z h bF k_bF .byte m277 (Y zsF) (.int i0)) := by
  refine MetH.mkQ (tabs := tables_1) (a0 := a0) (ls0 := #[rv o276, rv o53, iv i2, iv m277]) (plainFor_of_name pn_java_lang_String) hw Z0 (fun m => by first | (simp [entryFrame, mkF, argsToLocals, Value.category]; done) | rfl) ?_
  intro p e s m below meth c T Q' G' vm k1 hQ hG C X hS Rc hso
  have Kp : Keep h0 h0 [o276] := Keep.refl _ _
  have H_o276 : Safe Z EL1 vm h0 o276 := hso _ (by simp)
  refine s_aloadN 1 C X d10_0 rfl rfl ?_
  refine s_aloadN 2 C X d10_1 rfl rfl ?_
  refine s_iloadN 3 C X d10_2 rfl ?_
  refine s_iloadN 4 C X d10_3 rfl ?_
  refine s_aloadN 5 C X d10_4 rfl rfl ?_
  refine s_iloadN 6 C X d10_5 rfl ?_
  refine s_iloadN 7 C X d10_6 rfl ?_
  refine s_callS 10 [(.ref o53), (.int i2), (.int m277)] [(.int m277), (.int i2), (.ref o53), (.ref o276)] 4 C X d10_7 (mW 76 rfl) (mW 77 rfl) (mW 32 rfl) (mW 78 rfl) (rm_a51 l Z a0 hw fm k_o53 o53 xsF m277 _ n0 X.sz Od S_fm A_o53 hv_fm hvN_m277) (lenOf pd___CII_Ljava_lang_Void_ rfl) rfl rfl rfl (fun T v hh X q => ?_)
  obtain ⟨rfl, Kc, Od⟩ := q
  have H_o276 := Safe.keep Kc so0 Rc.1.1 H_o276
  have Rc := Rc.keep Kc so0
  have A_o53 := A_o53.keep Kc nin0
  have E_o276 := E_o276.keep Kc
  have F_o276_a := F_o276_a.keep Kc nin0
  have F_o276_k := F_o276_k.keep Kc nin0
  have Kp := Kp.trans Kc all0
  refine rc (st' := [.null, (.int m277), (.int i2), (.ref o53), (.ref o276)]) rfl ?_
  refine s_hcallC 13 [(.ref o53), (.int i2), (.int m277), .null] [] 0 C X hS Rc.2 (own_EL hw) Rc.1.1 d10_10 rfl (mW 87 rfl) (mW 88 rfl) (mW 32 rfl) (mW 89 rfl) (rm_a54 l Z a0 hw cs k_o53 o53 xsF o276 m277 _ n0 X.sz S_cs A_o53 E_o276 F_o276_a F_o276_k Od hv_cs ne_o53_o276 g_o276 hvN_m277 hvW_m277) (lenOf pd___CIILjava_lang_Void__V rfl) rfl rfl rfl (soS ⟨E_o276.lt, H_o276⟩ so0) (fun T v hh vm k1 C X hS Nk Rn q => ?_)
  obtain ⟨bF, k_bF, zsF, rfl, hvZ, E_o276, F_o276_a, F_o276_k, Od, Kc, A_bF⟩ := q
  have Rc := Rc.call Rn Nk
  have Kp := Kp.trans Kc (allS (Or.inl (by simp)) all0)
  refine rc (st' := []) rfl ?_
  refine s_return C X d10_13 rfl ?_ (FGH hG hS Rc C (own_EL hw))
  exact hQ _ _ ⟨bF, k_bF, zsF, rfl, hvZ, Kp, E_o276, F_o276_a, F_o276_k, Od, A_bF⟩
theorem rm_a56 (hw : Hw a0 Z) (cs : Int32) (fm : Value) (yF : Int32) (yF_5 : Int32) (yF_9 : Int32) (yF_13 : Int32) (yF_17 : Int32) (yF_21 : Int32) (yF_25 : Int32) (nv27 : Int32) (o46 : Addr) (k_o51 : ClassId) (k_o52 : ClassId) (k_o53 : ClassId) (o51 : Addr) (o52 : Addr) (o53 : Addr) (tF : Int32) (xsF : List Int32) (h0 : Heap) (n0 : Nat) (Z0 : n0 ≤ h0.size) (Od : Old Z n0 h0) (S_cs : Sta Z Z.heap cS cC "Z" (.int cs)) (S_fm : Sta Z Z.heap cP cM cF fm) (A_o52 : Arv Z h0 o52 k_o52 (.object cS) i8 [.null, .null, .null, .null, .null, .null, .null, .null] .null) (F_o46_s : Fld Z h0 o46 cE fs "[I" (.ref o51)) (F_o46_g : Fld Z h0 o46 cE fg cG (.ref o52)) (F_o46_v : Fld Z h0 o46 cE fv "[C" (.ref o53)) (A_o51 : Arv Z h0 o51 k_o51 .int i9 [(.int i0), (.int i2), (.int tF), (.int i0), (.int i0), (.int i0), (.int i0), (.int i0), (.int i0)] (.int i0)) (A_o53 : Arv Z h0 o53 k_o53 .char i256 (Y xsF) (.int i0)) (hv_cs : ¬ cs = i0) (hv_fm : fm.isRef = true) (hvB : own_B yF) (hvB_6 : own_B yF_5) (hvB_10 : own_B yF_9) (hvB_14 : own_B yF_13) (hvB_18 : own_B yF_17) (g_o52 : n0 ≤ o52) (ne_o46_o52 : o46 ≠ o52) (ne_o51_o52 : o51 ≠ o52) (ne_o52_o53 : o52 ≠ o53) (O_o52 : Ovr Z k_o52 cS) (hvC : own_C 2 [yF_21, yF_25] [yF, yF_5, yF_9, yF_13, yF_17] nv27 xsF tF) :
    MetH l Z EL1 [] (⟨cE, "value", "(I)Ljava/lang/String;"⟩ : MethodName) prog_35_method_7_code 2 (some (.object cS)) (rM 4 5 12 70) [] #[(.ref o46), (.int i1)] h0 n0 (fun v h => ∃ (bF : Addr) (k_bF : ClassId) (m277 : Int32) (o276 : Addr) (zsF : List Int32), v = some (.ref o276) ∧ m277.toInt = (col [yF, yF_5, yF_9, yF_13, yF_17] nv27.toNatClampNeg).length ∧ own_Z 2 xsF m277 zsF ∧ Arv Z h o52 k_o52 (.object cS) i8 [.null, (.ref o276), .null, .null, .null, .null, .null, .null] .null ∧ Keep h0 h [o52] ∧ Exa Z h o276 cS ∧ Fld Z h o276 cS "value" "[B" (.ref bF) ∧ Fld Z h o276 cS "coder" "B" (.int i0) ∧ Old Z n0 h ∧ Arv Z h bF k_bF .byte m277 (Y zsF) (.int i0) ∧ o52 ≠ o276 ∧ h0.size ≤ o276 ∧ n0 ≤ o276 ∧ bF ≠ o52) := by
  refine MetH.mkQ (tabs := tables_1) (a0 := a0) (ls0 := #[rv o46, iv i1]) (plainFor_of_name pn_com_example_medis_medis_engine_ElementAttributes) hw Z0 (fun m => by first | (simp [entryFrame, mkF, argsToLocals, Value.category]; done) | rfl) ?_
  intro p e s m below meth c T Q' G' vm k1 hQ hG C X hS Rc hso
  have Kp : Keep h0 h0 [o52] := Keep.refl _ _
  refine s_aloadN 1 C X d9_0 rfl rfl ?_
  refine s_getfield 4 C X (host := "") d9_1 (Or.inl (mW 27 rfl)) Via.refl F_o46_g (fun T X => ?_)
  refine s_iloadN 5 C X d9_4 rfl ?_
  refine s_aaload 6 C X d9_5 A_o52 rfl ⟨by decide, by decide⟩ (v := .null) rfl ?_
  refine s_ifnonnullN 9 C X d9_6 ?_
  refine s_aloadN 10 C X d9_9 rfl rfl ?_
  refine s_getfield 13 C X (host := "") d9_10 (Or.inl (mW 27 rfl)) Via.refl F_o46_g (fun T X => ?_)
  refine s_iloadN 14 C X d9_13 rfl ?_
  refine s_new 17 C X d9_14 (mW 14 rfl) (mW 33 rfl) (mW 32 rfl) (fun T hh o276 hb_o276 X E E_o276 D g_o276 => ?_)
  have H_o276 : Safe Z EL1 vm _ o276 := Safe.ext E Rc.1.1 (Safe.new (Nat.le_of_eq hb_o276))
  have Rc := Rc.ext E
  have ne_o52_o276 : o52 ≠ o276 := Nat.ne_of_lt (Nat.lt_of_lt_of_le A_o52.lt (Nat.le_of_eq hb_o276))
  have ne_o46_o276 : o46 ≠ o276 := Nat.ne_of_lt (Nat.lt_of_lt_of_le F_o46_s.lt (Nat.le_of_eq hb_o276))
  have ne_o53_o276 : o53 ≠ o276 := Nat.ne_of_lt (Nat.lt_of_lt_of_le A_o53.lt (Nat.le_of_eq hb_o276))
  have sz_o276 : h0.size ≤ o276 := Nat.le_trans Kp.1 (Nat.le_of_eq hb_o276)
  have Od := Od.ext E
  have A_o52 := A_o52.ext E
  have F_o46_s := F_o46_s.ext E
  have F_o46_g := F_o46_g.ext E
  have F_o46_v := F_o46_v.ext E
  have A_o51 := A_o51.ext E
  have A_o53 := A_o53.ext E
  have Kp := Kp.ext E
  have F_o276_a : Fld Z _ o276 cS "value" "[B" .null := D (Or.inr (hw _ (mW 35 rfl))) (ty := (.array .byte)) (by decide)
  have F_o276_k : Fld Z _ o276 cS "coder" "B" (.int i0) := D (Or.inr (hw _ (mW 36 rfl))) (ty := .byte) (by decide)
  refine s_dup 18 C X d9_17 rfl ?_
  refine s_aloadN 19 C X d9_18 rfl rfl ?_
  refine s_getfield 22 C X (host := "") d9_19 (Or.inl (mW 29 rfl)) Via.refl F_o46_v (fun T X => ?_)
  refine s_aloadN 23 C X d9_22 rfl rfl ?_
  refine s_getfield 26 C X (host := "") d9_23 (Or.inl (mW 25 rfl)) Via.refl F_o46_s (fun T X => ?_)
  refine s_iloadN 27 C X d9_26 rfl ?_
  refine s_iaload 28 C X d9_27 A_o51 ⟨by decide, by decide⟩ (v := (.int i2)) rfl ?_
  refine s_aloadN 29 C X d9_28 rfl rfl ?_
  refine s_getfield 32 C X (host := "") d9_29 (Or.inl (mW 25 rfl)) Via.refl F_o46_s (fun T X => ?_)
  refine s_iloadN 33 C X d9_32 rfl ?_
  refine s_iconst 34 C X d9_33 kc_iconst_1 ?_
  refine s_iadd 35 C X d9_34 ?_
  refine rc (st' := [(.int i2), (.ref o51), (.int i2), (.ref o53), (.ref o276), (.ref o276), (.int i1), (.ref o52)]) (by rw [kf_7]) ?_
  refine s_iaload 36 C X d9_35 A_o51 ⟨by decide, by decide⟩ (v := (.int tF)) rfl ?_
  refine s_aloadN 37 C X d9_36 rfl rfl ?_
  refine s_getfield 40 C X (host := "") d9_37 (Or.inl (mW 25 rfl)) Via.refl F_o46_s (fun T X => ?_)
  refine s_iloadN 41 C X d9_40 rfl ?_
  refine s_iaload 42 C X d9_41 A_o51 ⟨by decide, by decide⟩ (v := (.int i2)) rfl ?_
  refine s_isub 43 C X d9_42 ?_
  obtain ⟨m277, e_m277⟩ : ∃ zz_ : Int32, zz_ = (tF - i2) := ⟨_, rfl⟩
  refine rc (st' := [(.int m277), (.int i2), (.ref o53), (.ref o276), (.ref o276), (.int i1), (.ref o52)]) (by subst e_m277; rfl) ?_
  have qm := own_m hvC e_m277 rfl (by decide) (own_B5 hvB hvB_6 hvB_10 hvB_14 hvB_18)
  have hvN_m277 : own_N m277 := qm.1
  have hvW_m277 : own_W 2 xsF m277 := qm.2.1
  have hvL : m277.toInt = (col [yF, yF_5, yF_9, yF_13, yF_17] nv27.toNatClampNeg).length := qm.2.2
  refine s_hcallC 46 [(.ref o53), (.int i2), (.int m277)] [(.ref o276), (.int i1), (.ref o52)] 3 C X hS Rc.2 (own_EL hw) Rc.1.1 d9_43 rfl (mW 73 rfl) (mW 74 rfl) (mW 32 rfl) (mW 75 rfl) (rm_a55 l Z a0 hw cs fm k_o53 o53 xsF o276 m277 _ n0 X.sz Od S_cs S_fm A_o53 E_o276 F_o276_a F_o276_k hv_cs hv_fm ne_o53_o276 g_o276 hvN_m277 hvW_m277) (lenOf pd___CII_V rfl) rfl rfl rfl (soS ⟨E_o276.lt, H_o276⟩ so0) (fun T v hh vm k1 C X hS Nk Rn q => ?_)
  obtain ⟨bF, k_bF, zsF, rfl, hvZ, Kc, E_o276, F_o276_a, F_o276_k, Od, A_bF⟩ := q
  have Rc := Rc.call Rn Nk
  have A_o52 := A_o52.keep Kc (ninS ne_o52_o276 nin0)
  have F_o46_g := F_o46_g.keep Kc (ninS ne_o46_o276 nin0)
  have Kp := Kp.trans Kc (allS (Or.inr sz_o276) all0)
  refine rc (st' := [(.ref o276), (.int i1), (.ref o52)]) rfl ?_
  have ne_bF_o52 : bF ≠ o52 := own_ane A_bF A_o52 (by decide)
  have Sf : Safe Z EL1 vm _ o52 := (Safe.arv C.2.1.alike A_o52 (by decide))
  refine s_aastore 47 1 C X d9_46 A_o52 rfl rfl (fun _ A q => Sto.ofV A q O_o52 (Ins.self E_o276)) g_o52 ⟨by decide, by decide⟩ rfl (Nat.le_of_ble_eq_true rfl) (fun T hh X W A_o52 => ?_)
  have A_o52 : Arv Z _ o52 k_o52 (.object cS) i8 [.null, (.ref o276), .null, .null, .null, .null, .null, .null] .null := A_o52
  have Rc := Rc.wr W Sf
  have F_o46_g := F_o46_g.other W (Or.inl ne_o46_o52)
  have Kp := Kp.wr W (Or.inl (by simp))
  have E_o276 := E_o276.wr W
  have F_o276_a := F_o276_a.other W (Or.inl (Ne.symm ne_o52_o276))
  have F_o276_k := F_o276_k.other W (Or.inl (Ne.symm ne_o52_o276))
  have Od := Od.wr W g_o52
  have A_bF := A_bF.other W ne_bF_o52
  refine s_aloadN 48 C X d9_47 rfl rfl ?_
  refine s_getfield 51 C X (host := "") d9_48 (Or.inl (mW 27 rfl)) Via.refl F_o46_g (fun T X => ?_)
  refine s_iloadN 52 C X d9_51 rfl ?_
  refine s_aaload 53 C X d9_52 A_o52 rfl ⟨by decide, by decide⟩ (v := (.ref o276)) rfl ?_
  refine s_areturn C X d9_53 rfl rfl rfl ?_ (FGH hG hS Rc C (own_EL hw))
  exact hQ _ _ ⟨bF, k_bF, m277, o276, zsF, rfl, hvL, hvZ, A_o52, Kp, E_o276, F_o276_a, F_o276_k, Od, A_bF, ne_o52_o276, sz_o276, g_o276, ne_bF_o52⟩
theorem rm_a57 (hw : Hw a0 Z) (fm : Value) (h0 : Heap) (n0 : Nat) (Z0 : n0 ≤ h0.size) (hv_fm : fm.isRef = true) :
    Met l Z (⟨cP, "checkFromIndexSize", sI⟩ : MethodName) jdk_41_method_13_code 4 (some .int) (rM 0 0 0 0) [] #[(.int i0), (.int i2), (.int i256), fm] h0 n0 (fun v h => v = some (.int i0) ∧ Keep h0 h []) := by
  refine Met.mkQ (tabs := tables_1) (a0 := a0) (ls0 := #[iv i0, iv i2, iv i256, .val fm]) (plainFor_of_name pn_jdk_internal_util_Preconditions) hw Z0 (fun m => by first | (simp [entryFrame, mkF, argsToLocals, Value.category]; done) | rfl | (cases fm <;> first | (simp [entryFrame, mkF, argsToLocals, Value.category]; done) | (exact absurd hv_fm (by simp [Value.isRef])))) ?_
  intro p e s m below meth c T Q' G' hQ hG C X
  have Kp : Keep h0 h0 [] := Keep.refl _ _
  refine s_iloadN 1 C X d13_0 rfl ?_
  refine s_iloadN 2 C X d13_1 rfl ?_
  refine s_ior 3 C X d13_2 ?_
  refine rc (st' := [(.int i256)]) (by rw [kf_2]) ?_
  refine s_iloadN 4 C X d13_3 rfl ?_
  refine s_ior 5 C X d13_4 ?_
  refine rc (st' := [(.int i258)]) (by rw [kf_11]) ?_
  refine s_if_lt 15 8 C X d13_5 (fun c => absurd c (by decide)) (fun _ => ?_)
  refine s_iloadN 9 C X d13_8 rfl ?_
  refine s_iloadN 10 C X d13_9 rfl ?_
  refine s_iloadN 11 C X d13_10 rfl ?_
  refine s_isub 12 C X d13_11 ?_
  refine rc (st' := [(.int i256), (.int i2)]) (by rw [kf_3]) ?_
  refine s_icmp_le 23 15 C X d13_12 (fun _ => ?_) (fun c => absurd c (by decide))
  refine s_iloadN 24 C X d13_23 rfl ?_
  refine s_ireturn C X d13_24 rfl ?_ (FG hG (by decide) (by decide))
  exact hQ _ _ ⟨rfl, Kp⟩
theorem rm_a58 (hw : Hw a0 Z) (fm : Value) (h0 : Heap) (n0 : Nat) (Z0 : n0 ≤ h0.size) (S_fm : Sta Z Z.heap cP cM cF fm) (Od : Old Z n0 h0) (hv_fm : fm.isRef = true) :
    Met l Z (⟨cS, "checkBoundsOffCount", "(III)I"⟩ : MethodName) jdk_42_method_157_code 3 (some .int) (rM 1 0 0 15) [] #[(.int i0), (.int i2), (.int i256)] h0 n0 (fun v h => v = some (.int i0) ∧ Old Z n0 h ∧ Keep h0 h []) := by
  refine Met.mkQ (tabs := tables_1) (a0 := a0) (ls0 := #[iv i0, iv i2, iv i256]) (plainFor_of_name pn_java_lang_String) hw Z0 (fun m => by first | (simp [entryFrame, mkF, argsToLocals, Value.category]; done) | rfl) ?_
  intro p e s m below meth c T Q' G' hQ hG C X
  have Kp : Keep h0 h0 [] := Keep.refl _ _
  refine s_iloadN 1 C X d12_0 rfl ?_
  refine s_iloadN 2 C X d12_1 rfl ?_
  refine s_iloadN 3 C X d12_2 rfl ?_
  refine s_getstatic 6 C X (host := "") d12_3 (Or.inl (mW 82 rfl)) Via.refl (S_fm.ext Od.2) (fun T X => ?_)
  refine s_callS 9 [(.int i0), (.int i2), (.int i256), fm] [] 0 C X d12_6 (mW 84 rfl) (mW 85 rfl) (mW 83 rfl) (mW 86 rfl) (rm_a57 l Z a0 hw fm _ n0 X.sz hv_fm) (lenOf pd__IIILjava_util_function_BiFunction__I rfl) rfl rfl rfl (fun T v hh X q => ?_)
  obtain ⟨rfl, Kc⟩ := q
  have Od := Od.keep Kc all0
  have Kp := Kp.trans Kc all0
  refine rc (st' := [(.int i0)]) rfl ?_
  refine s_ireturn C X d12_9 rfl ?_ (FG hG (by decide) (by decide))
  exact hQ _ _ ⟨rfl, Od, Kp⟩
theorem rm_a59 (hw : Hw a0 Z) (fm : Value) (k_o53 : ClassId) (o53 : Addr) (xsF : List Int32) (h0 : Heap) (n0 : Nat) (Z0 : n0 ≤ h0.size) (S_fm : Sta Z Z.heap cP cM cF fm) (A_o53 : Arv Z h0 o53 k_o53 .char i256 (Y xsF) (.int i0)) (Od : Old Z n0 h0) (hv_fm : fm.isRef = true) :
    Met l Z (⟨cS, "rangeCheck", "([CII)Ljava/lang/Void;"⟩ : MethodName) jdk_42_method_5_code 3 (some (.object "java/lang/Void")) (rM 2 0 0 29) [] #[(.ref o53), (.int i0), (.int i2)] h0 n0 (fun v h => v = some .null ∧ Keep h0 h [] ∧ Old Z n0 h) := by
  refine Met.mkQ (tabs := tables_1) (a0 := a0) (ls0 := #[rv o53, iv i0, iv i2]) (plainFor_of_name pn_java_lang_String) hw Z0 (fun m => by first | (simp [entryFrame, mkF, argsToLocals, Value.category]; done) | rfl) ?_
  intro p e s m below meth c T Q' G' hQ hG C X
  have Kp : Keep h0 h0 [] := Keep.refl _ _
  refine s_iloadN 1 C X d11_0 rfl ?_
  refine s_iloadN 2 C X d11_1 rfl ?_
  refine s_aloadN 3 C X d11_2 rfl rfl ?_
  refine s_arraylength 4 C X d11_3 A_o53 ?_
  refine s_callS 7 [(.int i0), (.int i2), (.int i256)] [] 0 C X d11_4 (mW 79 rfl) (mW 80 rfl) (mW 32 rfl) (mW 81 rfl) (rm_a58 l Z a0 hw fm _ n0 X.sz S_fm Od hv_fm) (lenOf pd__III_I rfl) rfl rfl rfl (fun T v hh X q => ?_)
  obtain ⟨rfl, Od, Kc⟩ := q
  have Kp := Kp.trans Kc all0
  refine rc (st' := [(.int i0)]) rfl ?_
  refine s_pop 8 C X d11_7 rfl ?_
  refine s_aconstNull 9 C X d11_8 ?_
  refine s_areturn C X d11_9 rfl rfl rfl ?_ (FG hG (by decide) (by decide))
  exact hQ _ _ ⟨rfl, Kp, Od⟩
theorem rm_a60 (hw : Hw a0 Z) (yF_21 : Int32) (yF_25 : Int32) (k_o53 : ClassId) (o53 : Addr) (xsF : List Int32) (o429 : Addr) (k_o429 : ClassId) (h0 : Heap) (n0 : Nat) (Z0 : n0 ≤ h0.size) (A_o53 : Arv Z h0 o53 k_o53 .char i256 (Y xsF) (.int i0)) (A_o429 : Arv Z h0 o429 k_o429 .byte i2 [(.int i0), (.int i0)] (.int i0)) (hvB_22 : own_B yF_21) (hvB_26 : own_B yF_25) (hvl0 : (Y xsF).getD (i0).toNatClampNeg (.int 0) = .int yF_21) (hvl1 : (Y xsF).getD (i1).toNatClampNeg (.int 0) = .int yF_25) (ne_o53_o429 : o53 ≠ o429) (g_o429 : n0 ≤ o429) :
    Met l Z (⟨cU, "compress", "([CI[BII)I"⟩ : MethodName) jdk_52_method_21_code 7 (some .int) (rM 0 0 0 0) [] #[(.ref o53), (.int i0), (.ref o429), (.int i0), (.int i2)] h0 n0 (fun v h => v = some (.int i2) ∧ Arv Z h o429 k_o429 .byte i2 [(.int (bv yF_21)), (.int (bv yF_25))] (.int i0) ∧ Keep h0 h [o429]) := by
  refine Met.mkQ (tabs := tables_1) (a0 := a0) (ls0 := #[rv o53, iv i0, rv o429, iv i0, iv i2, un, un]) (plainFor_of_name pn_java_lang_StringUTF16) hw Z0 (fun m => by first | (simp [entryFrame, mkF, argsToLocals, Value.category]; done) | rfl) ?_
  intro p e s m below meth c T Q' G' hQ hG C X
  have Kp : Keep h0 h0 [o429] := Keep.refl _ _
  refine s_iconst 1 C X d16_0 kc_iconst_0 ?_
  refine s_istore 3 C X (l' := #[rv o53, iv i0, rv o429, iv i0, iv i2, iv i0, un]) d16_1 rfl ?_
  refine s_iload 5 C X d16_3 rfl ?_
  refine s_iload 7 C X d16_5 rfl ?_
  refine s_icmp_ge 44 10 C X d16_7 (fun c => absurd (by decide : i0 < i2) c) (fun _ => ?_)
  refine s_aloadN 11 C X d16_10 rfl rfl ?_
  refine s_iloadN 12 C X d16_11 rfl ?_
  refine s_caload 13 C X d16_12 A_o53 ⟨by decide, by decide⟩ (v := (.int yF_21)) hvl0 ?_
  refine s_istore 15 C X (l' := #[rv o53, iv i0, rv o429, iv i0, iv i2, iv i0, iv yF_21]) d16_13 rfl ?_
  refine s_iload 17 C X d16_15 rfl ?_
  refine s_sipush 20 C X d16_17 kc_sipush_255 ?_
  refine s_icmp_le 26 23 C X d16_20 (fun c20_431 => ?_) (fun c => absurd c (own_le hvB_22))
  refine s_aloadN 27 C X d16_26 rfl rfl ?_
  refine s_iloadN 28 C X d16_27 rfl ?_
  refine s_iload 30 C X d16_28 rfl ?_
  refine s_i2b 31 C X d16_30 ?_
  refine s_bastore 32 0 C X d16_31 A_o429 g_o429 ⟨by decide, by decide⟩ rfl (Nat.le_of_ble_eq_true rfl) (fun T hh X W A_o429 => ?_)
  have A_o429 : Arv Z _ o429 k_o429 .byte i2 [(.int (nar .byte (yF_21).toInt8.toInt32)), (.int i0)] (.int i0) := A_o429
  have A_o53 := A_o53.other W ne_o53_o429
  have Kp := Kp.wr W (Or.inl (by simp))
  have A_o429 : Arv Z _ o429 k_o429 .byte i2 [(.int (bv yF_21)), (.int i0)] (.int i0) := A_o429
  refine s_iinc 35 C X (l' := #[rv o53, iv i1, rv o429, iv i0, iv i2, iv i0, iv yF_21]) d16_32 kc_iconst_1 rfl rfl ?_
  refine s_iinc 38 C X (l' := #[rv o53, iv i1, rv o429, iv i1, iv i2, iv i0, iv yF_21]) d16_35 kc_iconst_1 rfl rfl ?_
  refine s_iinc 41 C X (l' := #[rv o53, iv i1, rv o429, iv i1, iv i2, iv i1, iv yF_21]) d16_38 kc_iconst_1 rfl rfl ?_
  refine s_goto 3 C X d16_41 ?_
  refine s_iload 5 C X d16_3 rfl ?_
  refine s_iload 7 C X d16_5 rfl ?_
  refine s_icmp_ge 44 10 C X d16_7 (fun c => absurd (by decide : i1 < i2) c) (fun _ => ?_)
  refine s_aloadN 11 C X d16_10 rfl rfl ?_
  refine s_iloadN 12 C X d16_11 rfl ?_
  refine s_caload 13 C X d16_12 A_o53 ⟨by decide, by decide⟩ (v := (.int yF_25)) hvl1 ?_
  refine s_istore 15 C X (l' := #[rv o53, iv i1, rv o429, iv i1, iv i2, iv i1, iv yF_25]) d16_13 rfl ?_
  refine s_iload 17 C X d16_15 rfl ?_
  refine s_sipush 20 C X d16_17 kc_sipush_255 ?_
  refine s_icmp_le 26 23 C X d16_20 (fun c20_433 => ?_) (fun c => absurd c (own_le hvB_26))
  refine s_aloadN 27 C X d16_26 rfl rfl ?_
  refine s_iloadN 28 C X d16_27 rfl ?_
  refine s_iload 30 C X d16_28 rfl ?_
  refine s_i2b 31 C X d16_30 ?_
  refine s_bastore 32 1 C X d16_31 A_o429 g_o429 ⟨by decide, by decide⟩ rfl (Nat.le_of_ble_eq_true rfl) (fun T hh X W A_o429 => ?_)
  have A_o429 : Arv Z _ o429 k_o429 .byte i2 [(.int (bv yF_21)), (.int (nar .byte (yF_25).toInt8.toInt32))] (.int i0) := A_o429
  have Kp := Kp.wr W (Or.inl (by simp))
  have A_o429 : Arv Z _ o429 k_o429 .byte i2 [(.int (bv yF_21)), (.int (bv yF_25))] (.int i0) := A_o429
  refine s_iinc 35 C X (l' := #[rv o53, iv i2, rv o429, iv i1, iv i2, iv i1, iv yF_25]) d16_32 kc_iconst_1 rfl rfl ?_
  refine s_iinc 38 C X (l' := #[rv o53, iv i2, rv o429, iv i2, iv i2, iv i1, iv yF_25]) d16_35 kc_iconst_1 rfl rfl ?_
  refine s_iinc 41 C X (l' := #[rv o53, iv i2, rv o429, iv i2, iv i2, iv i2, iv yF_25]) d16_38 kc_iconst_1 rfl rfl ?_
  refine s_goto 3 C X d16_41 ?_
  refine s_iload 5 C X d16_3 rfl ?_
  refine s_iload 7 C X d16_5 rfl ?_
  refine s_icmp_ge 44 10 C X d16_7 (fun _ => ?_) (fun c => absurd c (by decide))
  refine s_iload 46 C X d16_44 rfl ?_
  refine s_ireturn C X d16_46 rfl ?_ (FG hG (by decide) (by decide))
  exact hQ _ _ ⟨rfl, A_o429, Kp⟩
theorem rm_a61 (hw : Hw a0 Z) (yF_21 : Int32) (yF_25 : Int32) (k_o53 : ClassId) (o53 : Addr) (xsF : List Int32) (h0 : Heap) (n0 : Nat) (Z0 : n0 ≤ h0.size) (A_o53 : Arv Z h0 o53 k_o53 .char i256 (Y xsF) (.int i0)) (hvB_22 : own_B yF_21) (hvB_26 : own_B yF_25) (hvl0 : (Y xsF).getD (i0).toNatClampNeg (.int 0) = .int yF_21) (hvl1 : (Y xsF).getD (i1).toNatClampNeg (.int 0) = .int yF_25) :
    Met l Z (⟨cU, "compress", "([CII)[B"⟩ : MethodName) jdk_52_method_16_code 6 (some (.array .byte)) (rM 1 1 2 18) [] #[(.ref o53), (.int i0), (.int i2)] h0 n0 (fun v h => ∃ (k_o429 : ClassId) (o429 : Addr), v = some (.ref o429) ∧ Keep h0 h [] ∧ Arv Z h o429 k_o429 .byte i2 [(.int (bv yF_21)), (.int (bv yF_25))] (.int i0) ∧ h0.size ≤ o429 ∧ n0 ≤ o429) := by
  refine Met.mkQ (tabs := tables_1) (a0 := a0) (ls0 := #[rv o53, iv i0, iv i2, un, un, un]) (plainFor_of_name pn_java_lang_StringUTF16) hw Z0 (fun m => by first | (simp [entryFrame, mkF, argsToLocals, Value.category]; done) | rfl) ?_
  intro p e s m below meth c T Q' G' hQ hG C X
  have Kp : Keep h0 h0 [] := Keep.refl _ _
  refine s_iloadN 1 C X d15_0 rfl ?_
  refine s_newarray 3 2 C X d15_1 (mW 34 rfl) (by decide) (by decide) (fun T hh o429 k_o429 hb_o429 X E A_o429 g_o429 => ?_)
  have ne_o53_o429 : o53 ≠ o429 := Nat.ne_of_lt (Nat.lt_of_lt_of_le A_o53.lt (Nat.le_of_eq hb_o429))
  have sz_o429 : h0.size ≤ o429 := Nat.le_trans Kp.1 (Nat.le_of_eq hb_o429)
  have A_o53 := A_o53.ext E
  have Kp := Kp.ext E
  have A_o429 : Arv Z _ o429 k_o429 .byte i2 [(.int i0), (.int i0)] (.int i0) := A_o429.pad (pad_rep [] _ 2)
  refine s_astoreN 4 C X (l' := #[rv o53, iv i0, iv i2, rv o429, un, un]) d15_3 rfl rfl ?_
  refine s_aloadN 5 C X d15_4 rfl rfl ?_
  refine s_iloadN 6 C X d15_5 rfl ?_
  refine s_aloadN 7 C X d15_6 rfl rfl ?_
  refine s_iconst 8 C X d15_7 kc_iconst_0 ?_
  refine s_iloadN 9 C X d15_8 rfl ?_
  refine s_callS 12 [(.ref o53), (.int i0), (.ref o429), (.int i0), (.int i2)] [] 0 C X d15_9 (mW 96 rfl) (mW 97 rfl) (mW 94 rfl) (mW 98 rfl) (rm_a60 l Z a0 hw yF_21 yF_25 k_o53 o53 xsF o429 k_o429 _ n0 X.sz A_o53 A_o429 hvB_22 hvB_26 hvl0 hvl1 ne_o53_o429 g_o429) (lenOf pd___CI_BII_I rfl) rfl rfl rfl (fun T v hh X q => ?_)
  obtain ⟨rfl, A_o429, Kc⟩ := q
  have Kp := Kp.trans Kc (allS (Or.inr sz_o429) all0)
  refine rc (st' := [(.int i2)]) rfl ?_
  refine s_istore 14 C X (l' := #[rv o53, iv i0, iv i2, rv o429, iv i2, un]) d15_12 rfl ?_
  refine s_iload 16 C X d15_14 rfl ?_
  refine s_iloadN 17 C X d15_16 rfl ?_
  refine s_icmp_eq 57 20 C X d15_17 (fun _ => ?_) (fun c => absurd (by decide : i2 = i2) c)
  refine s_aloadN 58 C X d15_57 rfl rfl ?_
  refine s_areturn C X d15_58 rfl rfl rfl ?_ (FG hG (by decide) (by decide))
  exact hQ _ _ ⟨k_o429, o429, rfl, Kp, A_o429, sz_o429, g_o429⟩
theorem rm_a62 (hw : Hw a0 Z) (yF_21 : Int32) (yF_25 : Int32) (k_o429 : ClassId) (o429 : Addr) (h0 : Heap) (n0 : Nat) (Z0 : n0 ≤ h0.size) (A_o429 : Arv Z h0 o429 k_o429 .byte i2 [(.int (bv yF_21)), (.int (bv yF_25))] (.int i0)) :
    Met l Z (⟨cU, "coderFromArrayLen", "([BI)B"⟩ : MethodName) jdk_52_method_15_code 2 (some .byte) (rM 0 0 0 0) [] #[(.ref o429), (.int i2)] h0 n0 (fun v h => v = some (.int i0) ∧ Keep h0 h []) := by
  refine Met.mkQ (tabs := tables_1) (a0 := a0) (ls0 := #[rv o429, iv i2]) (plainFor_of_name pn_java_lang_StringUTF16) hw Z0 (fun m => by first | (simp [entryFrame, mkF, argsToLocals, Value.category]; done) | rfl) ?_
  intro p e s m below meth c T Q' G' hQ hG C X
  have Kp : Keep h0 h0 [] := Keep.refl _ _
  refine s_iloadN 1 C X d17_0 rfl ?_
  refine s_aloadN 2 C X d17_1 rfl rfl ?_
  refine s_arraylength 3 C X d17_2 A_o429 ?_
  refine s_isub 4 C X d17_3 ?_
  refine rc (st' := [(.int i0)]) (by rw [kf_14]) ?_
  refine s_bipush 6 C X d17_4 kc_bipush_31 ?_
  refine s_iushr 7 C X d17_6 ?_
  refine rc (st' := [(.int i0)]) (by rw [kf_4]) ?_
  refine s_i2b 8 C X d17_7 ?_
  refine rc (st' := [(.int i0)]) (by rw [kf_5]) ?_
  refine s_nreturn C X d17_8 rfl (by simp) rfl ?_ (FG hG (by decide) (by decide))
  exact hQ _ _ ⟨rfl, Kp⟩
theorem rm_a63 (hw : Hw a0 Z) (cs : Int32) (yF_21 : Int32) (yF_25 : Int32) (k_o53 : ClassId) (o53 : Addr) (xsF : List Int32) (o421 : Addr) (h0 : Heap) (n0 : Nat) (Z0 : n0 ≤ h0.size) (S_cs : Sta Z Z.heap cS cC "Z" (.int cs)) (A_o53 : Arv Z h0 o53 k_o53 .char i256 (Y xsF) (.int i0)) (E_o421 : Exa Z h0 o421 cS) (F_o421_a : Fld Z h0 o421 cS "value" "[B" .null) (F_o421_k : Fld Z h0 o421 cS "coder" "B" (.int i0)) (Od : Old Z n0 h0) (hv_cs : ¬ cs = i0) (hvB_22 : own_B yF_21) (hvB_26 : own_B yF_25) (hvl0 : (Y xsF).getD (i0).toNatClampNeg (.int 0) = .int yF_21) (hvl1 : (Y xsF).getD (i1).toNatClampNeg (.int 0) = .int yF_25) (ne_o53_o421 : o53 ≠ o421) (g_o421 : n0 ≤ o421) :
    MetH l Z EL1 [o421] (⟨cS, "<init>", sV⟩ : MethodName) jdk_42_method_149_code 6 none (rM 2 1 2 35) [] #[(.ref o421), (.ref o53), (.int i0), (.int i2), .null] h0 n0 (fun v h => ∃ (k_o429 : ClassId) (o429 : Addr), v = none ∧ Exa Z h o421 cS ∧ Fld Z h o421 cS "value" "[B" (.ref o429) ∧ Fld Z h o421 cS "coder" "B" (.int i0) ∧ Old Z n0 h ∧ Keep h0 h [o421] ∧ Arv Z h o429 k_o429 .byte i2 [(.int (bv yF_21)), (.int (bv yF_25))] (.int i0) ∧ o421 ≠ o429 ∧ h0.size ≤ o429 ∧ n0 ≤ o429) := by
  refine MetH.mkQ (tabs := tables_1) (a0 := a0) (ls0 := #[rv o421, rv o53, iv i0, iv i2, .val .null, un]) (plainFor_of_name pn_java_lang_String) hw Z0 (fun m => by first | (simp [entryFrame, mkF, argsToLocals, Value.category]; done) | rfl) ?_
  intro p e s m below meth c T Q' G' vm k1 hQ hG C X hS Rc hso
  have Kp : Keep h0 h0 [o421] := Keep.refl _ _
  have H_o421 : Safe Z EL1 vm h0 o421 := hso _ (by simp)
  refine s_aloadN 1 C X d14_0 rfl rfl ?_
  refine s_objInit 4 C X d14_1 (mW 90 rfl) (mW 12 rfl) (mW 13 rfl) rfl (W := 0) rfl (by decide) (fun T X => ?_)
  refine s_iloadN 5 C X d14_4 rfl ?_
  refine s_if_ne 27 8 C X d14_5 (fun _ => ?_) (fun c => absurd c (by decide))
  refine s_getstatic 30 C X (host := "") d14_27 (Or.inl (mW 91 rfl)) Via.refl (S_cs.ext Od.2) (fun T X => ?_)
  refine s_if_eq 58 33 C X d14_30 (fun c => absurd c hv_cs) (fun c30_428 => ?_)
  refine s_aloadN 34 C X d14_33 rfl rfl ?_
  refine s_iloadN 35 C X d14_34 rfl ?_
  refine s_iloadN 36 C X d14_35 rfl ?_
  refine s_callS 39 [(.ref o53), (.int i0), (.int i2)] [] 0 C X d14_36 (mW 92 rfl) (mW 93 rfl) (mW 94 rfl) (mW 95 rfl) (rm_a61 l Z a0 hw yF_21 yF_25 k_o53 o53 xsF _ n0 X.sz A_o53 hvB_22 hvB_26 hvl0 hvl1) (lenOf pd___CII__B rfl) rfl rfl rfl (fun T v hh X q => ?_)
  obtain ⟨k_o429, o429, rfl, Kc, A_o429, sz_o429', g_o429⟩ := q
  have ne_o421_o429 : o421 ≠ o429 := Nat.ne_of_lt (Nat.lt_of_lt_of_le E_o421.lt sz_o429')
  have sz_o429 : h0.size ≤ o429 := Nat.le_trans Kp.1 sz_o429'
  have H_o421 := Safe.keep Kc so0 Rc.1.1 H_o421
  have Rc := Rc.keep Kc so0
  have E_o421 := E_o421.keep Kc
  have F_o421_a := F_o421_a.keep Kc nin0
  have F_o421_k := F_o421_k.keep Kc nin0
  have Od := Od.keep Kc all0
  have Kp := Kp.trans Kc all0
  refine rc (st' := [(.ref o429)]) rfl ?_
  refine s_astore 41 C X (l' := #[rv o421, rv o53, iv i0, iv i2, .val .null, rv o429]) d14_39 rfl rfl ?_
  refine s_aloadN 42 C X d14_41 rfl rfl ?_
  refine s_aload 44 C X d14_42 rfl rfl ?_
  refine s_iloadN 45 C X d14_44 rfl ?_
  refine s_callS 48 [(.ref o429), (.int i2)] [(.ref o421)] 1 C X d14_45 (mW 99 rfl) (mW 100 rfl) (mW 94 rfl) (mW 101 rfl) (rm_a62 l Z a0 hw yF_21 yF_25 k_o429 o429 _ n0 X.sz A_o429) (lenOf pd___BI_B rfl) rfl rfl rfl (fun T v hh X q => ?_)
  obtain ⟨rfl, Kc⟩ := q
  have H_o421 := Safe.keep Kc so0 Rc.1.1 H_o421
  have Rc := Rc.keep Kc so0
  have E_o421 := E_o421.keep Kc
  have F_o421_a := F_o421_a.keep Kc nin0
  have F_o421_k := F_o421_k.keep Kc nin0
  have Od := Od.keep Kc all0
  have Kp := Kp.trans Kc all0
  have A_o429 := A_o429.keep Kc nin0
  refine rc (st' := [(.int i0), (.ref o421)]) rfl ?_
  refine s_putfieldN 51 C X d14_48 (mW 102 rfl) Via.refl F_o421_k E_o421 (Or.inr ⟨(mW 36 rfl), rfl, rfl⟩) (mW 33 rfl) (ty := .byte) (by decide) rfl rfl g_o421 (fun T hh X W => ?_)
  have Sf : Safe Z EL1 vm _ o421 := H_o421
  have H_o421 := Safe.wr W Sf Rc.1.1 H_o421
  have Rc := Rc.wr W Sf
  have E_o421 := E_o421.wr W
  have F_o421_a := oth F_o421_a W (Or.inr (hw _ (mW 35 rfl))) (Or.inr (hw _ (mW 36 rfl))) (by decide)
  have F_o421_k := F_o421_k.same W
  have Od := Od.wr W g_o421
  have Kp := Kp.wr W (Or.inl (by simp))
  have A_o429 := A_o429.other W (Ne.symm ne_o421_o429)
  refine s_aloadN 52 C X d14_51 rfl rfl ?_
  refine s_aload 54 C X d14_52 rfl rfl ?_
  refine s_putfield 57 C X (host := "") d14_54 (Or.inl (mW 103 rfl)) Via.refl F_o421_a E_o421 (Or.inr ⟨(mW 35 rfl), rfl, rfl⟩) (mW 33 rfl) (ty := (.array .byte)) (by decide) rfl rfl g_o421 (fun T hh X W => ?_)
  have Sf : Safe Z EL1 vm _ o421 := H_o421
  have Rc := Rc.wr W Sf
  have E_o421 := E_o421.wr W
  have F_o421_a := F_o421_a.same W
  have F_o421_k := oth F_o421_k W (Or.inr (hw _ (mW 36 rfl))) (Or.inr (hw _ (mW 35 rfl))) (by decide)
  have Od := Od.wr W g_o421
  have Kp := Kp.wr W (Or.inl (by simp))
  have A_o429 := A_o429.other W (Ne.symm ne_o421_o429)
  refine s_return C X d14_57 rfl ?_ (FGH hG hS Rc C (own_EL hw))
  exact hQ _ _ ⟨k_o429, o429, rfl, E_o421, F_o421_a, F_o421_k, Od, Kp, A_o429, ne_o421_o429, sz_o429, g_o429⟩
theorem rm_a64 (hw : Hw a0 Z) (cs : Int32) (fm : Value) (yF_21 : Int32) (yF_25 : Int32) (k_o53 : ClassId) (o53 : Addr) (xsF : List Int32) (o421 : Addr) (h0 : Heap) (n0 : Nat) (Z0 : n0 ≤ h0.size) (S_cs : Sta Z Z.heap cS cC "Z" (.int cs)) (S_fm : Sta Z Z.heap cP cM cF fm) (A_o53 : Arv Z h0 o53 k_o53 .char i256 (Y xsF) (.int i0)) (Od : Old Z n0 h0) (E_o421 : Exa Z h0 o421 cS) (F_o421_a : Fld Z h0 o421 cS "value" "[B" .null) (F_o421_k : Fld Z h0 o421 cS "coder" "B" (.int i0)) (hv_cs : ¬ cs = i0) (hv_fm : fm.isRef = true) (hvB_22 : own_B yF_21) (hvB_26 : own_B yF_25) (hvl0 : (Y xsF).getD (i0).toNatClampNeg (.int 0) = .int yF_21) (hvl1 : (Y xsF).getD (i1).toNatClampNeg (.int 0) = .int yF_25) (ne_o53_o421 : o53 ≠ o421) (g_o421 : n0 ≤ o421) :
    MetH l Z EL1 [o421] (⟨cS, "<init>", "([CII)V"⟩ : MethodName) jdk_42_method_4_code 4 none (rM 3 1 2 52) [] #[(.ref o421), (.ref o53), (.int i0), (.int i2)] h0 n0 (fun v h => ∃ (k_o429 : ClassId) (o429 : Addr), v = none ∧ Keep h0 h [o421] ∧ Exa Z h o421 cS ∧ Fld Z h o421 cS "value" "[B" (.ref o429) ∧ Fld Z h o421 cS "coder" "B" (.int i0) ∧ Old Z n0 h ∧ Arv Z h o429 k_o429 .byte i2 [(.int (bv yF_21)), (.int (bv yF_25))] (.int i0) ∧ h0.size ≤ o429 ∧ n0 ≤ o429 ∧ o421 ≠ o429) := by
  refine MetH.mkQ (tabs := tables_1) (a0 := a0) (ls0 := #[rv o421, rv o53, iv i0, iv i2]) (plainFor_of_name pn_java_lang_String) hw Z0 (fun m => by first | (simp [entryFrame, mkF, argsToLocals, Value.category]; done) | rfl) ?_
  intro p e s m below meth c T Q' G' vm k1 hQ hG C X hS Rc hso
  have Kp : Keep h0 h0 [o421] := Keep.refl _ _
  have H_o421 : Safe Z EL1 vm h0 o421 := hso _ (by simp)
  refine s_aloadN 1 C X d10_0 rfl rfl ?_
  refine s_aloadN 2 C X d10_1 rfl rfl ?_
  refine s_iloadN 3 C X d10_2 rfl ?_
  refine s_iloadN 4 C X d10_3 rfl ?_
  refine s_aloadN 5 C X d10_4 rfl rfl ?_
  refine s_iloadN 6 C X d10_5 rfl ?_
  refine s_iloadN 7 C X d10_6 rfl ?_
  refine s_callS 10 [(.ref o53), (.int i0), (.int i2)] [(.int i2), (.int i0), (.ref o53), (.ref o421)] 4 C X d10_7 (mW 76 rfl) (mW 77 rfl) (mW 32 rfl) (mW 78 rfl) (rm_a59 l Z a0 hw fm k_o53 o53 xsF _ n0 X.sz S_fm A_o53 Od hv_fm) (lenOf pd___CII_Ljava_lang_Void_ rfl) rfl rfl rfl (fun T v hh X q => ?_)
  obtain ⟨rfl, Kc, Od⟩ := q
  have H_o421 := Safe.keep Kc so0 Rc.1.1 H_o421
  have Rc := Rc.keep Kc so0
  have A_o53 := A_o53.keep Kc nin0
  have E_o421 := E_o421.keep Kc
  have F_o421_a := F_o421_a.keep Kc nin0
  have F_o421_k := F_o421_k.keep Kc nin0
  have Kp := Kp.trans Kc all0
  refine rc (st' := [.null, (.int i2), (.int i0), (.ref o53), (.ref o421)]) rfl ?_
  refine s_hcallC 13 [(.ref o53), (.int i0), (.int i2), .null] [] 0 C X hS Rc.2 (own_EL hw) Rc.1.1 d10_10 rfl (mW 87 rfl) (mW 88 rfl) (mW 32 rfl) (mW 89 rfl) (rm_a63 l Z a0 hw cs yF_21 yF_25 k_o53 o53 xsF o421 _ n0 X.sz S_cs A_o53 E_o421 F_o421_a F_o421_k Od hv_cs hvB_22 hvB_26 hvl0 hvl1 ne_o53_o421 g_o421) (lenOf pd___CIILjava_lang_Void__V rfl) rfl rfl rfl (soS ⟨E_o421.lt, H_o421⟩ so0) (fun T v hh vm k1 C X hS Nk Rn q => ?_)
  obtain ⟨k_o429, o429, rfl, E_o421, F_o421_a, F_o421_k, Od, Kc, A_o429, ne_o421_o429, sz_o429', g_o429⟩ := q
  have sz_o429 : h0.size ≤ o429 := Nat.le_trans Kp.1 sz_o429'
  have Rc := Rc.call Rn Nk
  have Kp := Kp.trans Kc (allS (Or.inl (by simp)) all0)
  refine rc (st' := []) rfl ?_
  refine s_return C X d10_13 rfl ?_ (FGH hG hS Rc C (own_EL hw))
  exact hQ _ _ ⟨k_o429, o429, rfl, Kp, E_o421, F_o421_a, F_o421_k, Od, A_o429, sz_o429, g_o429, ne_o421_o429⟩
theorem rm_a65 (hw : Hw a0 Z) (cs : Int32) (fm : Value) (yF_21 : Int32) (yF_25 : Int32) (o46 : Addr) (k_o51 : ClassId) (k_o52 : ClassId) (k_o53 : ClassId) (o51 : Addr) (o52 : Addr) (o53 : Addr) (tF : Int32) (xsF : List Int32) (o276 : Addr) (h0 : Heap) (n0 : Nat) (Z0 : n0 ≤ h0.size) (S_cs : Sta Z Z.heap cS cC "Z" (.int cs)) (S_fm : Sta Z Z.heap cP cM cF fm) (F_o46_s : Fld Z h0 o46 cE fs "[I" (.ref o51)) (F_o46_g : Fld Z h0 o46 cE fg cG (.ref o52)) (F_o46_v : Fld Z h0 o46 cE fv "[C" (.ref o53)) (A_o51 : Arv Z h0 o51 k_o51 .int i9 [(.int i0), (.int i2), (.int tF), (.int i0), (.int i0), (.int i0), (.int i0), (.int i0), (.int i0)] (.int i0)) (A_o53 : Arv Z h0 o53 k_o53 .char i256 (Y xsF) (.int i0)) (A_o52 : Arv Z h0 o52 k_o52 (.object cS) i8 [.null, (.ref o276), .null, .null, .null, .null, .null, .null] .null) (Od : Old Z n0 h0) (hv_cs : ¬ cs = i0) (hv_fm : fm.isRef = true) (hvB_22 : own_B yF_21) (hvB_26 : own_B yF_25) (g_o52 : n0 ≤ o52) (ne_o46_o52 : o46 ≠ o52) (ne_o51_o52 : o51 ≠ o52) (ne_o52_o53 : o52 ≠ o53) (O_o52 : Ovr Z k_o52 cS) (hvl0 : (Y xsF).getD (i0).toNatClampNeg (.int 0) = .int yF_21) (hvl1 : (Y xsF).getD (i1).toNatClampNeg (.int 0) = .int yF_25) :
    MetH l Z EL1 [] (⟨cE, "value", "(I)Ljava/lang/String;"⟩ : MethodName) prog_35_method_7_code 2 (some (.object cS)) (rM 4 2 6 70) [] #[(.ref o46), (.int i0)] h0 n0 (fun v h => ∃ (k_o429 : ClassId) (o421 : Addr) (o429 : Addr), v = some (.ref o421) ∧ Arv Z h o52 k_o52 (.object cS) i8 [(.ref o421), (.ref o276), .null, .null, .null, .null, .null, .null] .null ∧ Keep h0 h [o52] ∧ Exa Z h o421 cS ∧ Fld Z h o421 cS "value" "[B" (.ref o429) ∧ Fld Z h o421 cS "coder" "B" (.int i0) ∧ Old Z n0 h ∧ Arv Z h o429 k_o429 .byte i2 [(.int (bv yF_21)), (.int (bv yF_25))] (.int i0) ∧ o52 ≠ o421 ∧ h0.size ≤ o421 ∧ n0 ≤ o421 ∧ o52 ≠ o429 ∧ h0.size ≤ o429 ∧ n0 ≤ o429 ∧ o421 ≠ o429) := by
  refine MetH.mkQ (tabs := tables_1) (a0 := a0) (ls0 := #[rv o46, iv i0]) (plainFor_of_name pn_com_example_medis_medis_engine_ElementAttributes) hw Z0 (fun m => by first | (simp [entryFrame, mkF, argsToLocals, Value.category]; done) | rfl) ?_
  intro p e s m below meth c T Q' G' vm k1 hQ hG C X hS Rc hso
  have Kp : Keep h0 h0 [o52] := Keep.refl _ _
  refine s_aloadN 1 C X d9_0 rfl rfl ?_
  refine s_getfield 4 C X (host := "") d9_1 (Or.inl (mW 27 rfl)) Via.refl F_o46_g (fun T X => ?_)
  refine s_iloadN 5 C X d9_4 rfl ?_
  refine s_aaload 6 C X d9_5 A_o52 rfl ⟨by decide, by decide⟩ (v := .null) rfl ?_
  refine s_ifnonnullN 9 C X d9_6 ?_
  refine s_aloadN 10 C X d9_9 rfl rfl ?_
  refine s_getfield 13 C X (host := "") d9_10 (Or.inl (mW 27 rfl)) Via.refl F_o46_g (fun T X => ?_)
  refine s_iloadN 14 C X d9_13 rfl ?_
  refine s_new 17 C X d9_14 (mW 14 rfl) (mW 33 rfl) (mW 32 rfl) (fun T hh o421 hb_o421 X E E_o421 D g_o421 => ?_)
  have H_o421 : Safe Z EL1 vm _ o421 := Safe.ext E Rc.1.1 (Safe.new (Nat.le_of_eq hb_o421))
  have Rc := Rc.ext E
  have ne_o46_o421 : o46 ≠ o421 := Nat.ne_of_lt (Nat.lt_of_lt_of_le F_o46_s.lt (Nat.le_of_eq hb_o421))
  have ne_o53_o421 : o53 ≠ o421 := Nat.ne_of_lt (Nat.lt_of_lt_of_le A_o53.lt (Nat.le_of_eq hb_o421))
  have ne_o52_o421 : o52 ≠ o421 := Nat.ne_of_lt (Nat.lt_of_lt_of_le A_o52.lt (Nat.le_of_eq hb_o421))
  have sz_o421 : h0.size ≤ o421 := Nat.le_trans Kp.1 (Nat.le_of_eq hb_o421)
  have F_o46_s := F_o46_s.ext E
  have F_o46_g := F_o46_g.ext E
  have F_o46_v := F_o46_v.ext E
  have A_o51 := A_o51.ext E
  have A_o53 := A_o53.ext E
  have A_o52 := A_o52.ext E
  have Od := Od.ext E
  have Kp := Kp.ext E
  have F_o421_a : Fld Z _ o421 cS "value" "[B" .null := D (Or.inr (hw _ (mW 35 rfl))) (ty := (.array .byte)) (by decide)
  have F_o421_k : Fld Z _ o421 cS "coder" "B" (.int i0) := D (Or.inr (hw _ (mW 36 rfl))) (ty := .byte) (by decide)
  refine s_dup 18 C X d9_17 rfl ?_
  refine s_aloadN 19 C X d9_18 rfl rfl ?_
  refine s_getfield 22 C X (host := "") d9_19 (Or.inl (mW 29 rfl)) Via.refl F_o46_v (fun T X => ?_)
  refine s_aloadN 23 C X d9_22 rfl rfl ?_
  refine s_getfield 26 C X (host := "") d9_23 (Or.inl (mW 25 rfl)) Via.refl F_o46_s (fun T X => ?_)
  refine s_iloadN 27 C X d9_26 rfl ?_
  refine s_iaload 28 C X d9_27 A_o51 ⟨by decide, by decide⟩ (v := (.int i0)) rfl ?_
  refine s_aloadN 29 C X d9_28 rfl rfl ?_
  refine s_getfield 32 C X (host := "") d9_29 (Or.inl (mW 25 rfl)) Via.refl F_o46_s (fun T X => ?_)
  refine s_iloadN 33 C X d9_32 rfl ?_
  refine s_iconst 34 C X d9_33 kc_iconst_1 ?_
  refine s_iadd 35 C X d9_34 ?_
  refine rc (st' := [(.int i1), (.ref o51), (.int i0), (.ref o53), (.ref o421), (.ref o421), (.int i0), (.ref o52)]) (by rw [kf_0]) ?_
  refine s_iaload 36 C X d9_35 A_o51 ⟨by decide, by decide⟩ (v := (.int i2)) rfl ?_
  refine s_aloadN 37 C X d9_36 rfl rfl ?_
  refine s_getfield 40 C X (host := "") d9_37 (Or.inl (mW 25 rfl)) Via.refl F_o46_s (fun T X => ?_)
  refine s_iloadN 41 C X d9_40 rfl ?_
  refine s_iaload 42 C X d9_41 A_o51 ⟨by decide, by decide⟩ (v := (.int i0)) rfl ?_
  refine s_isub 43 C X d9_42 ?_
  refine rc (st' := [(.int i2), (.int i0), (.ref o53), (.ref o421), (.ref o421), (.int i0), (.ref o52)]) (by rw [kf_13]) ?_
  refine s_hcallC 46 [(.ref o53), (.int i0), (.int i2)] [(.ref o421), (.int i0), (.ref o52)] 3 C X hS Rc.2 (own_EL hw) Rc.1.1 d9_43 rfl (mW 73 rfl) (mW 74 rfl) (mW 32 rfl) (mW 75 rfl) (rm_a64 l Z a0 hw cs fm yF_21 yF_25 k_o53 o53 xsF o421 _ n0 X.sz S_cs S_fm A_o53 Od E_o421 F_o421_a F_o421_k hv_cs hv_fm hvB_22 hvB_26 hvl0 hvl1 ne_o53_o421 g_o421) (lenOf pd___CII_V rfl) rfl rfl rfl (soS ⟨E_o421.lt, H_o421⟩ so0) (fun T v hh vm k1 C X hS Nk Rn q => ?_)
  obtain ⟨k_o429, o429, rfl, Kc, E_o421, F_o421_a, F_o421_k, Od, A_o429, sz_o429', g_o429, ne_o421_o429⟩ := q
  have ne_o52_o429 : o52 ≠ o429 := Nat.ne_of_lt (Nat.lt_of_lt_of_le A_o52.lt sz_o429')
  have sz_o429 : h0.size ≤ o429 := Nat.le_trans Kp.1 sz_o429'
  have Rc := Rc.call Rn Nk
  have F_o46_g := F_o46_g.keep Kc (ninS ne_o46_o421 nin0)
  have A_o52 := A_o52.keep Kc (ninS ne_o52_o421 nin0)
  have Kp := Kp.trans Kc (allS (Or.inr sz_o421) all0)
  refine rc (st' := [(.ref o421), (.int i0), (.ref o52)]) rfl ?_
  have Sf : Safe Z EL1 vm _ o52 := (Safe.arv C.2.1.alike A_o52 (by decide))
  refine s_aastore 47 0 C X d9_46 A_o52 rfl rfl (fun _ A q => Sto.ofV A q O_o52 (Ins.self E_o421)) g_o52 ⟨by decide, by decide⟩ rfl (Nat.le_of_ble_eq_true rfl) (fun T hh X W A_o52 => ?_)
  have A_o52 : Arv Z _ o52 k_o52 (.object cS) i8 [(.ref o421), (.ref o276), .null, .null, .null, .null, .null, .null] .null := A_o52
  have Rc := Rc.wr W Sf
  have F_o46_g := F_o46_g.other W (Or.inl ne_o46_o52)
  have Kp := Kp.wr W (Or.inl (by simp))
  have E_o421 := E_o421.wr W
  have F_o421_a := F_o421_a.other W (Or.inl (Ne.symm ne_o52_o421))
  have F_o421_k := F_o421_k.other W (Or.inl (Ne.symm ne_o52_o421))
  have Od := Od.wr W g_o52
  have A_o429 := A_o429.other W (Ne.symm ne_o52_o429)
  refine s_aloadN 48 C X d9_47 rfl rfl ?_
  refine s_getfield 51 C X (host := "") d9_48 (Or.inl (mW 27 rfl)) Via.refl F_o46_g (fun T X => ?_)
  refine s_iloadN 52 C X d9_51 rfl ?_
  refine s_aaload 53 C X d9_52 A_o52 rfl ⟨by decide, by decide⟩ (v := (.ref o421)) rfl ?_
  refine s_areturn C X d9_53 rfl rfl rfl ?_ (FGH hG hS Rc C (own_EL hw))
  exact hQ _ _ ⟨k_o429, o421, o429, rfl, A_o52, Kp, E_o421, F_o421_a, F_o421_k, Od, A_o429, ne_o52_o421, sz_o421, g_o421, ne_o52_o429, sz_o429, g_o429, ne_o421_o429⟩
theorem rm_a66 (hw : Hw a0 Z) (yF_21 : Int32) (yF_25 : Int32) (o457 : Addr) (k_o457 : ClassId) (o445 : Addr) (k_o445 : ClassId) (h0 : Heap) (n0 : Nat) (Z0 : n0 ≤ h0.size) (A_o457 : Arv Z h0 o457 k_o457 .char i2 [(.int yF_21), (.int yF_25)] (.int i0)) (A_o445 : Arv Z h0 o445 k_o445 .byte i2 [(.int i0), (.int i0)] (.int i0)) (hvB_22 : own_B yF_21) (hvB_26 : own_B yF_25) (ne_o457_o445 : o457 ≠ o445) (g_o445 : n0 ≤ o445) :
    Met l Z (⟨cU, "compress", "([CI[BII)I"⟩ : MethodName) jdk_52_method_21_code 7 (some .int) (rM 0 0 0 0) [] #[(.ref o457), (.int i0), (.ref o445), (.int i0), (.int i2)] h0 n0 (fun v h => v = some (.int i2) ∧ Arv Z h o445 k_o445 .byte i2 [(.int (bv yF_21)), (.int (bv yF_25))] (.int i0) ∧ Keep h0 h [o445]) := by
  refine Met.mkQ (tabs := tables_1) (a0 := a0) (ls0 := #[rv o457, iv i0, rv o445, iv i0, iv i2, un, un]) (plainFor_of_name pn_java_lang_StringUTF16) hw Z0 (fun m => by first | (simp [entryFrame, mkF, argsToLocals, Value.category]; done) | rfl) ?_
  intro p e s m below meth c T Q' G' hQ hG C X
  have Kp : Keep h0 h0 [o445] := Keep.refl _ _
  refine s_iconst 1 C X d16_0 kc_iconst_0 ?_
  refine s_istore 3 C X (l' := #[rv o457, iv i0, rv o445, iv i0, iv i2, iv i0, un]) d16_1 rfl ?_
  refine s_iload 5 C X d16_3 rfl ?_
  refine s_iload 7 C X d16_5 rfl ?_
  refine s_icmp_ge 44 10 C X d16_7 (fun c => absurd (by decide : i0 < i2) c) (fun _ => ?_)
  refine s_aloadN 11 C X d16_10 rfl rfl ?_
  refine s_iloadN 12 C X d16_11 rfl ?_
  refine s_caload 13 C X d16_12 A_o457 ⟨by decide, by decide⟩ (v := (.int yF_21)) rfl ?_
  refine s_istore 15 C X (l' := #[rv o457, iv i0, rv o445, iv i0, iv i2, iv i0, iv yF_21]) d16_13 rfl ?_
  refine s_iload 17 C X d16_15 rfl ?_
  refine s_sipush 20 C X d16_17 kc_sipush_255 ?_
  refine s_icmp_le 26 23 C X d16_20 (fun c20_447 => ?_) (fun c => absurd c (own_le hvB_22))
  refine s_aloadN 27 C X d16_26 rfl rfl ?_
  refine s_iloadN 28 C X d16_27 rfl ?_
  refine s_iload 30 C X d16_28 rfl ?_
  refine s_i2b 31 C X d16_30 ?_
  refine s_bastore 32 0 C X d16_31 A_o445 g_o445 ⟨by decide, by decide⟩ rfl (Nat.le_of_ble_eq_true rfl) (fun T hh X W A_o445 => ?_)
  have A_o445 : Arv Z _ o445 k_o445 .byte i2 [(.int (nar .byte (yF_21).toInt8.toInt32)), (.int i0)] (.int i0) := A_o445
  have A_o457 := A_o457.other W ne_o457_o445
  have Kp := Kp.wr W (Or.inl (by simp))
  have A_o445 : Arv Z _ o445 k_o445 .byte i2 [(.int (bv yF_21)), (.int i0)] (.int i0) := A_o445
  refine s_iinc 35 C X (l' := #[rv o457, iv i1, rv o445, iv i0, iv i2, iv i0, iv yF_21]) d16_32 kc_iconst_1 rfl rfl ?_
  refine s_iinc 38 C X (l' := #[rv o457, iv i1, rv o445, iv i1, iv i2, iv i0, iv yF_21]) d16_35 kc_iconst_1 rfl rfl ?_
  refine s_iinc 41 C X (l' := #[rv o457, iv i1, rv o445, iv i1, iv i2, iv i1, iv yF_21]) d16_38 kc_iconst_1 rfl rfl ?_
  refine s_goto 3 C X d16_41 ?_
  refine s_iload 5 C X d16_3 rfl ?_
  refine s_iload 7 C X d16_5 rfl ?_
  refine s_icmp_ge 44 10 C X d16_7 (fun c => absurd (by decide : i1 < i2) c) (fun _ => ?_)
  refine s_aloadN 11 C X d16_10 rfl rfl ?_
  refine s_iloadN 12 C X d16_11 rfl ?_
  refine s_caload 13 C X d16_12 A_o457 ⟨by decide, by decide⟩ (v := (.int yF_25)) rfl ?_
  refine s_istore 15 C X (l' := #[rv o457, iv i1, rv o445, iv i1, iv i2, iv i1, iv yF_25]) d16_13 rfl ?_
  refine s_iload 17 C X d16_15 rfl ?_
  refine s_sipush 20 C X d16_17 kc_sipush_255 ?_
  refine s_icmp_le 26 23 C X d16_20 (fun c20_449 => ?_) (fun c => absurd c (own_le hvB_26))
  refine s_aloadN 27 C X d16_26 rfl rfl ?_
  refine s_iloadN 28 C X d16_27 rfl ?_
  refine s_iload 30 C X d16_28 rfl ?_
  refine s_i2b 31 C X d16_30 ?_
  refine s_bastore 32 1 C X d16_31 A_o445 g_o445 ⟨by decide, by decide⟩ rfl (Nat.le_of_ble_eq_true rfl) (fun T hh X W A_o445 => ?_)
  have A_o445 : Arv Z _ o445 k_o445 .byte i2 [(.int (bv yF_21)), (.int (nar .byte (yF_25).toInt8.toInt32))] (.int i0) := A_o445
  have Kp := Kp.wr W (Or.inl (by simp))
  have A_o445 : Arv Z _ o445 k_o445 .byte i2 [(.int (bv yF_21)), (.int (bv yF_25))] (.int i0) := A_o445
  refine s_iinc 35 C X (l' := #[rv o457, iv i2, rv o445, iv i1, iv i2, iv i1, iv yF_25]) d16_32 kc_iconst_1 rfl rfl ?_
  refine s_iinc 38 C X (l' := #[rv o457, iv i2, rv o445, iv i2, iv i2, iv i1, iv yF_25]) d16_35 kc_iconst_1 rfl rfl ?_
  refine s_iinc 41 C X (l' := #[rv o457, iv i2, rv o445, iv i2, iv i2, iv i2, iv yF_25]) d16_38 kc_iconst_1 rfl rfl ?_
  refine s_goto 3 C X d16_41 ?_
  refine s_iload 5 C X d16_3 rfl ?_
  refine s_iload 7 C X d16_5 rfl ?_
  refine s_icmp_ge 44 10 C X d16_7 (fun _ => ?_) (fun c => absurd c (by decide))
  refine s_iload 46 C X d16_44 rfl ?_
  refine s_ireturn C X d16_46 rfl ?_ (FG hG (by decide) (by decide))
  exact hQ _ _ ⟨rfl, A_o445, Kp⟩
theorem rm_a67 (hw : Hw a0 Z) (yF_21 : Int32) (yF_25 : Int32) (o457 : Addr) (k_o457 : ClassId) (h0 : Heap) (n0 : Nat) (Z0 : n0 ≤ h0.size) (A_o457 : Arv Z h0 o457 k_o457 .char i2 [(.int yF_21), (.int yF_25)] (.int i0)) (hvB_22 : own_B yF_21) (hvB_26 : own_B yF_25) :
    Met l Z (⟨cU, "compress", "([CII)[B"⟩ : MethodName) jdk_52_method_16_code 6 (some (.array .byte)) (rM 1 1 2 18) [] #[(.ref o457), (.int i0), (.int i2)] h0 n0 (fun v h => ∃ (k_o445 : ClassId) (o445 : Addr), v = some (.ref o445) ∧ Keep h0 h [] ∧ Arv Z h o445 k_o445 .byte i2 [(.int (bv yF_21)), (.int (bv yF_25))] (.int i0) ∧ h0.size ≤ o445 ∧ n0 ≤ o445) := by
  refine Met.mkQ (tabs := tables_1) (a0 := a0) (ls0 := #[rv o457, iv i0, iv i2, un, un, un]) (plainFor_of_name pn_java_lang_StringUTF16) hw Z0 (fun m => by first | (simp [entryFrame, mkF, argsToLocals, Value.category]; done) | rfl) ?_
  intro p e s m below meth c T Q' G' hQ hG C X
  have Kp : Keep h0 h0 [] := Keep.refl _ _
  refine s_iloadN 1 C X d15_0 rfl ?_
  refine s_newarray 3 2 C X d15_1 (mW 34 rfl) (by decide) (by decide) (fun T hh o445 k_o445 hb_o445 X E A_o445 g_o445 => ?_)
  have ne_o457_o445 : o457 ≠ o445 := Nat.ne_of_lt (Nat.lt_of_lt_of_le A_o457.lt (Nat.le_of_eq hb_o445))
  have sz_o445 : h0.size ≤ o445 := Nat.le_trans Kp.1 (Nat.le_of_eq hb_o445)
  have A_o457 := A_o457.ext E
  have Kp := Kp.ext E
  have A_o445 : Arv Z _ o445 k_o445 .byte i2 [(.int i0), (.int i0)] (.int i0) := A_o445.pad (pad_rep [] _ 2)
  refine s_astoreN 4 C X (l' := #[rv o457, iv i0, iv i2, rv o445, un, un]) d15_3 rfl rfl ?_
  refine s_aloadN 5 C X d15_4 rfl rfl ?_
  refine s_iloadN 6 C X d15_5 rfl ?_
  refine s_aloadN 7 C X d15_6 rfl rfl ?_
  refine s_iconst 8 C X d15_7 kc_iconst_0 ?_
  refine s_iloadN 9 C X d15_8 rfl ?_
  refine s_callS 12 [(.ref o457), (.int i0), (.ref o445), (.int i0), (.int i2)] [] 0 C X d15_9 (mW 96 rfl) (mW 97 rfl) (mW 94 rfl) (mW 98 rfl) (rm_a66 l Z a0 hw yF_21 yF_25 o457 k_o457 o445 k_o445 _ n0 X.sz A_o457 A_o445 hvB_22 hvB_26 ne_o457_o445 g_o445) (lenOf pd___CI_BII_I rfl) rfl rfl rfl (fun T v hh X q => ?_)
  obtain ⟨rfl, A_o445, Kc⟩ := q
  have Kp := Kp.trans Kc (allS (Or.inr sz_o445) all0)
  refine rc (st' := [(.int i2)]) rfl ?_
  refine s_istore 14 C X (l' := #[rv o457, iv i0, iv i2, rv o445, iv i2, un]) d15_12 rfl ?_
  refine s_iload 16 C X d15_14 rfl ?_
  refine s_iloadN 17 C X d15_16 rfl ?_
  refine s_icmp_eq 57 20 C X d15_17 (fun _ => ?_) (fun c => absurd (by decide : i2 = i2) c)
  refine s_aloadN 58 C X d15_57 rfl rfl ?_
  refine s_areturn C X d15_58 rfl rfl rfl ?_ (FG hG (by decide) (by decide))
  exact hQ _ _ ⟨k_o445, o445, rfl, Kp, A_o445, sz_o445, g_o445⟩
theorem rm_a68 (hw : Hw a0 Z) (cs : Int32) (yF_21 : Int32) (yF_25 : Int32) (o457 : Addr) (k_o457 : ClassId) (o442 : Addr) (h0 : Heap) (n0 : Nat) (Z0 : n0 ≤ h0.size) (S_cs : Sta Z Z.heap cS cC "Z" (.int cs)) (A_o457 : Arv Z h0 o457 k_o457 .char i2 [(.int yF_21), (.int yF_25)] (.int i0)) (Od : Old Z n0 h0) (E_o442 : Exa Z h0 o442 cS) (F_o442_a : Fld Z h0 o442 cS "value" "[B" .null) (F_o442_k : Fld Z h0 o442 cS "coder" "B" (.int i0)) (hv_cs : ¬ cs = i0) (hvB_22 : own_B yF_21) (hvB_26 : own_B yF_25) (ne_o457_o442 : o457 ≠ o442) (g_o442 : n0 ≤ o442) :
    MetH l Z EL1 [o442] (⟨cS, "<init>", sV⟩ : MethodName) jdk_42_method_149_code 6 none (rM 2 1 2 35) [] #[(.ref o442), (.ref o457), (.int i0), (.int i2), .null] h0 n0 (fun v h => ∃ (k_o445 : ClassId) (o445 : Addr), v = none ∧ Old Z n0 h ∧ Exa Z h o442 cS ∧ Fld Z h o442 cS "value" "[B" (.ref o445) ∧ Fld Z h o442 cS "coder" "B" (.int i0) ∧ Keep h0 h [o442] ∧ Arv Z h o445 k_o445 .byte i2 [(.int (bv yF_21)), (.int (bv yF_25))] (.int i0) ∧ o442 ≠ o445 ∧ h0.size ≤ o445 ∧ n0 ≤ o445) := by
  refine MetH.mkQ (tabs := tables_1) (a0 := a0) (ls0 := #[rv o442, rv o457, iv i0, iv i2, .val .null, un]) (plainFor_of_name pn_java_lang_String) hw Z0 (fun m => by first | (simp [entryFrame, mkF, argsToLocals, Value.category]; done) | rfl) ?_
  intro p e s m below meth c T Q' G' vm k1 hQ hG C X hS Rc hso
  have Kp : Keep h0 h0 [o442] := Keep.refl _ _
  have H_o442 : Safe Z EL1 vm h0 o442 := hso _ (by simp)
  refine s_aloadN 1 C X d14_0 rfl rfl ?_
  refine s_objInit 4 C X d14_1 (mW 90 rfl) (mW 12 rfl) (mW 13 rfl) rfl (W := 0) rfl (by decide) (fun T X => ?_)
  refine s_iloadN 5 C X d14_4 rfl ?_
  refine s_if_ne 27 8 C X d14_5 (fun _ => ?_) (fun c => absurd c (by decide))
  refine s_getstatic 30 C X (host := "") d14_27 (Or.inl (mW 91 rfl)) Via.refl (S_cs.ext Od.2) (fun T X => ?_)
  refine s_if_eq 58 33 C X d14_30 (fun c => absurd c hv_cs) (fun c30_444 => ?_)
  refine s_aloadN 34 C X d14_33 rfl rfl ?_
  refine s_iloadN 35 C X d14_34 rfl ?_
  refine s_iloadN 36 C X d14_35 rfl ?_
  refine s_callS 39 [(.ref o457), (.int i0), (.int i2)] [] 0 C X d14_36 (mW 92 rfl) (mW 93 rfl) (mW 94 rfl) (mW 95 rfl) (rm_a67 l Z a0 hw yF_21 yF_25 o457 k_o457 _ n0 X.sz A_o457 hvB_22 hvB_26) (lenOf pd___CII__B rfl) rfl rfl rfl (fun T v hh X q => ?_)
  obtain ⟨k_o445, o445, rfl, Kc, A_o445, sz_o445', g_o445⟩ := q
  have ne_o442_o445 : o442 ≠ o445 := Nat.ne_of_lt (Nat.lt_of_lt_of_le E_o442.lt sz_o445')
  have sz_o445 : h0.size ≤ o445 := Nat.le_trans Kp.1 sz_o445'
  have H_o442 := Safe.keep Kc so0 Rc.1.1 H_o442
  have Rc := Rc.keep Kc so0
  have Od := Od.keep Kc all0
  have E_o442 := E_o442.keep Kc
  have F_o442_a := F_o442_a.keep Kc nin0
  have F_o442_k := F_o442_k.keep Kc nin0
  have Kp := Kp.trans Kc all0
  refine rc (st' := [(.ref o445)]) rfl ?_
  refine s_astore 41 C X (l' := #[rv o442, rv o457, iv i0, iv i2, .val .null, rv o445]) d14_39 rfl rfl ?_
  refine s_aloadN 42 C X d14_41 rfl rfl ?_
  refine s_aload 44 C X d14_42 rfl rfl ?_
  refine s_iloadN 45 C X d14_44 rfl ?_
  refine s_callS 48 [(.ref o445), (.int i2)] [(.ref o442)] 1 C X d14_45 (mW 99 rfl) (mW 100 rfl) (mW 94 rfl) (mW 101 rfl) (rm_a62 l Z a0 hw yF_21 yF_25 k_o445 o445 _ n0 X.sz A_o445) (lenOf pd___BI_B rfl) rfl rfl rfl (fun T v hh X q => ?_)
  obtain ⟨rfl, Kc⟩ := q
  have H_o442 := Safe.keep Kc so0 Rc.1.1 H_o442
  have Rc := Rc.keep Kc so0
  have Od := Od.keep Kc all0
  have E_o442 := E_o442.keep Kc
  have F_o442_a := F_o442_a.keep Kc nin0
  have F_o442_k := F_o442_k.keep Kc nin0
  have Kp := Kp.trans Kc all0
  have A_o445 := A_o445.keep Kc nin0
  refine rc (st' := [(.int i0), (.ref o442)]) rfl ?_
  refine s_putfieldN 51 C X d14_48 (mW 102 rfl) Via.refl F_o442_k E_o442 (Or.inr ⟨(mW 36 rfl), rfl, rfl⟩) (mW 33 rfl) (ty := .byte) (by decide) rfl rfl g_o442 (fun T hh X W => ?_)
  have Sf : Safe Z EL1 vm _ o442 := H_o442
  have H_o442 := Safe.wr W Sf Rc.1.1 H_o442
  have Rc := Rc.wr W Sf
  have Od := Od.wr W g_o442
  have E_o442 := E_o442.wr W
  have F_o442_a := oth F_o442_a W (Or.inr (hw _ (mW 35 rfl))) (Or.inr (hw _ (mW 36 rfl))) (by decide)
  have F_o442_k := F_o442_k.same W
  have Kp := Kp.wr W (Or.inl (by simp))
  have A_o445 := A_o445.other W (Ne.symm ne_o442_o445)
  refine s_aloadN 52 C X d14_51 rfl rfl ?_
  refine s_aload 54 C X d14_52 rfl rfl ?_
  refine s_putfield 57 C X (host := "") d14_54 (Or.inl (mW 103 rfl)) Via.refl F_o442_a E_o442 (Or.inr ⟨(mW 35 rfl), rfl, rfl⟩) (mW 33 rfl) (ty := (.array .byte)) (by decide) rfl rfl g_o442 (fun T hh X W => ?_)
  have Sf : Safe Z EL1 vm _ o442 := H_o442
  have Rc := Rc.wr W Sf
  have Od := Od.wr W g_o442
  have E_o442 := E_o442.wr W
  have F_o442_a := F_o442_a.same W
  have F_o442_k := oth F_o442_k W (Or.inr (hw _ (mW 36 rfl))) (Or.inr (hw _ (mW 35 rfl))) (by decide)
  have Kp := Kp.wr W (Or.inl (by simp))
  have A_o445 := A_o445.other W (Ne.symm ne_o442_o445)
  refine s_return C X d14_57 rfl ?_ (FGH hG hS Rc C (own_EL hw))
  exact hQ _ _ ⟨k_o445, o445, rfl, Od, E_o442, F_o442_a, F_o442_k, Kp, A_o445, ne_o442_o445, sz_o445, g_o445⟩
theorem rm_a69 (hw : Hw a0 Z) (cs : Int32) (yF_21 : Int32) (yF_25 : Int32) (o457 : Addr) (k_o457 : ClassId) (o442 : Addr) (h0 : Heap) (n0 : Nat) (Z0 : n0 ≤ h0.size) (S_cs : Sta Z Z.heap cS cC "Z" (.int cs)) (A_o457 : Arv Z h0 o457 k_o457 .char i2 [(.int yF_21), (.int yF_25)] (.int i0)) (Od : Old Z n0 h0) (E_o442 : Exa Z h0 o442 cS) (F_o442_a : Fld Z h0 o442 cS "value" "[B" .null) (F_o442_k : Fld Z h0 o442 cS "coder" "B" (.int i0)) (hv_cs : ¬ cs = i0) (hvB_22 : own_B yF_21) (hvB_26 : own_B yF_25) (ne_o457_o442 : o457 ≠ o442) (g_o442 : n0 ≤ o442) :
    MetH l Z EL1 [o442] (⟨cS, "<init>", "([C)V"⟩ : MethodName) jdk_42_method_3_code 2 none (rM 3 1 2 52) [] #[(.ref o442), (.ref o457)] h0 n0 (fun v h => ∃ (k_o445 : ClassId) (o445 : Addr), v = none ∧ Keep h0 h [o442] ∧ Old Z n0 h ∧ Exa Z h o442 cS ∧ Fld Z h o442 cS "value" "[B" (.ref o445) ∧ Fld Z h o442 cS "coder" "B" (.int i0) ∧ Arv Z h o445 k_o445 .byte i2 [(.int (bv yF_21)), (.int (bv yF_25))] (.int i0) ∧ h0.size ≤ o445 ∧ n0 ≤ o445 ∧ o442 ≠ o445) := by
  refine MetH.mkQ (tabs := tables_1) (a0 := a0) (ls0 := #[rv o442, rv o457]) (plainFor_of_name pn_java_lang_String) hw Z0 (fun m => by first | (simp [entryFrame, mkF, argsToLocals, Value.category]; done) | rfl) ?_
  intro p e s m below meth c T Q' G' vm k1 hQ hG C X hS Rc hso
  have Kp : Keep h0 h0 [o442] := Keep.refl _ _
  have H_o442 : Safe Z EL1 vm h0 o442 := hso _ (by simp)
  refine s_aloadN 1 C X d27_0 rfl rfl ?_
  refine s_aloadN 2 C X d27_1 rfl rfl ?_
  refine s_iconst 3 C X d27_2 kc_iconst_0 ?_
  refine s_aloadN 4 C X d27_3 rfl rfl ?_
  refine s_arraylength 5 C X d27_4 A_o457 ?_
  refine s_aconstNull 6 C X d27_5 ?_
  refine s_hcallC 9 [(.ref o457), (.int i0), (.int i2), .null] [] 0 C X hS Rc.2 (own_EL hw) Rc.1.1 d27_6 rfl (mW 87 rfl) (mW 88 rfl) (mW 32 rfl) (mW 89 rfl) (rm_a68 l Z a0 hw cs yF_21 yF_25 o457 k_o457 o442 _ n0 X.sz S_cs A_o457 Od E_o442 F_o442_a F_o442_k hv_cs hvB_22 hvB_26 ne_o457_o442 g_o442) (lenOf pd___CIILjava_lang_Void__V rfl) rfl rfl rfl (soS ⟨E_o442.lt, H_o442⟩ so0) (fun T v hh vm k1 C X hS Nk Rn q => ?_)
  obtain ⟨k_o445, o445, rfl, Od, E_o442, F_o442_a, F_o442_k, Kc, A_o445, ne_o442_o445, sz_o445', g_o445⟩ := q
  have sz_o445 : h0.size ≤ o445 := Nat.le_trans Kp.1 sz_o445'
  have Rc := Rc.call Rn Nk
  have Kp := Kp.trans Kc (allS (Or.inl (by simp)) all0)
  refine rc (st' := []) rfl ?_
  refine s_return C X d27_9 rfl ?_ (FGH hG hS Rc C (own_EL hw))
  exact hQ _ _ ⟨k_o445, o445, rfl, Kp, Od, E_o442, F_o442_a, F_o442_k, A_o445, sz_o445, g_o445, ne_o442_o445⟩
theorem rm_a70 (hw : Hw a0 Z) (yF_21 : Int32) (yF_25 : Int32) (k_o429 : ClassId) (o429 : Addr) (k_o445 : ClassId) (o445 : Addr) (h0 : Heap) (n0 : Nat) (Z0 : n0 ≤ h0.size) (A_o429 : Arv Z h0 o429 k_o429 .byte i2 [(.int (bv yF_21)), (.int (bv yF_25))] (.int i0)) (A_o445 : Arv Z h0 o445 k_o445 .byte i2 [(.int (bv yF_21)), (.int (bv yF_25))] (.int i0)) :
    Met l Z (⟨cW, "equals", "([B[B)Z"⟩ : MethodName) jdk_43_method_13_code 3 (some .boolean) (rM 0 0 0 0) [] #[(.ref o429), (.ref o445)] h0 n0 (fun v h => v = some (.int i1) ∧ Keep h0 h []) := by
  refine Met.mkQ (tabs := tables_1) (a0 := a0) (ls0 := #[rv o429, rv o445, un]) (plainFor_of_name pn_java_lang_StringLatin1) hw Z0 (fun m => by first | (simp [entryFrame, mkF, argsToLocals, Value.category]; done) | rfl) ?_
  intro p e s m below meth c T Q' G' hQ hG C X
  have Kp : Keep h0 h0 [] := Keep.refl _ _
  refine s_aloadN 1 C X d29_0 rfl rfl ?_
  refine s_arraylength 2 C X d29_1 A_o429 ?_
  refine s_aloadN 3 C X d29_2 rfl rfl ?_
  refine s_arraylength 4 C X d29_3 A_o445 ?_
  refine s_icmp_ne 34 7 C X d29_4 (fun c => absurd (by decide : i2 = i2) c) (fun _ => ?_)
  refine s_iconst 8 C X d29_7 kc_iconst_0 ?_
  refine s_istoreN 9 C X (l' := #[rv o429, rv o445, iv i0]) d29_8 rfl ?_
  refine s_iloadN 10 C X d29_9 rfl ?_
  refine s_aloadN 11 C X d29_10 rfl rfl ?_
  refine s_arraylength 12 C X d29_11 A_o429 ?_
  refine s_icmp_ge 32 15 C X d29_12 (fun c => absurd (by decide : i0 < i2) c) (fun _ => ?_)
  refine s_aloadN 16 C X d29_15 rfl rfl ?_
  refine s_iloadN 17 C X d29_16 rfl ?_
  refine s_baload 18 C X d29_17 A_o429 ⟨by decide, by decide⟩ (v := (.int (bv yF_21))) rfl ?_
  refine s_aloadN 19 C X d29_18 rfl rfl ?_
  refine s_iloadN 20 C X d29_19 rfl ?_
  refine s_baload 21 C X d29_20 A_o445 ⟨by decide, by decide⟩ (v := (.int (bv yF_21))) rfl ?_
  refine s_icmp_eq 26 24 C X d29_21 (fun _ => ?_) (fun c => absurd rfl c)
  refine s_iinc 29 C X (l' := #[rv o429, rv o445, iv i1]) d29_26 kc_iconst_1 rfl rfl ?_
  refine s_goto 9 C X d29_29 ?_
  refine s_iloadN 10 C X d29_9 rfl ?_
  refine s_aloadN 11 C X d29_10 rfl rfl ?_
  refine s_arraylength 12 C X d29_11 A_o429 ?_
  refine s_icmp_ge 32 15 C X d29_12 (fun c => absurd (by decide : i1 < i2) c) (fun _ => ?_)
  refine s_aloadN 16 C X d29_15 rfl rfl ?_
  refine s_iloadN 17 C X d29_16 rfl ?_
  refine s_baload 18 C X d29_17 A_o429 ⟨by decide, by decide⟩ (v := (.int (bv yF_25))) rfl ?_
  refine s_aloadN 19 C X d29_18 rfl rfl ?_
  refine s_iloadN 20 C X d29_19 rfl ?_
  refine s_baload 21 C X d29_20 A_o445 ⟨by decide, by decide⟩ (v := (.int (bv yF_25))) rfl ?_
  refine s_icmp_eq 26 24 C X d29_21 (fun _ => ?_) (fun c => absurd rfl c)
  refine s_iinc 29 C X (l' := #[rv o429, rv o445, iv i2]) d29_26 kc_iconst_1 rfl rfl ?_
  refine s_goto 9 C X d29_29 ?_
  refine s_iloadN 10 C X d29_9 rfl ?_
  refine s_aloadN 11 C X d29_10 rfl rfl ?_
  refine s_arraylength 12 C X d29_11 A_o429 ?_
  refine s_icmp_ge 32 15 C X d29_12 (fun _ => ?_) (fun c => absurd c (by decide))
  refine s_iconst 33 C X d29_32 kc_iconst_1 ?_
  refine s_nreturn C X d29_33 rfl (by simp) rfl ?_ (FG hG (by decide) (by decide))
  exact hQ _ _ ⟨rfl, Kp⟩
theorem rm_a71 (hw : Hw a0 Z) (cs : Int32) (yF_21 : Int32) (yF_25 : Int32) (k_o429 : ClassId) (o421 : Addr) (o429 : Addr) (o442 : Addr) (k_o445 : ClassId) (o445 : Addr) (h0 : Heap) (n0 : Nat) (Z0 : n0 ≤ h0.size) (S_cs : Sta Z Z.heap cS cC "Z" (.int cs)) (F_o421_a : Fld Z h0 o421 cS "value" "[B" (.ref o429)) (F_o421_k : Fld Z h0 o421 cS "coder" "B" (.int i0)) (A_o429 : Arv Z h0 o429 k_o429 .byte i2 [(.int (bv yF_21)), (.int (bv yF_25))] (.int i0)) (Od : Old Z n0 h0) (E_o442 : Exa Z h0 o442 cS) (F_o442_a : Fld Z h0 o442 cS "value" "[B" (.ref o445)) (F_o442_k : Fld Z h0 o442 cS "coder" "B" (.int i0)) (A_o445 : Arv Z h0 o445 k_o445 .byte i2 [(.int (bv yF_21)), (.int (bv yF_25))] (.int i0)) (hv_cs : ¬ cs = i0) (ne_o421_o442 : o421 ≠ o442) :
    Met l Z (⟨cS, "equals", "(Ljava/lang/Object;)Z"⟩ : MethodName) jdk_42_method_66_code 3 (some .boolean) (rM 1 0 0 14) [] #[(.ref o421), (.ref o442)] h0 n0 (fun v h => v = some (.int i1) ∧ Old Z n0 h ∧ Keep h0 h []) := by
  refine Met.mkQ (tabs := tables_1) (a0 := a0) (ls0 := #[rv o421, rv o442, un]) (plainFor_of_name pn_java_lang_String) hw Z0 (fun m => by first | (simp [entryFrame, mkF, argsToLocals, Value.category]; done) | rfl) ?_
  intro p e s m below meth c T Q' G' hQ hG C X
  have Kp : Keep h0 h0 [] := Keep.refl _ _
  refine s_aloadN 1 C X d28_0 rfl rfl ?_
  refine s_aloadN 2 C X d28_1 rfl rfl ?_
  refine s_acmp_ne 7 5 C X d28_2 rfl rfl (fun c2_457 => ?_) (fun c => absurd (Value.ref.inj c) ne_o421_o442)
  refine s_aloadN 8 C X d28_7 rfl rfl ?_
  refine s_instY 11 C X d28_8 (mW 152 rfl) (Ins.self E_o442) (fun T X => ?_)
  refine s_if_eq 54 14 C X d28_11 (fun c => absurd c (by decide)) (fun _ => ?_)
  refine s_aloadN 15 C X d28_14 rfl rfl ?_
  refine s_castY 18 C X d28_15 (mW 152 rfl) (Ins.self E_o442) (fun T X => ?_)
  refine s_astoreN 19 C X (l' := #[rv o421, rv o442, rv o442]) d28_18 rfl rfl ?_
  refine s_getstatic 22 C X (host := "") d28_19 (Or.inl (mW 91 rfl)) Via.refl (S_cs.ext Od.2) (fun T X => ?_)
  refine s_if_eq 36 25 C X d28_22 (fun c => absurd c hv_cs) (fun c22_459 => ?_)
  refine s_aloadN 26 C X d28_25 rfl rfl ?_
  refine s_getfield 29 C X (host := "") d28_26 (Or.inl (mW 102 rfl)) Via.refl F_o421_k (fun T X => ?_)
  refine s_aloadN 30 C X d28_29 rfl rfl ?_
  refine s_getfield 33 C X (host := "") d28_30 (Or.inl (mW 102 rfl)) Via.refl F_o442_k (fun T X => ?_)
  refine s_icmp_ne 54 36 C X d28_33 (fun c => absurd (by decide : i0 = i0) c) (fun _ => ?_)
  refine s_aloadN 37 C X d28_36 rfl rfl ?_
  refine s_getfield 40 C X (host := "") d28_37 (Or.inl (mW 103 rfl)) Via.refl F_o421_a (fun T X => ?_)
  refine s_aloadN 41 C X d28_40 rfl rfl ?_
  refine s_getfield 44 C X (host := "") d28_41 (Or.inl (mW 103 rfl)) Via.refl F_o442_a (fun T X => ?_)
  refine s_callS 47 [(.ref o429), (.ref o445)] [] 0 C X d28_44 (mW 153 rfl) (mW 154 rfl) (mW 134 rfl) (mW 155 rfl) (rm_a70 l Z a0 hw yF_21 yF_25 k_o429 o429 k_o445 o445 _ n0 X.sz A_o429 A_o445) (lenOf pd___B_B_Z rfl) rfl rfl rfl (fun T v hh X q => ?_)
  obtain ⟨rfl, Kc⟩ := q
  have Od := Od.keep Kc all0
  have Kp := Kp.trans Kc all0
  refine rc (st' := [(.int i1)]) rfl ?_
  refine s_if_eq 54 50 C X d28_47 (fun c => absurd c (by decide)) (fun _ => ?_)
  refine s_iconst 51 C X d28_50 kc_iconst_1 ?_
  refine s_goto 55 C X d28_51 ?_
  refine s_nreturn C X d28_55 rfl (by simp) rfl ?_ (FG hG (by decide) (by decide))
  exact hQ _ _ ⟨rfl, Od, Kp⟩
theorem rm_a72 (hw : Hw a0 Z) (yF_21 : Int32) (o473 : Addr) (o46 : Addr) (k_o473 : ClassId) (k_o51 : ClassId) (k_o53 : ClassId) (o51 : Addr) (o53 : Addr) (h0 : Heap) (n0 : Nat) (Z0 : n0 ≤ h0.size) (A_o473 : Arv Z h0 o473 k_o473 .char i1 [(.int yF_21)] (.int i0)) (A_o53 : Arv Z h0 o53 k_o53 .char i256 [(.int i0), (.int i0), (.int i0), (.int i0), (.int i0), (.int i0), (.int i0), (.int i0)] (.int i0)) (F_o46_s : Fld Z h0 o46 cE fs "[I" (.ref o51)) (F_o46_v : Fld Z h0 o46 cE fv "[C" (.ref o53)) (F_o46_n : Fld Z h0 o46 cE "length" "I" (.int i1)) (A_o51 : Arv Z h0 o51 k_o51 .int i9 [(.int i0), (.int i0), (.int i0), (.int i0), (.int i0), (.int i0), (.int i0), (.int i0), (.int i0)] (.int i0)) (ne_o473_o51 : o473 ≠ o51) (g_o51 : n0 ≤ o51) (ne_o473_o53 : o473 ≠ o53) (g_o53 : n0 ≤ o53) (ne_o46_o51 : o46 ≠ o51) (ne_o46_o53 : o46 ≠ o53) (ne_o51_o53 : o51 ≠ o53) :
    Met l Z (⟨cE, "append", "([CII)V"⟩ : MethodName) prog_35_method_12_code 5 none (rM 1 0 0 40) [] #[(.ref o46), (.ref o473), (.int i0), (.int i1)] h0 n0 (fun v h => v = none ∧ Arv Z h o51 k_o51 .int i9 [(.int i0), (.int i1), (.int i0), (.int i0), (.int i0), (.int i0), (.int i0), (.int i0), (.int i0)] (.int i0) ∧ Keep h0 h [o51, o53] ∧ Arv Z h o53 k_o53 .char i256 [(.int yF_21), (.int i0), (.int i0), (.int i0), (.int i0), (.int i0), (.int i0), (.int i0)] (.int i0)) := by
  refine Met.mkQ (tabs := tables_1) (a0 := a0) (ls0 := #[rv o46, rv o473, iv i0, iv i1, un]) (plainFor_of_name pn_com_example_medis_medis_engine_ElementAttributes) hw Z0 (fun m => by first | (simp [entryFrame, mkF, argsToLocals, Value.category]; done) | rfl) ?_
  intro p e s m below meth c T Q' G' hQ hG C X
  have Kp : Keep h0 h0 [o51, o53] := Keep.refl _ _
  refine s_aloadN 1 C X d5_0 rfl rfl ?_
  refine s_getfield 4 C X (host := "") d5_1 (Or.inl (mW 25 rfl)) Via.refl F_o46_s (fun T X => ?_)
  refine s_aloadN 5 C X d5_4 rfl rfl ?_
  refine s_getfield 8 C X (host := "") d5_5 (Or.inl (mW 44 rfl)) Via.refl F_o46_n (fun T X => ?_)
  refine s_iaload 9 C X d5_8 A_o51 ⟨by decide, by decide⟩ (v := (.int i0)) rfl ?_
  refine s_istore 11 C X (l' := #[rv o46, rv o473, iv i0, iv i1, iv i0]) d5_9 rfl ?_
  refine s_iload 13 C X d5_11 rfl ?_
  refine s_iloadN 14 C X d5_13 rfl ?_
  refine s_iadd 15 C X d5_14 ?_
  refine rc (st' := [(.int i1)]) (by rw [kf_0]) ?_
  refine s_aloadN 16 C X d5_15 rfl rfl ?_
  refine s_getfield 19 C X (host := "") d5_16 (Or.inl (mW 29 rfl)) Via.refl F_o46_v (fun T X => ?_)
  refine s_arraylength 20 C X d5_19 A_o53 ?_
  refine s_icmp_le 48 23 C X d5_20 (fun _ => ?_) (fun c => absurd c (by decide))
  refine s_aloadN 49 C X d5_48 rfl rfl ?_
  refine s_iloadN 50 C X d5_49 rfl ?_
  refine s_aloadN 51 C X d5_50 rfl rfl ?_
  refine s_getfield 54 C X (host := "") d5_51 (Or.inl (mW 29 rfl)) Via.refl F_o46_v (fun T X => ?_)
  refine s_iload 56 C X d5_54 rfl ?_
  refine s_iloadN 57 C X d5_56 rfl ?_
  refine s_arraycopy 60 0 [(.int yF_21), (.int i0), (.int i0), (.int i0), (.int i0), (.int i0), (.int i0), (.int i0)] C X d5_57 (mW 53 rfl) (mW 56 rfl) (mW 54 rfl) (mW 55 rfl) A_o473 A_o53 rfl (by decide) (by decide) (by decide) (by decide) (by decide) (Nat.le_of_ble_eq_true rfl) g_o53 rfl rfl rfl (fun T hh X Kc A_o53 => ?_)
  have F_o46_s := F_o46_s.keep Kc (ninS ne_o46_o53 nin0)
  have F_o46_n := F_o46_n.keep Kc (ninS ne_o46_o53 nin0)
  have A_o51 := A_o51.keep Kc (ninS ne_o51_o53 nin0)
  have Kp := Kp.trans Kc (allS (Or.inl (by simp)) all0)
  refine rc (st' := []) rfl ?_
  refine s_aloadN 61 C X d5_60 rfl rfl ?_
  refine s_getfield 64 C X (host := "") d5_61 (Or.inl (mW 25 rfl)) Via.refl F_o46_s (fun T X => ?_)
  refine s_aloadN 65 C X d5_64 rfl rfl ?_
  refine s_getfield 68 C X (host := "") d5_65 (Or.inl (mW 44 rfl)) Via.refl F_o46_n (fun T X => ?_)
  refine s_iload 70 C X d5_68 rfl ?_
  refine s_iloadN 71 C X d5_70 rfl ?_
  refine s_iadd 72 C X d5_71 ?_
  refine rc (st' := [(.int i1), (.int i1), (.ref o51)]) (by rw [kf_0]) ?_
  refine s_iastore 73 1 C X d5_72 A_o51 g_o51 ⟨by decide, by decide⟩ rfl (Nat.le_of_ble_eq_true rfl) (fun T hh X W A_o51 => ?_)
  have A_o51 : Arv Z _ o51 k_o51 .int i9 [(.int i0), (.int i1), (.int i0), (.int i0), (.int i0), (.int i0), (.int i0), (.int i0), (.int i0)] (.int i0) := A_o51
  have Kp := Kp.wr W (Or.inl (by simp))
  have A_o53 := A_o53.other W (Ne.symm ne_o51_o53)
  refine s_return C X d5_73 rfl ?_ (FG hG (by decide) (by decide))
  exact hQ _ _ ⟨rfl, A_o51, Kp, A_o53⟩
theorem rm_a73 (hw : Hw a0 Z) (o46 : Addr) (k_o47 : ClassId) (k_o48 : ClassId) (k_o49 : ClassId) (k_o50 : ClassId) (k_o51 : ClassId) (o47 : Addr) (o48 : Addr) (o49 : Addr) (o50 : Addr) (o51 : Addr) (o52 : Addr) (o53 : Addr) (t61 : Addr) (t64 : Addr) (t81 : Addr) (h0 : Heap) (n0 : Nat) (Z0 : n0 ≤ h0.size) (E_o46 : Exa Z h0 o46 cE) (F_o46_q : Fld Z h0 o46 cE fq cG (.ref o47)) (F_o46_u : Fld Z h0 o46 cE fu cG (.ref o48)) (F_o46_l : Fld Z h0 o46 cE fl cG (.ref o49)) (F_o46_c : Fld Z h0 o46 cE fc "[I" (.ref o50)) (F_o46_s : Fld Z h0 o46 cE fs "[I" (.ref o51)) (F_o46_g : Fld Z h0 o46 cE fg cG (.ref o52)) (F_o46_v : Fld Z h0 o46 cE fv "[C" (.ref o53)) (F_o46_n : Fld Z h0 o46 cE "length" "I" (.int i1)) (A_o47 : Arv Z h0 o47 k_o47 (.object cS) i8 [(.ref t61), .null, .null, .null, .null, .null, .null, .null] .null) (A_o48 : Arv Z h0 o48 k_o48 (.object cS) i8 [(.ref t64), .null, .null, .null, .null, .null, .null, .null] .null) (A_o49 : Arv Z h0 o49 k_o49 (.object cS) i8 [(.ref t61), .null, .null, .null, .null, .null, .null, .null] .null) (A_o50 : Arv Z h0 o50 k_o50 .int i8 [(.int im1), (.int i0), (.int i0), (.int i0), (.int i0), (.int i0), (.int i0), (.int i0)] (.int i0)) (A_o51 : Arv Z h0 o51 k_o51 .int i9 [(.int i0), (.int i1), (.int i0), (.int i0), (.int i0), (.int i0), (.int i0), (.int i0), (.int i0)] (.int i0)) (E_t81 : Exa Z h0 t81 cS) (g_o46 : n0 ≤ o46) (g_o47 : n0 ≤ o47) (g_o48 : n0 ≤ o48) (g_o49 : n0 ≤ o49) (g_o50 : n0 ≤ o50) (g_o51 : n0 ≤ o51) (ne_o46_o47 : o46 ≠ o47) (ne_o46_o48 : o46 ≠ o48) (ne_o47_o48 : o47 ≠ o48) (ne_o46_o49 : o46 ≠ o49) (ne_o47_o49 : o47 ≠ o49) (ne_o48_o49 : o48 ≠ o49) (ne_o46_o50 : o46 ≠ o50) (ne_o47_o50 : o47 ≠ o50) (ne_o48_o50 : o48 ≠ o50) (ne_o49_o50 : o49 ≠ o50) (ne_o46_o51 : o46 ≠ o51) (ne_o47_o51 : o47 ≠ o51) (ne_o48_o51 : o48 ≠ o51) (ne_o49_o51 : o49 ≠ o51) (ne_o50_o51 : o50 ≠ o51) (O_o47 : Ovr Z k_o47 cS) (O_o48 : Ovr Z k_o48 cS) (O_o49 : Ovr Z k_o49 cS) :
    MetH l Z EL1 [] (⟨cE, "add", "(Ljava/lang/String;I)V"⟩ : MethodName) prog_35_method_9_code 4 none (rM 0 2 4 0) [] #[(.ref o46), (.ref t81), (.int im1)] h0 n0 (fun v h => ∃ (b85 : Addr) (k_b85 : ClassId) (t84 : Addr), v = none ∧ Exa Z h o46 cE ∧ Fld Z h o46 cE fq cG (.ref o47) ∧ Fld Z h o46 cE fu cG (.ref o48) ∧ Fld Z h o46 cE fl cG (.ref o49) ∧ Fld Z h o46 cE fc "[I" (.ref o50) ∧ Fld Z h o46 cE fs "[I" (.ref o51) ∧ Fld Z h o46 cE fg cG (.ref o52) ∧ Fld Z h o46 cE fv "[C" (.ref o53) ∧ Fld Z h o46 cE "length" "I" (.int i2) ∧ Arv Z h o47 k_o47 (.object cS) i8 [(.ref t61), (.ref t81), .null, .null, .null, .null, .null, .null] .null ∧ Arv Z h o48 k_o48 (.object cS) i8 [(.ref t64), (.ref t84), .null, .null, .null, .null, .null, .null] .null ∧ Arv Z h o49 k_o49 (.object cS) i8 [(.ref t61), (.ref t81), .null, .null, .null, .null, .null, .null] .null ∧ Arv Z h o50 k_o50 .int i8 [(.int im1), (.int im1), (.int i0), (.int i0), (.int i0), (.int i0), (.int i0), (.int i0)] (.int i0) ∧ Arv Z h o51 k_o51 .int i9 [(.int i0), (.int i1), (.int i1), (.int i0), (.int i0), (.int i0), (.int i0), (.int i0), (.int i0)] (.int i0) ∧ Keep h0 h [o46, o47, o48, o49, o50, o51] ∧ Exa Z h t84 cS ∧ Fld Z h t84 cS "coder" "B" (.int i0) ∧ Fld Z h t84 cS "value" "[B" (.ref b85) ∧ Arv Z h b85 k_b85 .byte i0 [] (.int i0) ∧ o46 ≠ t84 ∧ o46 ≠ b85 ∧ o47 ≠ t84 ∧ o47 ≠ b85 ∧ o48 ≠ t84 ∧ o48 ≠ b85 ∧ o49 ≠ t84 ∧ o49 ≠ b85 ∧ o50 ≠ t84 ∧ o50 ≠ b85 ∧ o51 ≠ t84 ∧ o51 ≠ b85) := by
  refine MetH.mkQ (tabs := tables_1) (a0 := a0) (ls0 := #[rv o46, rv t81, iv im1, un]) (plainFor_of_name pn_com_example_medis_medis_engine_ElementAttributes) hw Z0 (fun m => by first | (simp [entryFrame, mkF, argsToLocals, Value.category]; done) | rfl) ?_
  intro p e s m below meth c T Q' G' vm k1 hQ hG C X hS Rc hso
  have Kp : Keep h0 h0 [o46, o47, o48, o49, o50, o51] := Keep.refl _ _
  refine s_aloadN 1 C X d4_0 rfl rfl ?_
  refine s_getfield 4 C X (host := "") d4_1 (Or.inl (mW 44 rfl)) Via.refl F_o46_n (fun T X => ?_)
  refine s_aloadN 5 C X d4_4 rfl rfl ?_
  refine s_getfield 8 C X (host := "") d4_5 (Or.inl (mW 16 rfl)) Via.refl F_o46_q (fun T X => ?_)
  refine s_arraylength 9 C X d4_8 A_o47 ?_
  refine s_icmp_ne 105 12 C X d4_9 (fun _ => ?_) (fun c => absurd c (by decide))
  refine s_aloadN 106 C X d4_105 rfl rfl ?_
  refine s_getfield 109 C X (host := "") d4_106 (Or.inl (mW 16 rfl)) Via.refl F_o46_q (fun T X => ?_)
  refine s_aloadN 110 C X d4_109 rfl rfl ?_
  refine s_getfield 113 C X (host := "") d4_110 (Or.inl (mW 44 rfl)) Via.refl F_o46_n (fun T X => ?_)
  refine s_aloadN 114 C X d4_113 rfl rfl ?_
  have Sf : Safe Z EL1 vm _ o47 := (Safe.arv C.2.1.alike A_o47 (by decide))
  refine s_aastore 115 1 C X d4_114 A_o47 rfl rfl (fun _ A q => Sto.ofV A q O_o47 (Ins.self E_t81)) g_o47 ⟨by decide, by decide⟩ rfl (Nat.le_of_ble_eq_true rfl) (fun T hh X W A_o47 => ?_)
  have A_o47 : Arv Z _ o47 k_o47 (.object cS) i8 [(.ref t61), (.ref t81), .null, .null, .null, .null, .null, .null] .null := A_o47
  have Rc := Rc.wr W Sf
  have E_o46 := E_o46.wr W
  have F_o46_q := F_o46_q.other W (Or.inl ne_o46_o47)
  have F_o46_u := F_o46_u.other W (Or.inl ne_o46_o47)
  have F_o46_l := F_o46_l.other W (Or.inl ne_o46_o47)
  have F_o46_c := F_o46_c.other W (Or.inl ne_o46_o47)
  have F_o46_s := F_o46_s.other W (Or.inl ne_o46_o47)
  have F_o46_g := F_o46_g.other W (Or.inl ne_o46_o47)
  have F_o46_v := F_o46_v.other W (Or.inl ne_o46_o47)
  have F_o46_n := F_o46_n.other W (Or.inl ne_o46_o47)
  have A_o48 := A_o48.other W (Ne.symm ne_o47_o48)
  have A_o49 := A_o49.other W (Ne.symm ne_o47_o49)
  have A_o50 := A_o50.other W (Ne.symm ne_o47_o50)
  have A_o51 := A_o51.other W (Ne.symm ne_o47_o51)
  have E_t81 := E_t81.wr W
  have Kp := Kp.wr W (Or.inl (by simp))
  refine s_aloadN 116 C X d4_115 rfl rfl ?_
  refine s_getfield 119 C X (host := "") d4_116 (Or.inl (mW 23 rfl)) Via.refl F_o46_c (fun T X => ?_)
  refine s_aloadN 120 C X d4_119 rfl rfl ?_
  refine s_getfield 123 C X (host := "") d4_120 (Or.inl (mW 44 rfl)) Via.refl F_o46_n (fun T X => ?_)
  refine s_iloadN 124 C X d4_123 rfl ?_
  have Sf : Safe Z EL1 vm _ o50 := (Safe.arv C.2.1.alike A_o50 (by decide))
  refine s_iastore 125 1 C X d4_124 A_o50 g_o50 ⟨by decide, by decide⟩ rfl (Nat.le_of_ble_eq_true rfl) (fun T hh X W A_o50 => ?_)
  have A_o50 : Arv Z _ o50 k_o50 .int i8 [(.int im1), (.int im1), (.int i0), (.int i0), (.int i0), (.int i0), (.int i0), (.int i0)] (.int i0) := A_o50
  have Rc := Rc.wr W Sf
  have E_o46 := E_o46.wr W
  have F_o46_q := F_o46_q.other W (Or.inl ne_o46_o50)
  have F_o46_u := F_o46_u.other W (Or.inl ne_o46_o50)
  have F_o46_l := F_o46_l.other W (Or.inl ne_o46_o50)
  have F_o46_c := F_o46_c.other W (Or.inl ne_o46_o50)
  have F_o46_s := F_o46_s.other W (Or.inl ne_o46_o50)
  have F_o46_g := F_o46_g.other W (Or.inl ne_o46_o50)
  have F_o46_v := F_o46_v.other W (Or.inl ne_o46_o50)
  have F_o46_n := F_o46_n.other W (Or.inl ne_o46_o50)
  have A_o47 := A_o47.other W ne_o47_o50
  have A_o48 := A_o48.other W ne_o48_o50
  have A_o49 := A_o49.other W ne_o49_o50
  have A_o51 := A_o51.other W (Ne.symm ne_o50_o51)
  have E_t81 := E_t81.wr W
  have Kp := Kp.wr W (Or.inl (by simp))
  refine s_aloadN 126 C X d4_125 rfl rfl ?_
  refine s_getfield 129 C X (host := "") d4_126 (Or.inl (mW 18 rfl)) Via.refl F_o46_u (fun T X => ?_)
  refine s_aloadN 130 C X d4_129 rfl rfl ?_
  refine s_getfield 133 C X (host := "") d4_130 (Or.inl (mW 44 rfl)) Via.refl F_o46_n (fun T X => ?_)
  refine s_ldcH 135 0 C X hS Rc.2 (own_EL hw) Rc.1.1 d4_133 (mW 47 rfl) (own_wS hw) (vs := []) (z := i0) (by decide) ⟨by decide, rfl⟩ (by decide) rfl (fun T hh t84 b85 k_b85 vm k1 C X E hS Nk Rn E_t84 F_t84_k F_t84_a A_b85 nS => ?_)
  have Rc := Rc.call Rn Nk
  have E_o46 := E_o46.ext E
  have F_o46_q := F_o46_q.ext E
  have F_o46_u := F_o46_u.ext E
  have F_o46_l := F_o46_l.ext E
  have F_o46_c := F_o46_c.ext E
  have F_o46_s := F_o46_s.ext E
  have F_o46_g := F_o46_g.ext E
  have F_o46_v := F_o46_v.ext E
  have F_o46_n := F_o46_n.ext E
  have A_o47 := A_o47.ext E
  have A_o48 := A_o48.ext E
  have A_o49 := A_o49.ext E
  have A_o50 := A_o50.ext E
  have A_o51 := A_o51.ext E
  have E_t81 := E_t81.ext E
  have Kp := Kp.ext E
  have ne_o46_t84 : o46 ≠ t84 := (nS o46 (Safe.exa C.2.1.alike E_o46 (by decide) (by decide))).1
  have ne_o46_b85 : o46 ≠ b85 := (nS o46 (Safe.exa C.2.1.alike E_o46 (by decide) (by decide))).2
  have ne_o47_t84 : o47 ≠ t84 := (nS o47 (Safe.arv C.2.1.alike A_o47 (by decide))).1
  have ne_o47_b85 : o47 ≠ b85 := (nS o47 (Safe.arv C.2.1.alike A_o47 (by decide))).2
  have ne_o48_t84 : o48 ≠ t84 := (nS o48 (Safe.arv C.2.1.alike A_o48 (by decide))).1
  have ne_o48_b85 : o48 ≠ b85 := (nS o48 (Safe.arv C.2.1.alike A_o48 (by decide))).2
  have ne_o49_t84 : o49 ≠ t84 := (nS o49 (Safe.arv C.2.1.alike A_o49 (by decide))).1
  have ne_o49_b85 : o49 ≠ b85 := (nS o49 (Safe.arv C.2.1.alike A_o49 (by decide))).2
  have ne_o50_t84 : o50 ≠ t84 := (nS o50 (Safe.arv C.2.1.alike A_o50 (by decide))).1
  have ne_o50_b85 : o50 ≠ b85 := (nS o50 (Safe.arv C.2.1.alike A_o50 (by decide))).2
  have ne_o51_t84 : o51 ≠ t84 := (nS o51 (Safe.arv C.2.1.alike A_o51 (by decide))).1
  have ne_o51_b85 : o51 ≠ b85 := (nS o51 (Safe.arv C.2.1.alike A_o51 (by decide))).2
  have Sf : Safe Z EL1 vm _ o48 := (Safe.arv C.2.1.alike A_o48 (by decide))
  refine s_aastore 136 1 C X d4_135 A_o48 rfl rfl (fun _ A q => Sto.ofV A q O_o48 (Ins.self E_t84)) g_o48 ⟨by decide, by decide⟩ rfl (Nat.le_of_ble_eq_true rfl) (fun T hh X W A_o48 => ?_)
  have A_o48 : Arv Z _ o48 k_o48 (.object cS) i8 [(.ref t64), (.ref t84), .null, .null, .null, .null, .null, .null] .null := A_o48
  have Rc := Rc.wr W Sf
  have E_o46 := E_o46.wr W
  have F_o46_q := F_o46_q.other W (Or.inl ne_o46_o48)
  have F_o46_u := F_o46_u.other W (Or.inl ne_o46_o48)
  have F_o46_l := F_o46_l.other W (Or.inl ne_o46_o48)
  have F_o46_c := F_o46_c.other W (Or.inl ne_o46_o48)
  have F_o46_s := F_o46_s.other W (Or.inl ne_o46_o48)
  have F_o46_g := F_o46_g.other W (Or.inl ne_o46_o48)
  have F_o46_v := F_o46_v.other W (Or.inl ne_o46_o48)
  have F_o46_n := F_o46_n.other W (Or.inl ne_o46_o48)
  have A_o47 := A_o47.other W ne_o47_o48
  have A_o49 := A_o49.other W (Ne.symm ne_o48_o49)
  have A_o50 := A_o50.other W (Ne.symm ne_o48_o50)
  have A_o51 := A_o51.other W (Ne.symm ne_o48_o51)
  have E_t81 := E_t81.wr W
  have Kp := Kp.wr W (Or.inl (by simp))
  have E_t84 := E_t84.wr W
  have F_t84_k := F_t84_k.other W (Or.inl (Ne.symm ne_o48_t84))
  have F_t84_a := F_t84_a.other W (Or.inl (Ne.symm ne_o48_t84))
  have A_b85 := A_b85.other W (Ne.symm ne_o48_b85)
  refine s_aloadN 137 C X d4_136 rfl rfl ?_
  refine s_getfield 140 C X (host := "") d4_137 (Or.inl (mW 20 rfl)) Via.refl F_o46_l (fun T X => ?_)
  refine s_aloadN 141 C X d4_140 rfl rfl ?_
  refine s_getfield 144 C X (host := "") d4_141 (Or.inl (mW 44 rfl)) Via.refl F_o46_n (fun T X => ?_)
  refine s_aloadN 145 C X d4_144 rfl rfl ?_
  have Sf : Safe Z EL1 vm _ o49 := (Safe.arv C.2.1.alike A_o49 (by decide))
  refine s_aastore 146 1 C X d4_145 A_o49 rfl rfl (fun _ A q => Sto.ofV A q O_o49 (Ins.self E_t81)) g_o49 ⟨by decide, by decide⟩ rfl (Nat.le_of_ble_eq_true rfl) (fun T hh X W A_o49 => ?_)
  have A_o49 : Arv Z _ o49 k_o49 (.object cS) i8 [(.ref t61), (.ref t81), .null, .null, .null, .null, .null, .null] .null := A_o49
  have Rc := Rc.wr W Sf
  have E_o46 := E_o46.wr W
  have F_o46_q := F_o46_q.other W (Or.inl ne_o46_o49)
  have F_o46_u := F_o46_u.other W (Or.inl ne_o46_o49)
  have F_o46_l := F_o46_l.other W (Or.inl ne_o46_o49)
  have F_o46_c := F_o46_c.other W (Or.inl ne_o46_o49)
  have F_o46_s := F_o46_s.other W (Or.inl ne_o46_o49)
  have F_o46_g := F_o46_g.other W (Or.inl ne_o46_o49)
  have F_o46_v := F_o46_v.other W (Or.inl ne_o46_o49)
  have F_o46_n := F_o46_n.other W (Or.inl ne_o46_o49)
  have A_o47 := A_o47.other W ne_o47_o49
  have A_o48 := A_o48.other W ne_o48_o49
  have A_o50 := A_o50.other W (Ne.symm ne_o49_o50)
  have A_o51 := A_o51.other W (Ne.symm ne_o49_o51)
  have Kp := Kp.wr W (Or.inl (by simp))
  have E_t84 := E_t84.wr W
  have F_t84_k := F_t84_k.other W (Or.inl (Ne.symm ne_o49_t84))
  have F_t84_a := F_t84_a.other W (Or.inl (Ne.symm ne_o49_t84))
  have A_b85 := A_b85.other W (Ne.symm ne_o49_b85)
  refine s_aloadN 147 C X d4_146 rfl rfl ?_
  refine s_getfield 150 C X (host := "") d4_147 (Or.inl (mW 25 rfl)) Via.refl F_o46_s (fun T X => ?_)
  refine s_aloadN 151 C X d4_150 rfl rfl ?_
  refine s_getfield 154 C X (host := "") d4_151 (Or.inl (mW 44 rfl)) Via.refl F_o46_n (fun T X => ?_)
  refine s_iconst 155 C X d4_154 kc_iconst_1 ?_
  refine s_iadd 156 C X d4_155 ?_
  refine rc (st' := [(.int i2), (.ref o51)]) (by rw [kf_7]) ?_
  refine s_aloadN 157 C X d4_156 rfl rfl ?_
  refine s_getfield 160 C X (host := "") d4_157 (Or.inl (mW 25 rfl)) Via.refl F_o46_s (fun T X => ?_)
  refine s_aloadN 161 C X d4_160 rfl rfl ?_
  refine s_getfield 164 C X (host := "") d4_161 (Or.inl (mW 44 rfl)) Via.refl F_o46_n (fun T X => ?_)
  refine s_iaload 165 C X d4_164 A_o51 ⟨by decide, by decide⟩ (v := (.int i1)) rfl ?_
  have Sf : Safe Z EL1 vm _ o51 := (Safe.arv C.2.1.alike A_o51 (by decide))
  refine s_iastore 166 2 C X d4_165 A_o51 g_o51 ⟨by decide, by decide⟩ rfl (Nat.le_of_ble_eq_true rfl) (fun T hh X W A_o51 => ?_)
  have A_o51 : Arv Z _ o51 k_o51 .int i9 [(.int i0), (.int i1), (.int i1), (.int i0), (.int i0), (.int i0), (.int i0), (.int i0), (.int i0)] (.int i0) := A_o51
  have Rc := Rc.wr W Sf
  have E_o46 := E_o46.wr W
  have F_o46_q := F_o46_q.other W (Or.inl ne_o46_o51)
  have F_o46_u := F_o46_u.other W (Or.inl ne_o46_o51)
  have F_o46_l := F_o46_l.other W (Or.inl ne_o46_o51)
  have F_o46_c := F_o46_c.other W (Or.inl ne_o46_o51)
  have F_o46_s := F_o46_s.other W (Or.inl ne_o46_o51)
  have F_o46_g := F_o46_g.other W (Or.inl ne_o46_o51)
  have F_o46_v := F_o46_v.other W (Or.inl ne_o46_o51)
  have F_o46_n := F_o46_n.other W (Or.inl ne_o46_o51)
  have A_o47 := A_o47.other W ne_o47_o51
  have A_o48 := A_o48.other W ne_o48_o51
  have A_o49 := A_o49.other W ne_o49_o51
  have A_o50 := A_o50.other W ne_o50_o51
  have Kp := Kp.wr W (Or.inl (by simp))
  have E_t84 := E_t84.wr W
  have F_t84_k := F_t84_k.other W (Or.inl (Ne.symm ne_o51_t84))
  have F_t84_a := F_t84_a.other W (Or.inl (Ne.symm ne_o51_t84))
  have A_b85 := A_b85.other W (Ne.symm ne_o51_b85)
  refine s_aloadN 167 C X d4_166 rfl rfl ?_
  refine s_dup 168 C X d4_167 rfl ?_
  refine s_getfield 171 C X (host := "") d4_168 (Or.inl (mW 44 rfl)) Via.refl F_o46_n (fun T X => ?_)
  refine s_iconst 172 C X d4_171 kc_iconst_1 ?_
  refine s_iadd 173 C X d4_172 ?_
  refine rc (st' := [(.int i2), (.ref o46)]) (by rw [kf_7]) ?_
  refine s_putfield 176 C X (host := "") d4_173 (Or.inl (mW 44 rfl)) Via.refl F_o46_n E_o46 (Or.inl (mW 45 rfl)) (mW 6 rfl) (ty := .int) (by decide) rfl rfl g_o46 (fun T hh X W => ?_)
  have Sf : Safe Z EL1 vm _ o46 := (Safe.exa C.2.1.alike E_o46 (by decide) (by decide))
  have Rc := Rc.wr W Sf
  have E_o46 := E_o46.wr W
  have F_o46_q := oth F_o46_q W (Or.inl (hw _ (mW 17 rfl))) (Or.inl (hw _ (mW 45 rfl))) (by decide)
  have F_o46_u := oth F_o46_u W (Or.inl (hw _ (mW 19 rfl))) (Or.inl (hw _ (mW 45 rfl))) (by decide)
  have F_o46_l := oth F_o46_l W (Or.inl (hw _ (mW 21 rfl))) (Or.inl (hw _ (mW 45 rfl))) (by decide)
  have F_o46_c := oth F_o46_c W (Or.inl (hw _ (mW 24 rfl))) (Or.inl (hw _ (mW 45 rfl))) (by decide)
  have F_o46_s := oth F_o46_s W (Or.inl (hw _ (mW 26 rfl))) (Or.inl (hw _ (mW 45 rfl))) (by decide)
  have F_o46_g := oth F_o46_g W (Or.inl (hw _ (mW 28 rfl))) (Or.inl (hw _ (mW 45 rfl))) (by decide)
  have F_o46_v := oth F_o46_v W (Or.inl (hw _ (mW 30 rfl))) (Or.inl (hw _ (mW 45 rfl))) (by decide)
  have F_o46_n := F_o46_n.same W
  have A_o47 := A_o47.other W (Ne.symm ne_o46_o47)
  have A_o48 := A_o48.other W (Ne.symm ne_o46_o48)
  have A_o49 := A_o49.other W (Ne.symm ne_o46_o49)
  have A_o50 := A_o50.other W (Ne.symm ne_o46_o50)
  have A_o51 := A_o51.other W (Ne.symm ne_o46_o51)
  have Kp := Kp.wr W (Or.inl (by simp))
  have E_t84 := E_t84.wr W
  have F_t84_k := F_t84_k.other W (Or.inl (Ne.symm ne_o46_t84))
  have F_t84_a := F_t84_a.other W (Or.inl (Ne.symm ne_o46_t84))
  have A_b85 := A_b85.other W (Ne.symm ne_o46_b85)
  refine s_return C X d4_176 rfl ?_ (FGH hG hS Rc C (own_EL hw))
  exact hQ _ _ ⟨b85, k_b85, t84, rfl, E_o46, F_o46_q, F_o46_u, F_o46_l, F_o46_c, F_o46_s, F_o46_g, F_o46_v, F_o46_n, A_o47, A_o48, A_o49, A_o50, A_o51, Kp, E_t84, F_t84_k, F_t84_a, A_b85, ne_o46_t84, ne_o46_b85, ne_o47_t84, ne_o47_b85, ne_o48_t84, ne_o48_b85, ne_o49_t84, ne_o49_b85, ne_o50_t84, ne_o50_b85, ne_o51_t84, ne_o51_b85⟩
theorem rm_a74 (hw : Hw a0 Z) (yF : Int32) (yF_5 : Int32) (yF_9 : Int32) (yF_13 : Int32) (yF_17 : Int32) (yF_21 : Int32) (nv27 : Int32) (o29 : Addr) (o46 : Addr) (k_o29 : ClassId) (k_o51 : ClassId) (k_o53 : ClassId) (o51 : Addr) (o53 : Addr) (h0 : Heap) (n0 : Nat) (Z0 : n0 ≤ h0.size) (A_o29 : Arv Z h0 o29 k_o29 .char i5 [(.int yF), (.int yF_5), (.int yF_9), (.int yF_13), (.int yF_17)] (.int i0)) (A_o53 : Arv Z h0 o53 k_o53 .char i256 [(.int yF_21), (.int i0), (.int i0), (.int i0), (.int i0), (.int i0), (.int i0), (.int i0)] (.int i0)) (F_o46_s : Fld Z h0 o46 cE fs "[I" (.ref o51)) (F_o46_v : Fld Z h0 o46 cE fv "[C" (.ref o53)) (F_o46_n : Fld Z h0 o46 cE "length" "I" (.int i2)) (A_o51 : Arv Z h0 o51 k_o51 .int i9 [(.int i0), (.int i1), (.int i1), (.int i0), (.int i0), (.int i0), (.int i0), (.int i0), (.int i0)] (.int i0)) (hv_nv27 : own_N nv27) (ne_o29_o51 : o29 ≠ o51) (g_o51 : n0 ≤ o51) (ne_o29_o53 : o29 ≠ o53) (g_o53 : n0 ≤ o53) (ne_o46_o51 : o46 ≠ o51) (ne_o46_o53 : o46 ≠ o53) (ne_o51_o53 : o51 ≠ o53) :
    Met l Z (⟨cE, "append", "([CII)V"⟩ : MethodName) prog_35_method_12_code 5 none (rM 1 0 0 40) [] #[(.ref o46), (.ref o29), (.int i0), (.int nv27)] h0 n0 (fun v h => v = none ∧ Arv Z h o51 k_o51 .int i9 [(.int i0), (.int i1), (.int (i1 + nv27)), (.int i0), (.int i0), (.int i0), (.int i0), (.int i0), (.int i0)] (.int i0) ∧ Keep h0 h [o51, o53] ∧ Arv Z h o53 k_o53 .char i256 (Y (own_ap [yF_21] [yF, yF_5, yF_9, yF_13, yF_17] (nv27).toNatClampNeg)) (.int i0)) := by
  refine Met.mkQ (tabs := tables_1) (a0 := a0) (ls0 := #[rv o46, rv o29, iv i0, iv nv27, un]) (plainFor_of_name pn_com_example_medis_medis_engine_ElementAttributes) hw Z0 (fun m => by first | (simp [entryFrame, mkF, argsToLocals, Value.category]; done) | rfl) ?_
  intro p e s m below meth c T Q' G' hQ hG C X
  have Kp : Keep h0 h0 [o51, o53] := Keep.refl _ _
  refine s_aloadN 1 C X d5_0 rfl rfl ?_
  refine s_getfield 4 C X (host := "") d5_1 (Or.inl (mW 25 rfl)) Via.refl F_o46_s (fun T X => ?_)
  refine s_aloadN 5 C X d5_4 rfl rfl ?_
  refine s_getfield 8 C X (host := "") d5_5 (Or.inl (mW 44 rfl)) Via.refl F_o46_n (fun T X => ?_)
  refine s_iaload 9 C X d5_8 A_o51 ⟨by decide, by decide⟩ (v := (.int i1)) rfl ?_
  refine s_istore 11 C X (l' := #[rv o46, rv o29, iv i0, iv nv27, iv i1]) d5_9 rfl ?_
  refine s_iload 13 C X d5_11 rfl ?_
  refine s_iloadN 14 C X d5_13 rfl ?_
  refine s_iadd 15 C X d5_14 ?_
  refine s_aloadN 16 C X d5_15 rfl rfl ?_
  refine s_getfield 19 C X (host := "") d5_16 (Or.inl (mW 29 rfl)) Via.refl F_o46_v (fun T X => ?_)
  refine s_arraylength 20 C X d5_19 A_o53 ?_
  refine s_icmp_le 48 23 C X d5_20 (fun c20_87 => ?_) (fun c => absurd c (own_gt hv_nv27 rfl (by decide)))
  refine s_aloadN 49 C X d5_48 rfl rfl ?_
  refine s_iloadN 50 C X d5_49 rfl ?_
  refine s_aloadN 51 C X d5_50 rfl rfl ?_
  refine s_getfield 54 C X (host := "") d5_51 (Or.inl (mW 29 rfl)) Via.refl F_o46_v (fun T X => ?_)
  refine s_iload 56 C X d5_54 rfl ?_
  refine s_iloadN 57 C X d5_56 rfl ?_
  refine s_arraycopy 60 0 (Y (own_ap [yF_21] [yF, yF_5, yF_9, yF_13, yF_17] (nv27).toNatClampNeg)) C X d5_57 (mW 53 rfl) (mW 56 rfl) (mW 54 rfl) (mW 55 rfl) A_o29 A_o53 rfl (by decide) (by decide) (own_nn hv_nv27).1 (own_c5 hv_nv27) (own_c256 hv_nv27) (own_c8 hv_nv27) g_o53 (own_cp1 hv_nv27) rfl rfl (fun T hh X Kc A_o53 => ?_)
  have F_o46_s := F_o46_s.keep Kc (ninS ne_o46_o53 nin0)
  have F_o46_n := F_o46_n.keep Kc (ninS ne_o46_o53 nin0)
  have A_o51 := A_o51.keep Kc (ninS ne_o51_o53 nin0)
  have Kp := Kp.trans Kc (allS (Or.inl (by simp)) all0)
  refine rc (st' := []) rfl ?_
  refine s_aloadN 61 C X d5_60 rfl rfl ?_
  refine s_getfield 64 C X (host := "") d5_61 (Or.inl (mW 25 rfl)) Via.refl F_o46_s (fun T X => ?_)
  refine s_aloadN 65 C X d5_64 rfl rfl ?_
  refine s_getfield 68 C X (host := "") d5_65 (Or.inl (mW 44 rfl)) Via.refl F_o46_n (fun T X => ?_)
  refine s_iload 70 C X d5_68 rfl ?_
  refine s_iloadN 71 C X d5_70 rfl ?_
  refine s_iadd 72 C X d5_71 ?_
  refine s_iastore 73 2 C X d5_72 A_o51 g_o51 ⟨by decide, by decide⟩ rfl (Nat.le_of_ble_eq_true rfl) (fun T hh X W A_o51 => ?_)
  have A_o51 : Arv Z _ o51 k_o51 .int i9 [(.int i0), (.int i1), (.int (i1 + nv27)), (.int i0), (.int i0), (.int i0), (.int i0), (.int i0), (.int i0)] (.int i0) := A_o51
  have Kp := Kp.wr W (Or.inl (by simp))
  have A_o53 := A_o53.other W (Ne.symm ne_o51_o53)
  refine s_return C X d5_73 rfl ?_ (FG hG (by decide) (by decide))
  exact hQ _ _ ⟨rfl, A_o51, Kp, A_o53⟩
theorem rm_a75 (hw : Hw a0 Z) (yF : Int32) (yF_5 : Int32) (yF_9 : Int32) (yF_13 : Int32) (yF_17 : Int32) (yF_21 : Int32) (nv27 : Int32) (o46 : Addr) (k_o51 : ClassId) (k_o53 : ClassId) (o51 : Addr) (o53 : Addr) (h0 : Heap) (n0 : Nat) (Z0 : n0 ≤ h0.size) (F_o46_s : Fld Z h0 o46 cE fs "[I" (.ref o51)) (F_o46_v : Fld Z h0 o46 cE fv "[C" (.ref o53)) (F_o46_n : Fld Z h0 o46 cE "length" "I" (.int i2)) (A_o51 : Arv Z h0 o51 k_o51 .int i9 [(.int i0), (.int i1), (.int (i1 + nv27)), (.int i0), (.int i0), (.int i0), (.int i0), (.int i0), (.int i0)] (.int i0)) (A_o53 : Arv Z h0 o53 k_o53 .char i256 (Y (own_ap [yF_21] [yF, yF_5, yF_9, yF_13, yF_17] (nv27).toNatClampNeg)) (.int i0)) (hvB : own_B yF) (hvB_6 : own_B yF_5) (hvB_10 : own_B yF_9) (hvB_14 : own_B yF_13) (hvB_18 : own_B yF_17) (hv_nv27 : own_N nv27) (g_o51 : n0 ≤ o51) (g_o53 : n0 ≤ o53) (ne_o46_o51 : o46 ≠ o51) (ne_o46_o53 : o46 ≠ o53) (ne_o51_o53 : o51 ≠ o53) :
    Met l Z (⟨cE, "collapseLast", "()V"⟩ : MethodName) prog_35_method_13_code 5 none (rM 0 0 0 0) [] #[(.ref o46)] h0 n0 (fun v h => ∃ (tF : Int32) (xsF : List Int32), v = none ∧ own_C 1 [yF_21] [yF, yF_5, yF_9, yF_13, yF_17] nv27 xsF tF ∧ Arv Z h o51 k_o51 .int i9 [(.int i0), (.int i1), (.int tF), (.int i0), (.int i0), (.int i0), (.int i0), (.int i0), (.int i0)] (.int i0) ∧ Arv Z h o53 k_o53 .char i256 (Y xsF) (.int i0) ∧ Keep h0 h [o51, o53]) := by
  refine Met.mkQ (tabs := tables_1) (a0 := a0) (ls0 := #[rv o46, un, un, un, un]) (plainFor_of_name pn_com_example_medis_medis_engine_ElementAttributes) hw Z0 (fun m => by first | (simp [entryFrame, mkF, argsToLocals, Value.category]; done) | rfl) ?_
  intro p e s m below meth c T Q' G' hQ hG C X
  have Kp : Keep h0 h0 [o51, o53] := Keep.refl _ _
  refine s_aloadN 1 C X d6_0 rfl rfl ?_
  refine s_getfield 4 C X (host := "") d6_1 (Or.inl (mW 25 rfl)) Via.refl F_o46_s (fun T X => ?_)
  refine s_aloadN 5 C X d6_4 rfl rfl ?_
  refine s_getfield 8 C X (host := "") d6_5 (Or.inl (mW 44 rfl)) Via.refl F_o46_n (fun T X => ?_)
  refine s_iconst 9 C X d6_8 kc_iconst_1 ?_
  refine s_isub 10 C X d6_9 ?_
  refine rc (st' := [(.int i1), (.ref o51)]) (by rw [kf_8]) ?_
  refine s_iaload 11 C X d6_10 A_o51 ⟨by decide, by decide⟩ (v := (.int i1)) rfl ?_
  refine s_istoreN 12 C X (l' := #[rv o46, iv i1, un, un, un]) d6_11 rfl ?_
  refine s_aloadN 13 C X d6_12 rfl rfl ?_
  refine s_getfield 16 C X (host := "") d6_13 (Or.inl (mW 25 rfl)) Via.refl F_o46_s (fun T X => ?_)
  refine s_aloadN 17 C X d6_16 rfl rfl ?_
  refine s_getfield 20 C X (host := "") d6_17 (Or.inl (mW 44 rfl)) Via.refl F_o46_n (fun T X => ?_)
  refine s_iaload 21 C X d6_20 A_o51 ⟨by decide, by decide⟩ (v := (.int (i1 + nv27))) rfl ?_
  obtain ⟨en89, e_en89⟩ : ∃ zz_ : Int32, zz_ = (i1 + nv27) := ⟨_, rfl⟩
  refine rc (st' := [(.int en89)]) (by subst e_en89; rfl) ?_
  have hve_en89 : en89.toInt = (1 : Int) + nv27.toInt := own_en e_en89 hv_nv27 rfl (by decide)
  refine s_istoreN 22 C X (l' := #[rv o46, iv i1, iv en89, un, un]) d6_21 rfl ?_
  refine s_iloadN 23 C X d6_22 rfl ?_
  refine s_istoreN 24 C X (l' := #[rv o46, iv i1, iv en89, iv i1, un]) d6_23 rfl ?_
  refine s_iloadN 25 C X d6_24 rfl ?_
  refine s_istore 27 C X (l' := #[rv o46, iv i1, iv en89, iv i1, iv i1]) d6_25 rfl ?_
  have I90 : own_I 1 [yF_21] [yF, yF_5, yF_9, yF_13, yF_17] 0 nv27 (own_ap [yF_21] [yF, yF_5, yF_9, yF_13, yF_17] (nv27).toNatClampNeg) i1 [] := own_I0 hv_nv27 (by decide) rfl (by decide)
  suffices J27 : ∀ (k i : Nat) (T : State) (hh : Heap) (fr t : Int32) (xs out : List Int32), i + k = 5 → fr.toInt = ((1 : Nat) : Int) + i → own_I 1 [yF_21] [yF, yF_5, yF_9, yF_13, yF_17] i nv27 xs t out → (List.take i [yF, yF_5, yF_9, yF_13, yF_17]).foldl cst [] = out → (i : Int) ≤ nv27.toInt → ∀ (X : St p l e (rM 0 0 0 0) s m #[(.ref o46)] below meth c n0 T hh 0 0) (F_o46_s : Fld Z hh o46 cE fs "[I" (.ref o51)) (F_o46_v : Fld Z hh o46 cE fv "[C" (.ref o53)) (F_o46_n : Fld Z hh o46 cE "length" "I" (.int i2)) (A_o51 : Arv Z hh o51 k_o51 .int i9 [(.int i0), (.int i1), (.int (i1 + nv27)), (.int i0), (.int i0), (.int i0), (.int i0), (.int i0), (.int i0)] (.int i0)) (A_o53 : Arv Z hh o53 k_o53 .char i256 (Y xs) (.int i0)) (Kp : Keep h0 hh [o51, o53]), Run p e below n0 Q' G' m T 27 #[rv o46, iv i1, iv en89, iv t, iv fr] [] by
    exact J27 5 0 T _ i1 i1 _ [] rfl (by decide) I90 rfl hv_nv27.1 X F_o46_s F_o46_v F_o46_n A_o51 A_o53 Kp
  intro k
  induction k with
  | zero =>
    intro i T hh fr t xs out hk hf I ho hi X F_o46_s F_o46_v F_o46_n A_o51 A_o53 Kp
    obtain rfl : i = 5 := by omega
    refine s_iload 29 C X d6_27 rfl ?_
    refine s_iloadN 30 C X d6_29 rfl ?_
    refine s_icmp_ge 99 33 C X d6_30 (fun c30_91 => ?_) (fun c => absurd c (own_sti hv_nv27 hve_en89 hf))
    have hn_i : nv27.toInt = ((5 : Nat) : Int) := own_ex5i hi hv_nv27
    refine s_iloadN 100 C X d6_99 rfl ?_
    refine s_iloadN 101 C X d6_100 rfl ?_
    suffices J96 : ∀ (T : State) (hh : Heap) (y95 : Int32) (D96 : ((¬ ((1 : Int) < (t).toInt)) ∧ y95 = t) ∨ (((1 : Int) < (t).toInt) ∧ (¬ (((xs.getD ((t - i1)).toNatClampNeg 0)).toInt = (32 : Int))) ∧ y95 = t) ∨ (((1 : Int) < (t).toInt) ∧ (((xs.getD ((t - i1)).toNatClampNeg 0)).toInt = (32 : Int)) ∧ y95 = (t + im1))) (X : St p l e (rM 0 0 0 0) s m #[(.ref o46)] below meth c n0 T hh 0 0) (F_o46_s : Fld Z hh o46 cE fs "[I" (.ref o51)) (F_o46_n : Fld Z hh o46 cE "length" "I" (.int i2)) (A_o51 : Arv Z hh o51 k_o51 .int i9 [(.int i0), (.int i1), (.int (i1 + nv27)), (.int i0), (.int i0), (.int i0), (.int i0), (.int i0), (.int i0)] (.int i0)) (A_o53 : Arv Z hh o53 k_o53 .char i256 (Y xs) (.int i0)) (Kp : Keep h0 hh [o51, o53]), Run p e below n0 Q' G' m T 120 #[rv o46, iv i1, iv en89, iv y95, iv fr] [] by
      refine s_icmp_le 120 104 C X d6_101 (fun c101_92 => ?_) (fun c101_92 => ?_)
      · have t_c101_92 := inl c101_92
        exact J96 T _ (t) ((Or.inl ⟨t_c101_92, rfl⟩)) X F_o46_s F_o46_n A_o51 A_o53 Kp
      have t_c101_92 := ilt c101_92
      refine s_aloadN 105 C X d6_104 rfl rfl ?_
      refine s_getfield 108 C X (host := "") d6_105 (Or.inl (mW 29 rfl)) Via.refl F_o46_v (fun T X => ?_)
      refine s_iloadN 109 C X d6_108 rfl ?_
      refine s_iconst 110 C X d6_109 kc_iconst_1 ?_
      refine s_isub 111 C X d6_110 ?_
      refine s_caload 112 C X d6_111 A_o53 (own_ix1 I (by decide) (by decide) rfl t_c101_92) (v := (.int (xs.getD ((t - i1)).toNatClampNeg 0))) (own_getX _ _) ?_
      refine s_bipush 114 C X d6_112 kc_bipush_32 ?_
      refine s_icmp_ne 120 117 C X d6_114 (fun c114_93 => ?_) (fun c114_93 => ?_)
      · have t_c114_93 := ine c114_93
        exact J96 T _ (t) (Or.inr (Or.inl ⟨t_c101_92, t_c114_93, rfl⟩)) X F_o46_s F_o46_n A_o51 A_o53 Kp
      have t_c114_93 := ieq c114_93
      refine s_iinc 120 C X (l' := #[rv o46, iv i1, iv en89, .val (.int (t + im1)), iv fr]) d6_117 kc_iconst_m1 rfl rfl ?_
      exact J96 T _ ((t + im1)) (Or.inr (Or.inr ⟨t_c101_92, t_c114_93, rfl⟩)) X F_o46_s F_o46_n A_o51 A_o53 Kp
    intro T hh y95 D96  X F_o46_s F_o46_n A_o51 A_o53 Kp
    have hC : own_C 1 [yF_21] [yF, yF_5, yF_9, yF_13, yF_17] nv27 xs y95 := own_fin I (by decide) (by decide) hn_i ho rfl D96
    refine s_aloadN 121 C X d6_120 rfl rfl ?_
    refine s_getfield 124 C X (host := "") d6_121 (Or.inl (mW 25 rfl)) Via.refl F_o46_s (fun T X => ?_)
    refine s_aloadN 125 C X d6_124 rfl rfl ?_
    refine s_getfield 128 C X (host := "") d6_125 (Or.inl (mW 44 rfl)) Via.refl F_o46_n (fun T X => ?_)
    refine s_iloadN 129 C X d6_128 rfl ?_
    refine s_iastore 130 2 C X d6_129 A_o51 g_o51 ⟨by decide, by decide⟩ rfl (Nat.le_of_ble_eq_true rfl) (fun T hh X W A_o51 => ?_)
    have A_o51 : Arv Z _ o51 k_o51 .int i9 [(.int i0), (.int i1), (.int y95), (.int i0), (.int i0), (.int i0), (.int i0), (.int i0), (.int i0)] (.int i0) := A_o51
    have A_o53 := A_o53.other W (Ne.symm ne_o51_o53)
    have Kp := Kp.wr W (Or.inl (by simp))
    refine s_return C X d6_130 rfl ?_ (FG hG (by decide) (by decide))
    obtain ⟨xsF, e_xsF⟩ : ∃ z : List Int32, z = xs := ⟨_, rfl⟩
    rw [← e_xsF] at A_o53 hC
    obtain ⟨tF, e_tF⟩ : ∃ z : Int32, z = y95 := ⟨_, rfl⟩
    rw [← e_tF] at A_o51 hC
    have hvC := hC
    exact hQ _ _ ⟨tF, xsF, rfl, hvC, A_o51, A_o53, Kp⟩
  | succ k ih =>
    intro i T hh fr t xs out hk hf I ho hi X F_o46_s F_o46_v F_o46_n A_o51 A_o53 Kp
    have hi4 : i ≤ 4 := by omega
    refine s_iload 29 C X d6_27 rfl ?_
    refine s_iloadN 30 C X d6_29 rfl ?_
    refine s_icmp_ge 99 33 C X d6_30 (fun c30_97 => ?_) (fun c30_97 => ?_)
    · have t_c30_97 := inl c30_97
      have hn_i : nv27.toInt = ((i : Nat) : Int) := own_exi t_c30_97 hf hve_en89 hi
      refine s_iloadN 100 C X d6_99 rfl ?_
      refine s_iloadN 101 C X d6_100 rfl ?_
      suffices J102 : ∀ (T : State) (hh : Heap) (y101 : Int32) (D102 : ((¬ ((1 : Int) < (t).toInt)) ∧ y101 = t) ∨ (((1 : Int) < (t).toInt) ∧ (¬ (((xs.getD ((t - i1)).toNatClampNeg 0)).toInt = (32 : Int))) ∧ y101 = t) ∨ (((1 : Int) < (t).toInt) ∧ (((xs.getD ((t - i1)).toNatClampNeg 0)).toInt = (32 : Int)) ∧ y101 = (t + im1))) (X : St p l e (rM 0 0 0 0) s m #[(.ref o46)] below meth c n0 T hh 0 0) (F_o46_s : Fld Z hh o46 cE fs "[I" (.ref o51)) (F_o46_n : Fld Z hh o46 cE "length" "I" (.int i2)) (A_o51 : Arv Z hh o51 k_o51 .int i9 [(.int i0), (.int i1), (.int (i1 + nv27)), (.int i0), (.int i0), (.int i0), (.int i0), (.int i0), (.int i0)] (.int i0)) (A_o53 : Arv Z hh o53 k_o53 .char i256 (Y xs) (.int i0)) (Kp : Keep h0 hh [o51, o53]), Run p e below n0 Q' G' m T 120 #[rv o46, iv i1, iv en89, iv y101, iv fr] [] by
        refine s_icmp_le 120 104 C X d6_101 (fun c101_98 => ?_) (fun c101_98 => ?_)
        · have t_c101_98 := inl c101_98
          exact J102 T _ (t) ((Or.inl ⟨t_c101_98, rfl⟩)) X F_o46_s F_o46_n A_o51 A_o53 Kp
        have t_c101_98 := ilt c101_98
        refine s_aloadN 105 C X d6_104 rfl rfl ?_
        refine s_getfield 108 C X (host := "") d6_105 (Or.inl (mW 29 rfl)) Via.refl F_o46_v (fun T X => ?_)
        refine s_iloadN 109 C X d6_108 rfl ?_
        refine s_iconst 110 C X d6_109 kc_iconst_1 ?_
        refine s_isub 111 C X d6_110 ?_
        refine s_caload 112 C X d6_111 A_o53 (own_ix1 I (by decide) (Nat.le_succ_of_le hi4) rfl t_c101_98) (v := (.int (xs.getD ((t - i1)).toNatClampNeg 0))) (own_getX _ _) ?_
        refine s_bipush 114 C X d6_112 kc_bipush_32 ?_
        refine s_icmp_ne 120 117 C X d6_114 (fun c114_99 => ?_) (fun c114_99 => ?_)
        · have t_c114_99 := ine c114_99
          exact J102 T _ (t) (Or.inr (Or.inl ⟨t_c101_98, t_c114_99, rfl⟩)) X F_o46_s F_o46_n A_o51 A_o53 Kp
        have t_c114_99 := ieq c114_99
        refine s_iinc 120 C X (l' := #[rv o46, iv i1, iv en89, .val (.int (t + im1)), iv fr]) d6_117 kc_iconst_m1 rfl rfl ?_
        exact J102 T _ ((t + im1)) (Or.inr (Or.inr ⟨t_c101_98, t_c114_99, rfl⟩)) X F_o46_s F_o46_n A_o51 A_o53 Kp
      intro T hh y101 D102  X F_o46_s F_o46_n A_o51 A_o53 Kp
      have hC : own_C 1 [yF_21] [yF, yF_5, yF_9, yF_13, yF_17] nv27 xs y101 := own_fin I (by decide) (Nat.le_succ_of_le hi4) hn_i ho rfl D102
      refine s_aloadN 121 C X d6_120 rfl rfl ?_
      refine s_getfield 124 C X (host := "") d6_121 (Or.inl (mW 25 rfl)) Via.refl F_o46_s (fun T X => ?_)
      refine s_aloadN 125 C X d6_124 rfl rfl ?_
      refine s_getfield 128 C X (host := "") d6_125 (Or.inl (mW 44 rfl)) Via.refl F_o46_n (fun T X => ?_)
      refine s_iloadN 129 C X d6_128 rfl ?_
      refine s_iastore 130 2 C X d6_129 A_o51 g_o51 ⟨by decide, by decide⟩ rfl (Nat.le_of_ble_eq_true rfl) (fun T hh X W A_o51 => ?_)
      have A_o51 : Arv Z _ o51 k_o51 .int i9 [(.int i0), (.int i1), (.int y101), (.int i0), (.int i0), (.int i0), (.int i0), (.int i0), (.int i0)] (.int i0) := A_o51
      have A_o53 := A_o53.other W (Ne.symm ne_o51_o53)
      have Kp := Kp.wr W (Or.inl (by simp))
      refine s_return C X d6_130 rfl ?_ (FG hG (by decide) (by decide))
      obtain ⟨xsF, e_xsF⟩ : ∃ z : List Int32, z = xs := ⟨_, rfl⟩
      rw [← e_xsF] at A_o53 hC
      obtain ⟨tF, e_tF⟩ : ∃ z : Int32, z = y101 := ⟨_, rfl⟩
      rw [← e_tF] at A_o51 hC
      have hvC := hC
      exact hQ _ _ ⟨tF, xsF, rfl, hvC, A_o51, A_o53, Kp⟩
    have t_c30_97 := ilt c30_97
    obtain ⟨ci, e_ci⟩ : ∃ z : Int32, z = List.getD [yF, yF_5, yF_9, yF_13, yF_17] i 0 := ⟨_, rfl⟩
    have hvci : own_B ci := own_getB (own_B5 hvB hvB_6 hvB_10 hvB_14 hvB_18) (by show i < 5; omega) e_ci
    refine s_aloadN 34 C X d6_33 rfl rfl ?_
    refine s_getfield 37 C X (host := "") d6_34 (Or.inl (mW 29 rfl)) Via.refl F_o46_v (fun T X => ?_)
    refine s_iload 39 C X d6_37 rfl ?_
    refine s_caload 40 C X d6_39 A_o53 (own_fr hf (by decide) (Nat.le_succ_of_le hi4)) (v := (.int ci)) (own_ldi I t_c30_97 hf hve_en89 e_ci) ?_
    refine s_bipush 42 C X d6_40 kc_bipush_32 ?_
    suffices J109 : ∀ (T : State) (hh : Heap) (y107 : Int32) (y108 : List Int32) (D109 : (((ci).toInt = (32 : Int)) ∧ (¬ ((1 : Int) < (t).toInt)) ∧ y107 = t ∧ y108 = xs) ∨ (((ci).toInt = (32 : Int)) ∧ ((1 : Int) < (t).toInt) ∧ (((xs.getD ((t - i1)).toNatClampNeg 0)).toInt = (32 : Int)) ∧ y107 = t ∧ y108 = xs) ∨ (((ci).toInt = (32 : Int)) ∧ ((1 : Int) < (t).toInt) ∧ (¬ (((xs.getD ((t - i1)).toNatClampNeg 0)).toInt = (32 : Int))) ∧ y107 = (t + i1) ∧ y108 = (xs.set (t).toNatClampNeg i32)) ∨ ((¬ ((ci).toInt = (32 : Int))) ∧ y107 = (t + i1) ∧ y108 = (xs.set (t).toNatClampNeg ci))) (X : St p l e (rM 0 0 0 0) s m #[(.ref o46)] below meth c n0 T hh 0 0) (F_o46_s : Fld Z hh o46 cE fs "[I" (.ref o51)) (F_o46_v : Fld Z hh o46 cE fv "[C" (.ref o53)) (F_o46_n : Fld Z hh o46 cE "length" "I" (.int i2)) (A_o51 : Arv Z hh o51 k_o51 .int i9 [(.int i0), (.int i1), (.int (i1 + nv27)), (.int i0), (.int i0), (.int i0), (.int i0), (.int i0), (.int i0)] (.int i0)) (A_o53 : Arv Z hh o53 k_o53 .char i256 (Y y108) (.int i0)) (Kp : Keep h0 hh [o51, o53]), Run p e below n0 Q' G' m T 93 #[rv o46, iv i1, iv en89, iv y107, iv fr] [] by
      refine s_icmp_eq 64 45 C X d6_42 (fun c42_103 => ?_) (fun c42_103 => ?_)
      · have t_c42_103 := ieq c42_103
        refine s_iloadN 65 C X d6_64 rfl ?_
        refine s_iloadN 66 C X d6_65 rfl ?_
        refine s_icmp_le 93 69 C X d6_66 (fun c66_104 => ?_) (fun c66_104 => ?_)
        · have t_c66_104 := inl c66_104
          exact J109 T _ (t) (xs) ((Or.inl ⟨t_c42_103, t_c66_104, rfl, rfl⟩)) X F_o46_s F_o46_v F_o46_n A_o51 A_o53 Kp
        have t_c66_104 := ilt c66_104
        refine s_aloadN 70 C X d6_69 rfl rfl ?_
        refine s_getfield 73 C X (host := "") d6_70 (Or.inl (mW 29 rfl)) Via.refl F_o46_v (fun T X => ?_)
        refine s_iloadN 74 C X d6_73 rfl ?_
        refine s_iconst 75 C X d6_74 kc_iconst_1 ?_
        refine s_isub 76 C X d6_75 ?_
        refine s_caload 77 C X d6_76 A_o53 (own_ix1 I (by decide) (Nat.le_succ_of_le hi4) rfl t_c66_104) (v := (.int (xs.getD ((t - i1)).toNatClampNeg 0))) (own_getX _ _) ?_
        refine s_bipush 79 C X d6_77 kc_bipush_32 ?_
        refine s_icmp_eq 93 82 C X d6_79 (fun c79_105 => ?_) (fun c79_105 => ?_)
        · have t_c79_105 := ieq c79_105
          exact J109 T _ (t) (xs) (Or.inr (Or.inl ⟨t_c42_103, t_c66_104, t_c79_105, rfl, rfl⟩)) X F_o46_s F_o46_v F_o46_n A_o51 A_o53 Kp
        have t_c79_105 := ine c79_105
        refine s_aloadN 83 C X d6_82 rfl rfl ?_
        refine s_getfield 86 C X (host := "") d6_83 (Or.inl (mW 29 rfl)) Via.refl F_o46_v (fun T X => ?_)
        refine s_iloadN 87 C X d6_86 rfl ?_
        refine s_iinc 90 C X (l' := #[rv o46, iv i1, iv en89, .val (.int (t + i1)), iv fr]) d6_87 kc_iconst_1 rfl rfl ?_
        refine s_bipush 92 C X d6_90 kc_bipush_32 ?_
        refine s_castore 93 (t).toNatClampNeg C X d6_92 A_o53 g_o53 (own_ix I (by decide) (Nat.le_succ_of_le hi4)).1 rfl ((own_ix I (by decide) (Nat.le_succ_of_le hi4)).2 hi4) (fun T hh X W A_o53 => ?_)
        have F_o46_s := F_o46_s.other W (Or.inl ne_o46_o53)
        have F_o46_v := F_o46_v.other W (Or.inl ne_o46_o53)
        have F_o46_n := F_o46_n.other W (Or.inl ne_o46_o53)
        have A_o51 := A_o51.other W ne_o51_o53
        have Kp := Kp.wr W (Or.inl (by simp))
        rw [own_setX, kn32] at A_o53
        exact J109 T _ ((t + i1)) ((xs.set (t).toNatClampNeg i32)) (Or.inr (Or.inr (Or.inl ⟨t_c42_103, t_c66_104, t_c79_105, rfl, rfl⟩))) X F_o46_s F_o46_v F_o46_n A_o51 A_o53 Kp
      have t_c42_103 := ine c42_103
      refine s_aloadN 46 C X d6_45 rfl rfl ?_
      refine s_getfield 49 C X (host := "") d6_46 (Or.inl (mW 29 rfl)) Via.refl F_o46_v (fun T X => ?_)
      refine s_iloadN 50 C X d6_49 rfl ?_
      refine s_iinc 53 C X (l' := #[rv o46, iv i1, iv en89, .val (.int (t + i1)), iv fr]) d6_50 kc_iconst_1 rfl rfl ?_
      refine s_aloadN 54 C X d6_53 rfl rfl ?_
      refine s_getfield 57 C X (host := "") d6_54 (Or.inl (mW 29 rfl)) Via.refl F_o46_v (fun T X => ?_)
      refine s_iload 59 C X d6_57 rfl ?_
      refine s_caload 60 C X d6_59 A_o53 (own_fr hf (by decide) (Nat.le_succ_of_le hi4)) (v := (.int ci)) (own_ldi I t_c30_97 hf hve_en89 e_ci) ?_
      refine s_castore 61 (t).toNatClampNeg C X d6_60 A_o53 g_o53 (own_ix I (by decide) (Nat.le_succ_of_le hi4)).1 rfl ((own_ix I (by decide) (Nat.le_succ_of_le hi4)).2 hi4) (fun T hh X W A_o53 => ?_)
      have F_o46_s := F_o46_s.other W (Or.inl ne_o46_o53)
      have F_o46_v := F_o46_v.other W (Or.inl ne_o46_o53)
      have F_o46_n := F_o46_n.other W (Or.inl ne_o46_o53)
      have A_o51 := A_o51.other W ne_o51_o53
      have Kp := Kp.wr W (Or.inl (by simp))
      rw [own_setX, own_nc hvci] at A_o53
      refine s_goto 93 C X d6_61 ?_
      exact J109 T _ ((t + i1)) ((xs.set (t).toNatClampNeg ci)) (Or.inr (Or.inr (Or.inr ⟨t_c42_103, rfl, rfl⟩))) X F_o46_s F_o46_v F_o46_n A_o51 A_o53 Kp
    intro T hh y107 y108 D109  X F_o46_s F_o46_v F_o46_n A_o51 A_o53 Kp
    have I110 : own_I 1 [yF_21] [yF, yF_5, yF_9, yF_13, yF_17] (i + 1) nv27 y108 y107 (cst out ci) := own_stp I (by decide) hi4 rfl D109
    refine s_iinc 96 C X (l' := #[rv o46, iv i1, iv en89, iv y107, .val (.int (fr + i1))]) d6_93 kc_iconst_1 rfl rfl ?_
    refine s_goto 27 C X d6_96 ?_
    exact ih (i + 1) T _ (fr + i1) y107 y108 (cst out ci) (by omega) (own_fr1 hf (by decide) hi4) I110 (own_fold (by show i < 5; omega) ho e_ci) (own_lti t_c30_97 hf hve_en89) X F_o46_s F_o46_v F_o46_n A_o51 A_o53 Kp
theorem rm_a76 (hw : Hw a0 Z) (fm : Value) (m277 : Int32) (h0 : Heap) (n0 : Nat) (Z0 : n0 ≤ h0.size) (hv_fm : fm.isRef = true) (hvN_m277 : own_N m277) :
    Met l Z (⟨cP, "checkFromIndexSize", sI⟩ : MethodName) jdk_41_method_13_code 4 (some .int) (rM 0 0 0 0) [] #[(.int i1), (.int m277), (.int i256), fm] h0 n0 (fun v h => v = some (.int i1) ∧ Keep h0 h []) := by
  refine Met.mkQ (tabs := tables_1) (a0 := a0) (ls0 := #[iv i1, iv m277, iv i256, .val fm]) (plainFor_of_name pn_jdk_internal_util_Preconditions) hw Z0 (fun m => by first | (simp [entryFrame, mkF, argsToLocals, Value.category]; done) | rfl | (cases fm <;> first | (simp [entryFrame, mkF, argsToLocals, Value.category]; done) | (exact absurd hv_fm (by simp [Value.isRef])))) ?_
  intro p e s m below meth c T Q' G' hQ hG C X
  have Kp : Keep h0 h0 [] := Keep.refl _ _
  refine s_iloadN 1 C X d13_0 rfl ?_
  refine s_iloadN 2 C X d13_1 rfl ?_
  refine s_ior 3 C X d13_2 ?_
  refine rc (st' := [(.int i257)]) (by rw [kf_15]) ?_
  refine s_iloadN 4 C X d13_3 rfl ?_
  refine s_ior 5 C X d13_4 ?_
  refine s_if_lt 15 8 C X d13_5 (fun c => absurd c (own_or hvN_m277 (by decide))) (fun c5_278 => ?_)
  refine s_iloadN 9 C X d13_8 rfl ?_
  refine s_iloadN 10 C X d13_9 rfl ?_
  refine s_iloadN 11 C X d13_10 rfl ?_
  refine s_isub 12 C X d13_11 ?_
  refine rc (st' := [(.int i255), (.int m277)]) (by rw [kf_16]) ?_
  refine s_icmp_le 23 15 C X d13_12 (fun c12_279 => ?_) (fun c => absurd c (own_szs hvN_m277 (by decide)))
  refine s_iloadN 24 C X d13_23 rfl ?_
  refine s_ireturn C X d13_24 rfl ?_ (FG hG (by decide) (by decide))
  exact hQ _ _ ⟨rfl, Kp⟩
theorem rm_a77 (hw : Hw a0 Z) (fm : Value) (m277 : Int32) (h0 : Heap) (n0 : Nat) (Z0 : n0 ≤ h0.size) (Od : Old Z n0 h0) (S_fm : Sta Z Z.heap cP cM cF fm) (hv_fm : fm.isRef = true) (hvN_m277 : own_N m277) :
    Met l Z (⟨cS, "checkBoundsOffCount", "(III)I"⟩ : MethodName) jdk_42_method_157_code 3 (some .int) (rM 1 0 0 15) [] #[(.int i1), (.int m277), (.int i256)] h0 n0 (fun v h => v = some (.int i1) ∧ Old Z n0 h ∧ Keep h0 h []) := by
  refine Met.mkQ (tabs := tables_1) (a0 := a0) (ls0 := #[iv i1, iv m277, iv i256]) (plainFor_of_name pn_java_lang_String) hw Z0 (fun m => by first | (simp [entryFrame, mkF, argsToLocals, Value.category]; done) | rfl) ?_
  intro p e s m below meth c T Q' G' hQ hG C X
  have Kp : Keep h0 h0 [] := Keep.refl _ _
  refine s_iloadN 1 C X d12_0 rfl ?_
  refine s_iloadN 2 C X d12_1 rfl ?_
  refine s_iloadN 3 C X d12_2 rfl ?_
  refine s_getstatic 6 C X (host := "") d12_3 (Or.inl (mW 82 rfl)) Via.refl (S_fm.ext Od.2) (fun T X => ?_)
  refine s_callS 9 [(.int i1), (.int m277), (.int i256), fm] [] 0 C X d12_6 (mW 84 rfl) (mW 85 rfl) (mW 83 rfl) (mW 86 rfl) (rm_a76 l Z a0 hw fm m277 _ n0 X.sz hv_fm hvN_m277) (lenOf pd__IIILjava_util_function_BiFunction__I rfl) rfl rfl rfl (fun T v hh X q => ?_)
  obtain ⟨rfl, Kc⟩ := q
  have Od := Od.keep Kc all0
  have Kp := Kp.trans Kc all0
  refine rc (st' := [(.int i1)]) rfl ?_
  refine s_ireturn C X d12_9 rfl ?_ (FG hG (by decide) (by decide))
  exact hQ _ _ ⟨rfl, Od, Kp⟩
theorem rm_a78 (hw : Hw a0 Z) (fm : Value) (k_o53 : ClassId) (o53 : Addr) (xsF : List Int32) (m277 : Int32) (h0 : Heap) (n0 : Nat) (Z0 : n0 ≤ h0.size) (Od : Old Z n0 h0) (S_fm : Sta Z Z.heap cP cM cF fm) (A_o53 : Arv Z h0 o53 k_o53 .char i256 (Y xsF) (.int i0)) (hv_fm : fm.isRef = true) (hvN_m277 : own_N m277) :
    Met l Z (⟨cS, "rangeCheck", "([CII)Ljava/lang/Void;"⟩ : MethodName) jdk_42_method_5_code 3 (some (.object "java/lang/Void")) (rM 2 0 0 29) [] #[(.ref o53), (.int i1), (.int m277)] h0 n0 (fun v h => v = some .null ∧ Keep h0 h [] ∧ Old Z n0 h) := by
  refine Met.mkQ (tabs := tables_1) (a0 := a0) (ls0 := #[rv o53, iv i1, iv m277]) (plainFor_of_name pn_java_lang_String) hw Z0 (fun m => by first | (simp [entryFrame, mkF, argsToLocals, Value.category]; done) | rfl) ?_
  intro p e s m below meth c T Q' G' hQ hG C X
  have Kp : Keep h0 h0 [] := Keep.refl _ _
  refine s_iloadN 1 C X d11_0 rfl ?_
  refine s_iloadN 2 C X d11_1 rfl ?_
  refine s_aloadN 3 C X d11_2 rfl rfl ?_
  refine s_arraylength 4 C X d11_3 A_o53 ?_
  refine s_callS 7 [(.int i1), (.int m277), (.int i256)] [] 0 C X d11_4 (mW 79 rfl) (mW 80 rfl) (mW 32 rfl) (mW 81 rfl) (rm_a77 l Z a0 hw fm m277 _ n0 X.sz Od S_fm hv_fm hvN_m277) (lenOf pd__III_I rfl) rfl rfl rfl (fun T v hh X q => ?_)
  obtain ⟨rfl, Od, Kc⟩ := q
  have Kp := Kp.trans Kc all0
  refine rc (st' := [(.int i1)]) rfl ?_
  refine s_pop 8 C X d11_7 rfl ?_
  refine s_aconstNull 9 C X d11_8 ?_
  refine s_areturn C X d11_9 rfl rfl rfl ?_ (FG hG (by decide) (by decide))
  exact hQ _ _ ⟨rfl, Kp, Od⟩
theorem rm_a79 (hw : Hw a0 Z) (k_o53 : ClassId) (o53 : Addr) (xsF : List Int32) (m277 : Int32) (o285 : Addr) (k_o285 : ClassId) (h0 : Heap) (n0 : Nat) (Z0 : n0 ≤ h0.size) (A_o53 : Arv Z h0 o53 k_o53 .char i256 (Y xsF) (.int i0)) (A_o285 : Arv Z h0 o285 k_o285 .byte m277 [(.int i0), (.int i0), (.int i0), (.int i0), (.int i0)] (.int i0)) (hvN_m277 : own_N m277) (hvW_m277 : own_W 1 xsF m277) (ne_o53_o285 : o53 ≠ o285) (g_o285 : n0 ≤ o285) :
    Met l Z (⟨cU, "compress", "([CI[BII)I"⟩ : MethodName) jdk_52_method_21_code 7 (some .int) (rM 0 0 0 0) [] #[(.ref o53), (.int i1), (.ref o285), (.int i0), (.int m277)] h0 n0 (fun v h => ∃ (zsF : List Int32), v = some (.int m277) ∧ own_Z 1 xsF m277 zsF ∧ Arv Z h o285 k_o285 .byte m277 (Y zsF) (.int i0) ∧ Keep h0 h [o285]) := by
  refine Met.mkQ (tabs := tables_1) (a0 := a0) (ls0 := #[rv o53, iv i1, rv o285, iv i0, iv m277, un, un]) (plainFor_of_name pn_java_lang_StringUTF16) hw Z0 (fun m => by first | (simp [entryFrame, mkF, argsToLocals, Value.category]; done) | rfl) ?_
  intro p e s m below meth c T Q' G' hQ hG C X
  have Kp : Keep h0 h0 [o285] := Keep.refl _ _
  refine s_iconst 1 C X d16_0 kc_iconst_0 ?_
  refine s_istore 3 C X (l' := #[rv o53, iv i1, rv o285, iv i0, iv m277, iv i0, un]) d16_1 rfl ?_
  refine s_iload 5 C X d16_3 rfl ?_
  refine s_iload 7 C X d16_5 rfl ?_
  refine s_icmp_ge 44 10 C X d16_7 (fun c7_286 => ?_) (fun c7_286 => ?_)
  · have t_c7_286 := inl c7_286
    refine s_iload 46 C X d16_44 rfl ?_
    refine s_ireturn C X d16_46 rfl ?_ (FG hG (by decide) (by decide))
    obtain ⟨zsF, e_zsF⟩ : ∃ z : List Int32, z = [i0, i0, i0, i0, i0] := ⟨_, rfl⟩
    have hvZ : own_Z 1 xsF m277 zsF := by rw [e_zsF]; exact own_z10 (Int.not_lt.mp t_c7_286)
    have A_o285 : Arv Z h0 o285 k_o285 .byte m277 (Y zsF) (.int i0) := by rw [e_zsF]; exact A_o285
    exact hQ _ _ ⟨zsF, rfl, hvZ, A_o285, Kp⟩
  have t_c7_286 := ilt c7_286
  refine s_aloadN 11 C X d16_10 rfl rfl ?_
  refine s_iloadN 12 C X d16_11 rfl ?_
  refine s_caload 13 C X d16_12 A_o53 ⟨by decide, by decide⟩ (v := (.int (xsF.getD 1 0))) (own_getX _ _) ?_
  refine s_istore 15 C X (l' := #[rv o53, iv i1, rv o285, iv i0, iv m277, iv i0, .val (.int (xsF.getD 1 0))]) d16_13 rfl ?_
  refine s_iload 17 C X d16_15 rfl ?_
  refine s_sipush 20 C X d16_17 kc_sipush_255 ?_
  refine s_icmp_le 26 23 C X d16_20 (fun c20_287 => ?_) (fun c => absurd c (own_le (own_wk hvW_m277 t_c7_286 rfl rfl)))
  refine s_aloadN 27 C X d16_26 rfl rfl ?_
  refine s_iloadN 28 C X d16_27 rfl ?_
  refine s_iload 30 C X d16_28 rfl ?_
  refine s_i2b 31 C X d16_30 ?_
  refine s_bastore 32 0 C X d16_31 A_o285 g_o285 ⟨by decide, c7_286⟩ rfl (Nat.le_of_ble_eq_true rfl) (fun T hh X W A_o285 => ?_)
  have A_o285 : Arv Z _ o285 k_o285 .byte m277 [(.int (nar .byte ((xsF.getD 1 0)).toInt8.toInt32)), (.int i0), (.int i0), (.int i0), (.int i0)] (.int i0) := A_o285
  have A_o53 := A_o53.other W ne_o53_o285
  have Kp := Kp.wr W (Or.inl (by simp))
  have A_o285 : Arv Z _ o285 k_o285 .byte m277 [(.int (bv (xsF.getD 1 0))), (.int i0), (.int i0), (.int i0), (.int i0)] (.int i0) := A_o285
  refine s_iinc 35 C X (l' := #[rv o53, iv i2, rv o285, iv i0, iv m277, iv i0, .val (.int (xsF.getD 1 0))]) d16_32 kc_iconst_1 rfl rfl ?_
  refine s_iinc 38 C X (l' := #[rv o53, iv i2, rv o285, iv i1, iv m277, iv i0, .val (.int (xsF.getD 1 0))]) d16_35 kc_iconst_1 rfl rfl ?_
  refine s_iinc 41 C X (l' := #[rv o53, iv i2, rv o285, iv i1, iv m277, iv i1, .val (.int (xsF.getD 1 0))]) d16_38 kc_iconst_1 rfl rfl ?_
  refine s_goto 3 C X d16_41 ?_
  refine s_iload 5 C X d16_3 rfl ?_
  refine s_iload 7 C X d16_5 rfl ?_
  refine s_icmp_ge 44 10 C X d16_7 (fun c7_288 => ?_) (fun c7_288 => ?_)
  · have t_c7_288 := inl c7_288
    refine s_iload 46 C X d16_44 rfl ?_
    refine s_ireturn C X d16_46 rfl ?_ (FG hG (by decide) (by decide))
    obtain ⟨zsF, e_zsF⟩ : ∃ z : List Int32, z = [(bv (xsF.getD 1 0)), i0, i0, i0, i0] := ⟨_, rfl⟩
    have hvZ : own_Z 1 xsF m277 zsF := by rw [e_zsF]; exact own_z11 (Int.not_lt.mp t_c7_288)
    have A_o285 : Arv Z hh o285 k_o285 .byte m277 (Y zsF) (.int i0) := by rw [e_zsF]; exact A_o285
    exact hQ _ _ ⟨zsF, rfl, hvZ, A_o285, Kp⟩
  have t_c7_288 := ilt c7_288
  refine s_aloadN 11 C X d16_10 rfl rfl ?_
  refine s_iloadN 12 C X d16_11 rfl ?_
  refine s_caload 13 C X d16_12 A_o53 ⟨by decide, by decide⟩ (v := (.int (xsF.getD 2 0))) (own_getX _ _) ?_
  refine s_istore 15 C X (l' := #[rv o53, iv i2, rv o285, iv i1, iv m277, iv i1, .val (.int (xsF.getD 2 0))]) d16_13 rfl ?_
  refine s_iload 17 C X d16_15 rfl ?_
  refine s_sipush 20 C X d16_17 kc_sipush_255 ?_
  refine s_icmp_le 26 23 C X d16_20 (fun c20_289 => ?_) (fun c => absurd c (own_le (own_wk hvW_m277 t_c7_288 rfl rfl)))
  refine s_aloadN 27 C X d16_26 rfl rfl ?_
  refine s_iloadN 28 C X d16_27 rfl ?_
  refine s_iload 30 C X d16_28 rfl ?_
  refine s_i2b 31 C X d16_30 ?_
  refine s_bastore 32 1 C X d16_31 A_o285 g_o285 ⟨by decide, c7_288⟩ rfl (Nat.le_of_ble_eq_true rfl) (fun T hh X W A_o285 => ?_)
  have A_o285 : Arv Z _ o285 k_o285 .byte m277 [(.int (bv (xsF.getD 1 0))), (.int (nar .byte ((xsF.getD 2 0)).toInt8.toInt32)), (.int i0), (.int i0), (.int i0)] (.int i0) := A_o285
  have A_o53 := A_o53.other W ne_o53_o285
  have Kp := Kp.wr W (Or.inl (by simp))
  have A_o285 : Arv Z _ o285 k_o285 .byte m277 [(.int (bv (xsF.getD 1 0))), (.int (bv (xsF.getD 2 0))), (.int i0), (.int i0), (.int i0)] (.int i0) := A_o285
  refine s_iinc 35 C X (l' := #[rv o53, iv i3, rv o285, iv i1, iv m277, iv i1, .val (.int (xsF.getD 2 0))]) d16_32 kc_iconst_1 rfl rfl ?_
  refine s_iinc 38 C X (l' := #[rv o53, iv i3, rv o285, iv i2, iv m277, iv i1, .val (.int (xsF.getD 2 0))]) d16_35 kc_iconst_1 rfl rfl ?_
  refine s_iinc 41 C X (l' := #[rv o53, iv i3, rv o285, iv i2, iv m277, iv i2, .val (.int (xsF.getD 2 0))]) d16_38 kc_iconst_1 rfl rfl ?_
  refine s_goto 3 C X d16_41 ?_
  refine s_iload 5 C X d16_3 rfl ?_
  refine s_iload 7 C X d16_5 rfl ?_
  refine s_icmp_ge 44 10 C X d16_7 (fun c7_290 => ?_) (fun c7_290 => ?_)
  · have t_c7_290 := inl c7_290
    refine s_iload 46 C X d16_44 rfl ?_
    refine s_ireturn C X d16_46 rfl ?_ (FG hG (by decide) (by decide))
    obtain ⟨zsF, e_zsF⟩ : ∃ z : List Int32, z = [(bv (xsF.getD 1 0)), (bv (xsF.getD 2 0)), i0, i0, i0] := ⟨_, rfl⟩
    have hvZ : own_Z 1 xsF m277 zsF := by rw [e_zsF]; exact own_z12 (Int.not_lt.mp t_c7_290)
    have A_o285 : Arv Z hh o285 k_o285 .byte m277 (Y zsF) (.int i0) := by rw [e_zsF]; exact A_o285
    exact hQ _ _ ⟨zsF, rfl, hvZ, A_o285, Kp⟩
  have t_c7_290 := ilt c7_290
  refine s_aloadN 11 C X d16_10 rfl rfl ?_
  refine s_iloadN 12 C X d16_11 rfl ?_
  refine s_caload 13 C X d16_12 A_o53 ⟨by decide, by decide⟩ (v := (.int (xsF.getD 3 0))) (own_getX _ _) ?_
  refine s_istore 15 C X (l' := #[rv o53, iv i3, rv o285, iv i2, iv m277, iv i2, .val (.int (xsF.getD 3 0))]) d16_13 rfl ?_
  refine s_iload 17 C X d16_15 rfl ?_
  refine s_sipush 20 C X d16_17 kc_sipush_255 ?_
  refine s_icmp_le 26 23 C X d16_20 (fun c20_291 => ?_) (fun c => absurd c (own_le (own_wk hvW_m277 t_c7_290 rfl rfl)))
  refine s_aloadN 27 C X d16_26 rfl rfl ?_
  refine s_iloadN 28 C X d16_27 rfl ?_
  refine s_iload 30 C X d16_28 rfl ?_
  refine s_i2b 31 C X d16_30 ?_
  refine s_bastore 32 2 C X d16_31 A_o285 g_o285 ⟨by decide, c7_290⟩ rfl (Nat.le_of_ble_eq_true rfl) (fun T hh X W A_o285 => ?_)
  have A_o285 : Arv Z _ o285 k_o285 .byte m277 [(.int (bv (xsF.getD 1 0))), (.int (bv (xsF.getD 2 0))), (.int (nar .byte ((xsF.getD 3 0)).toInt8.toInt32)), (.int i0), (.int i0)] (.int i0) := A_o285
  have A_o53 := A_o53.other W ne_o53_o285
  have Kp := Kp.wr W (Or.inl (by simp))
  have A_o285 : Arv Z _ o285 k_o285 .byte m277 [(.int (bv (xsF.getD 1 0))), (.int (bv (xsF.getD 2 0))), (.int (bv (xsF.getD 3 0))), (.int i0), (.int i0)] (.int i0) := A_o285
  refine s_iinc 35 C X (l' := #[rv o53, iv i4, rv o285, iv i2, iv m277, iv i2, .val (.int (xsF.getD 3 0))]) d16_32 kc_iconst_1 rfl rfl ?_
  refine s_iinc 38 C X (l' := #[rv o53, iv i4, rv o285, iv i3, iv m277, iv i2, .val (.int (xsF.getD 3 0))]) d16_35 kc_iconst_1 rfl rfl ?_
  refine s_iinc 41 C X (l' := #[rv o53, iv i4, rv o285, iv i3, iv m277, iv i3, .val (.int (xsF.getD 3 0))]) d16_38 kc_iconst_1 rfl rfl ?_
  refine s_goto 3 C X d16_41 ?_
  refine s_iload 5 C X d16_3 rfl ?_
  refine s_iload 7 C X d16_5 rfl ?_
  refine s_icmp_ge 44 10 C X d16_7 (fun c7_292 => ?_) (fun c7_292 => ?_)
  · have t_c7_292 := inl c7_292
    refine s_iload 46 C X d16_44 rfl ?_
    refine s_ireturn C X d16_46 rfl ?_ (FG hG (by decide) (by decide))
    obtain ⟨zsF, e_zsF⟩ : ∃ z : List Int32, z = [(bv (xsF.getD 1 0)), (bv (xsF.getD 2 0)), (bv (xsF.getD 3 0)), i0, i0] := ⟨_, rfl⟩
    have hvZ : own_Z 1 xsF m277 zsF := by rw [e_zsF]; exact own_z13 (Int.not_lt.mp t_c7_292)
    have A_o285 : Arv Z hh o285 k_o285 .byte m277 (Y zsF) (.int i0) := by rw [e_zsF]; exact A_o285
    exact hQ _ _ ⟨zsF, rfl, hvZ, A_o285, Kp⟩
  have t_c7_292 := ilt c7_292
  refine s_aloadN 11 C X d16_10 rfl rfl ?_
  refine s_iloadN 12 C X d16_11 rfl ?_
  refine s_caload 13 C X d16_12 A_o53 ⟨by decide, by decide⟩ (v := (.int (xsF.getD 4 0))) (own_getX _ _) ?_
  refine s_istore 15 C X (l' := #[rv o53, iv i4, rv o285, iv i3, iv m277, iv i3, .val (.int (xsF.getD 4 0))]) d16_13 rfl ?_
  refine s_iload 17 C X d16_15 rfl ?_
  refine s_sipush 20 C X d16_17 kc_sipush_255 ?_
  refine s_icmp_le 26 23 C X d16_20 (fun c20_293 => ?_) (fun c => absurd c (own_le (own_wk hvW_m277 t_c7_292 rfl rfl)))
  refine s_aloadN 27 C X d16_26 rfl rfl ?_
  refine s_iloadN 28 C X d16_27 rfl ?_
  refine s_iload 30 C X d16_28 rfl ?_
  refine s_i2b 31 C X d16_30 ?_
  refine s_bastore 32 3 C X d16_31 A_o285 g_o285 ⟨by decide, c7_292⟩ rfl (Nat.le_of_ble_eq_true rfl) (fun T hh X W A_o285 => ?_)
  have A_o285 : Arv Z _ o285 k_o285 .byte m277 [(.int (bv (xsF.getD 1 0))), (.int (bv (xsF.getD 2 0))), (.int (bv (xsF.getD 3 0))), (.int (nar .byte ((xsF.getD 4 0)).toInt8.toInt32)), (.int i0)] (.int i0) := A_o285
  have A_o53 := A_o53.other W ne_o53_o285
  have Kp := Kp.wr W (Or.inl (by simp))
  have A_o285 : Arv Z _ o285 k_o285 .byte m277 [(.int (bv (xsF.getD 1 0))), (.int (bv (xsF.getD 2 0))), (.int (bv (xsF.getD 3 0))), (.int (bv (xsF.getD 4 0))), (.int i0)] (.int i0) := A_o285
  refine s_iinc 35 C X (l' := #[rv o53, iv i5, rv o285, iv i3, iv m277, iv i3, .val (.int (xsF.getD 4 0))]) d16_32 kc_iconst_1 rfl rfl ?_
  refine s_iinc 38 C X (l' := #[rv o53, iv i5, rv o285, iv i4, iv m277, iv i3, .val (.int (xsF.getD 4 0))]) d16_35 kc_iconst_1 rfl rfl ?_
  refine s_iinc 41 C X (l' := #[rv o53, iv i5, rv o285, iv i4, iv m277, iv i4, .val (.int (xsF.getD 4 0))]) d16_38 kc_iconst_1 rfl rfl ?_
  refine s_goto 3 C X d16_41 ?_
  refine s_iload 5 C X d16_3 rfl ?_
  refine s_iload 7 C X d16_5 rfl ?_
  refine s_icmp_ge 44 10 C X d16_7 (fun c7_294 => ?_) (fun c7_294 => ?_)
  · have t_c7_294 := inl c7_294
    refine s_iload 46 C X d16_44 rfl ?_
    refine s_ireturn C X d16_46 rfl ?_ (FG hG (by decide) (by decide))
    obtain ⟨zsF, e_zsF⟩ : ∃ z : List Int32, z = [(bv (xsF.getD 1 0)), (bv (xsF.getD 2 0)), (bv (xsF.getD 3 0)), (bv (xsF.getD 4 0)), i0] := ⟨_, rfl⟩
    have hvZ : own_Z 1 xsF m277 zsF := by rw [e_zsF]; exact own_z14 (Int.not_lt.mp t_c7_294)
    have A_o285 : Arv Z hh o285 k_o285 .byte m277 (Y zsF) (.int i0) := by rw [e_zsF]; exact A_o285
    exact hQ _ _ ⟨zsF, rfl, hvZ, A_o285, Kp⟩
  have t_c7_294 := ilt c7_294
  refine s_aloadN 11 C X d16_10 rfl rfl ?_
  refine s_iloadN 12 C X d16_11 rfl ?_
  refine s_caload 13 C X d16_12 A_o53 ⟨by decide, by decide⟩ (v := (.int (xsF.getD 5 0))) (own_getX _ _) ?_
  refine s_istore 15 C X (l' := #[rv o53, iv i5, rv o285, iv i4, iv m277, iv i4, .val (.int (xsF.getD 5 0))]) d16_13 rfl ?_
  refine s_iload 17 C X d16_15 rfl ?_
  refine s_sipush 20 C X d16_17 kc_sipush_255 ?_
  refine s_icmp_le 26 23 C X d16_20 (fun c20_295 => ?_) (fun c => absurd c (own_le (own_wk hvW_m277 t_c7_294 rfl rfl)))
  refine s_aloadN 27 C X d16_26 rfl rfl ?_
  refine s_iloadN 28 C X d16_27 rfl ?_
  refine s_iload 30 C X d16_28 rfl ?_
  refine s_i2b 31 C X d16_30 ?_
  refine s_bastore 32 4 C X d16_31 A_o285 g_o285 ⟨by decide, c7_294⟩ rfl (Nat.le_of_ble_eq_true rfl) (fun T hh X W A_o285 => ?_)
  have A_o285 : Arv Z _ o285 k_o285 .byte m277 [(.int (bv (xsF.getD 1 0))), (.int (bv (xsF.getD 2 0))), (.int (bv (xsF.getD 3 0))), (.int (bv (xsF.getD 4 0))), (.int (nar .byte ((xsF.getD 5 0)).toInt8.toInt32))] (.int i0) := A_o285
  have Kp := Kp.wr W (Or.inl (by simp))
  have A_o285 : Arv Z _ o285 k_o285 .byte m277 [(.int (bv (xsF.getD 1 0))), (.int (bv (xsF.getD 2 0))), (.int (bv (xsF.getD 3 0))), (.int (bv (xsF.getD 4 0))), (.int (bv (xsF.getD 5 0)))] (.int i0) := A_o285
  refine s_iinc 35 C X (l' := #[rv o53, iv i6, rv o285, iv i4, iv m277, iv i4, .val (.int (xsF.getD 5 0))]) d16_32 kc_iconst_1 rfl rfl ?_
  refine s_iinc 38 C X (l' := #[rv o53, iv i6, rv o285, iv i5, iv m277, iv i4, .val (.int (xsF.getD 5 0))]) d16_35 kc_iconst_1 rfl rfl ?_
  refine s_iinc 41 C X (l' := #[rv o53, iv i6, rv o285, iv i5, iv m277, iv i5, .val (.int (xsF.getD 5 0))]) d16_38 kc_iconst_1 rfl rfl ?_
  refine s_goto 3 C X d16_41 ?_
  refine s_iload 5 C X d16_3 rfl ?_
  refine s_iload 7 C X d16_5 rfl ?_
  refine s_icmp_ge 44 10 C X d16_7 (fun c7_296 => ?_) (fun c => absurd c (own_n5 hvN_m277))
  refine s_iload 46 C X d16_44 rfl ?_
  refine s_ireturn C X d16_46 rfl ?_ (FG hG (by decide) (by decide))
  obtain ⟨zsF, e_zsF⟩ : ∃ z : List Int32, z = [(bv (xsF.getD 1 0)), (bv (xsF.getD 2 0)), (bv (xsF.getD 3 0)), (bv (xsF.getD 4 0)), (bv (xsF.getD 5 0))] := ⟨_, rfl⟩
  have hvZ : own_Z 1 xsF m277 zsF := by rw [e_zsF]; exact own_z15 (own_nn5 hvN_m277)
  have A_o285 : Arv Z hh o285 k_o285 .byte m277 (Y zsF) (.int i0) := by rw [e_zsF]; exact A_o285
  exact hQ _ _ ⟨zsF, rfl, hvZ, A_o285, Kp⟩
theorem rm_a80 (hw : Hw a0 Z) (k_o53 : ClassId) (o53 : Addr) (xsF : List Int32) (m277 : Int32) (h0 : Heap) (n0 : Nat) (Z0 : n0 ≤ h0.size) (A_o53 : Arv Z h0 o53 k_o53 .char i256 (Y xsF) (.int i0)) (hvN_m277 : own_N m277) (hvW_m277 : own_W 1 xsF m277) :
    Met l Z (⟨cU, "compress", "([CII)[B"⟩ : MethodName) jdk_52_method_16_code 6 (some (.array .byte)) (rM 1 1 5 18) [] #[(.ref o53), (.int i1), (.int m277)] h0 n0 (fun v h => ∃ (k_o285 : ClassId) (o285 : Addr) (zsF : List Int32), v = some (.ref o285) ∧ own_Z 1 xsF m277 zsF ∧ Keep h0 h [] ∧ Arv Z h o285 k_o285 .byte m277 (Y zsF) (.int i0) ∧ h0.size ≤ o285 ∧ n0 ≤ o285) := by
  refine Met.mkQ (tabs := tables_1) (a0 := a0) (ls0 := #[rv o53, iv i1, iv m277, un, un, un]) (plainFor_of_name pn_java_lang_StringUTF16) hw Z0 (fun m => by first | (simp [entryFrame, mkF, argsToLocals, Value.category]; done) | rfl) ?_
  intro p e s m below meth c T Q' G' hQ hG C X
  have Kp : Keep h0 h0 [] := Keep.refl _ _
  refine s_iloadN 1 C X d15_0 rfl ?_
  refine s_newarray 3 5 C X d15_1 (mW 34 rfl) (own_nn hvN_m277).1 (own_nn hvN_m277).2 (fun T hh o285 k_o285 hb_o285 X E A_o285 g_o285 => ?_)
  have ne_o53_o285 : o53 ≠ o285 := Nat.ne_of_lt (Nat.lt_of_lt_of_le A_o53.lt (Nat.le_of_eq hb_o285))
  have sz_o285 : h0.size ≤ o285 := Nat.le_trans Kp.1 (Nat.le_of_eq hb_o285)
  have A_o53 := A_o53.ext E
  have Kp := Kp.ext E
  have A_o285 : Arv Z _ o285 k_o285 .byte m277 [(.int i0), (.int i0), (.int i0), (.int i0), (.int i0)] (.int i0) := A_o285.pad (pad_rep [] _ 5)
  refine s_astoreN 4 C X (l' := #[rv o53, iv i1, iv m277, rv o285, un, un]) d15_3 rfl rfl ?_
  refine s_aloadN 5 C X d15_4 rfl rfl ?_
  refine s_iloadN 6 C X d15_5 rfl ?_
  refine s_aloadN 7 C X d15_6 rfl rfl ?_
  refine s_iconst 8 C X d15_7 kc_iconst_0 ?_
  refine s_iloadN 9 C X d15_8 rfl ?_
  refine s_callS 12 [(.ref o53), (.int i1), (.ref o285), (.int i0), (.int m277)] [] 0 C X d15_9 (mW 96 rfl) (mW 97 rfl) (mW 94 rfl) (mW 98 rfl) (rm_a79 l Z a0 hw k_o53 o53 xsF m277 o285 k_o285 _ n0 X.sz A_o53 A_o285 hvN_m277 hvW_m277 ne_o53_o285 g_o285) (lenOf pd___CI_BII_I rfl) rfl rfl rfl (fun T v hh X q => ?_)
  obtain ⟨zsF, rfl, hvZ, A_o285, Kc⟩ := q
  have Kp := Kp.trans Kc (allS (Or.inr sz_o285) all0)
  refine rc (st' := [(.int m277)]) rfl ?_
  refine s_istore 14 C X (l' := #[rv o53, iv i1, iv m277, rv o285, iv m277, un]) d15_12 rfl ?_
  refine s_iload 16 C X d15_14 rfl ?_
  refine s_iloadN 17 C X d15_16 rfl ?_
  refine s_icmp_eq 57 20 C X d15_17 (fun _ => ?_) (fun c => absurd rfl c)
  refine s_aloadN 58 C X d15_57 rfl rfl ?_
  refine s_areturn C X d15_58 rfl rfl rfl ?_ (FG hG (by decide) (by decide))
  exact hQ _ _ ⟨k_o285, o285, zsF, rfl, hvZ, Kp, A_o285, sz_o285, g_o285⟩
theorem rm_a81 (hw : Hw a0 Z) (cs : Int32) (k_o53 : ClassId) (o53 : Addr) (xsF : List Int32) (o276 : Addr) (m277 : Int32) (h0 : Heap) (n0 : Nat) (Z0 : n0 ≤ h0.size) (S_cs : Sta Z Z.heap cS cC "Z" (.int cs)) (A_o53 : Arv Z h0 o53 k_o53 .char i256 (Y xsF) (.int i0)) (E_o276 : Exa Z h0 o276 cS) (F_o276_a : Fld Z h0 o276 cS "value" "[B" .null) (F_o276_k : Fld Z h0 o276 cS "coder" "B" (.int i0)) (Od : Old Z n0 h0) (hv_cs : ¬ cs = i0) (ne_o53_o276 : o53 ≠ o276) (g_o276 : n0 ≤ o276) (hvN_m277 : own_N m277) (hvW_m277 : own_W 1 xsF m277) :
    MetH l Z EL1 [o276] (⟨cS, "<init>", sV⟩ : MethodName) jdk_42_method_149_code 6 none (rM 2 4 8 35) [] #[(.ref o276), (.ref o53), (.int i1), (.int m277), .null] h0 n0 (fun v h => ∃ (bF : Addr) (k_bF : ClassId) (zsF : List Int32), v = none ∧ own_Z 1 xsF m277 zsF ∧ Exa Z h o276 cS ∧ Fld Z h o276 cS "value" "[B" (.ref bF) ∧ Fld Z h o276 cS "coder" "B" (.int i0) ∧ Old Z n0 h ∧ Keep h0 h [o276] ∧ Arv Z h bF k_bF .byte m277 (Y zsF) (.int i0)) := by
  refine MetH.mkQ (tabs := tables_1) (a0 := a0) (ls0 := #[rv o276, rv o53, iv i1, iv m277, .val .null, un]) (plainFor_of_name pn_java_lang_String) hw Z0 (fun m => by first | (simp [entryFrame, mkF, argsToLocals, Value.category]; done) | rfl) ?_
  intro p e s m below meth c T Q' G' vm k1 hQ hG C X hS Rc hso
  have Kp : Keep h0 h0 [o276] := Keep.refl _ _
  have H_o276 : Safe Z EL1 vm h0 o276 := hso _ (by simp)
  refine s_aloadN 1 C X d14_0 rfl rfl ?_
  refine s_objInit 4 C X d14_1 (mW 90 rfl) (mW 12 rfl) (mW 13 rfl) rfl (W := 0) rfl (by decide) (fun T X => ?_)
  refine s_iloadN 5 C X d14_4 rfl ?_
  refine s_if_ne 27 8 C X d14_5 (fun c5_283 => ?_) (fun c5_283 => ?_)
  · have t_c5_283 := ine c5_283
    refine s_getstatic 30 C X (host := "") d14_27 (Or.inl (mW 91 rfl)) Via.refl (S_cs.ext Od.2) (fun T X => ?_)
    refine s_if_eq 58 33 C X d14_30 (fun c => absurd c hv_cs) (fun c30_284 => ?_)
    refine s_aloadN 34 C X d14_33 rfl rfl ?_
    refine s_iloadN 35 C X d14_34 rfl ?_
    refine s_iloadN 36 C X d14_35 rfl ?_
    refine s_callS 39 [(.ref o53), (.int i1), (.int m277)] [] 0 C X d14_36 (mW 92 rfl) (mW 93 rfl) (mW 94 rfl) (mW 95 rfl) (rm_a80 l Z a0 hw k_o53 o53 xsF m277 _ n0 X.sz A_o53 hvN_m277 hvW_m277) (lenOf pd___CII__B rfl) rfl rfl rfl (fun T v hh X q => ?_)
    obtain ⟨k_o285, o285, zsF, rfl, hvZ, Kc, A_o285, sz_o285', g_o285⟩ := q
    have ne_o276_o285 : o276 ≠ o285 := Nat.ne_of_lt (Nat.lt_of_lt_of_le E_o276.lt sz_o285')
    have H_o276 := Safe.keep Kc so0 Rc.1.1 H_o276
    have Rc := Rc.keep Kc so0
    have E_o276 := E_o276.keep Kc
    have F_o276_a := F_o276_a.keep Kc nin0
    have F_o276_k := F_o276_k.keep Kc nin0
    have Od := Od.keep Kc all0
    have Kp := Kp.trans Kc all0
    refine rc (st' := [(.ref o285)]) rfl ?_
    refine s_astore 41 C X (l' := #[rv o276, rv o53, iv i1, iv m277, .val .null, rv o285]) d14_39 rfl rfl ?_
    refine s_aloadN 42 C X d14_41 rfl rfl ?_
    refine s_aload 44 C X d14_42 rfl rfl ?_
    refine s_iloadN 45 C X d14_44 rfl ?_
    refine s_callS 48 [(.ref o285), (.int m277)] [(.ref o276)] 1 C X d14_45 (mW 99 rfl) (mW 100 rfl) (mW 94 rfl) (mW 101 rfl) (rm_a17 l Z a0 hw m277 k_o285 o285 zsF _ n0 X.sz A_o285) (lenOf pd___BI_B rfl) rfl rfl rfl (fun T v hh X q => ?_)
    obtain ⟨rfl, Kc⟩ := q
    have H_o276 := Safe.keep Kc so0 Rc.1.1 H_o276
    have Rc := Rc.keep Kc so0
    have E_o276 := E_o276.keep Kc
    have F_o276_a := F_o276_a.keep Kc nin0
    have F_o276_k := F_o276_k.keep Kc nin0
    have Od := Od.keep Kc all0
    have Kp := Kp.trans Kc all0
    have A_o285 := A_o285.keep Kc nin0
    refine rc (st' := [(.int i0), (.ref o276)]) rfl ?_
    refine s_putfieldN 51 C X d14_48 (mW 102 rfl) Via.refl F_o276_k E_o276 (Or.inr ⟨(mW 36 rfl), rfl, rfl⟩) (mW 33 rfl) (ty := .byte) (by decide) rfl rfl g_o276 (fun T hh X W => ?_)
    have Sf : Safe Z EL1 vm _ o276 := H_o276
    have H_o276 := Safe.wr W Sf Rc.1.1 H_o276
    have Rc := Rc.wr W Sf
    have E_o276 := E_o276.wr W
    have F_o276_a := oth F_o276_a W (Or.inr (hw _ (mW 35 rfl))) (Or.inr (hw _ (mW 36 rfl))) (by decide)
    have F_o276_k := F_o276_k.same W
    have Od := Od.wr W g_o276
    have Kp := Kp.wr W (Or.inl (by simp))
    have A_o285 := A_o285.other W (Ne.symm ne_o276_o285)
    refine s_aloadN 52 C X d14_51 rfl rfl ?_
    refine s_aload 54 C X d14_52 rfl rfl ?_
    refine s_putfield 57 C X (host := "") d14_54 (Or.inl (mW 103 rfl)) Via.refl F_o276_a E_o276 (Or.inr ⟨(mW 35 rfl), rfl, rfl⟩) (mW 33 rfl) (ty := (.array .byte)) (by decide) rfl rfl g_o276 (fun T hh X W => ?_)
    have Sf : Safe Z EL1 vm _ o276 := H_o276
    have Rc := Rc.wr W Sf
    have E_o276 := E_o276.wr W
    have F_o276_a := F_o276_a.same W
    have F_o276_k := oth F_o276_k W (Or.inr (hw _ (mW 36 rfl))) (Or.inr (hw _ (mW 35 rfl))) (by decide)
    have Od := Od.wr W g_o276
    have Kp := Kp.wr W (Or.inl (by simp))
    have A_o285 := A_o285.other W (Ne.symm ne_o276_o285)
    refine s_return C X d14_57 rfl ?_ (FGH hG hS Rc C (own_EL hw))
    obtain ⟨bF, e_bF⟩ : ∃ z : Addr, z = o285 := ⟨_, rfl⟩
    obtain ⟨k_bF, e_k⟩ : ∃ z : ClassId, z = k_o285 := ⟨_, rfl⟩
    rw [← e_bF] at F_o276_a
    obtain ⟨zsF, e_zsF⟩ : ∃ z : List Int32, z = zsF := ⟨_, rfl⟩
    have hvZ : own_Z 1 xsF m277 zsF := by rw [e_zsF]; exact hvZ
    have A_bF : Arv Z hh bF k_bF .byte m277 (Y zsF) (.int i0) := by rw [e_bF, e_k, e_zsF]; exact A_o285
    exact hQ _ _ ⟨bF, k_bF, zsF, rfl, hvZ, E_o276, F_o276_a, F_o276_k, Od, Kp, A_bF⟩
  have t_c5_283 := ieq c5_283
  refine s_aloadN 9 C X d14_8 rfl rfl ?_
  refine s_ldcH 11 0 C X hS Rc.2 (own_EL hw) Rc.1.1 d14_9 (mW 156 rfl) (own_wS hw) (vs := []) (z := i0) (by decide) ⟨by decide, rfl⟩ (by decide) rfl (fun T hh t301 b302 k_b302 vm k1 C X E hS Nk Rn E_t301 F_t301_k F_t301_a A_b302 nS => ?_)
  have H_o276 := Rn.safe E_o276.lt H_o276
  have Rc := Rc.call Rn Nk
  have E_o276 := E_o276.ext E
  have F_o276_a := F_o276_a.ext E
  have F_o276_k := F_o276_k.ext E
  have Od := Od.ext E
  have Kp := Kp.ext E
  have ne_o276_b302 : o276 ≠ b302 := (nS o276 H_o276).2
  refine s_getfield 14 C X (host := "") d14_11 (Or.inl (mW 103 rfl)) Via.refl F_t301_a (fun T X => ?_)
  refine s_putfield 17 C X (host := "") d14_14 (Or.inl (mW 103 rfl)) Via.refl F_o276_a E_o276 (Or.inr ⟨(mW 35 rfl), rfl, rfl⟩) (mW 33 rfl) (ty := (.array .byte)) (by decide) rfl rfl g_o276 (fun T hh X W => ?_)
  have Sf : Safe Z EL1 vm _ o276 := H_o276
  have H_o276 := Safe.wr W Sf Rc.1.1 H_o276
  have Rc := Rc.wr W Sf
  have E_o276 := E_o276.wr W
  have F_o276_a := F_o276_a.same W
  have F_o276_k := oth F_o276_k W (Or.inr (hw _ (mW 36 rfl))) (Or.inr (hw _ (mW 35 rfl))) (by decide)
  have Od := Od.wr W g_o276
  have Kp := Kp.wr W (Or.inl (by simp))
  have A_b302 := A_b302.other W (Ne.symm ne_o276_b302)
  refine s_aloadN 18 C X d14_17 rfl rfl ?_
  refine s_ldcH 20 0 C X hS Rc.2 (own_EL hw) Rc.1.1 d14_18 (mW 156 rfl) (own_wS hw) (vs := []) (z := i0) (by decide) ⟨by decide, rfl⟩ (by decide) rfl (fun T hh t303 b304 k_b304 vm k1 C X E hS Nk Rn E_t303 F_t303_k F_t303_a A_b304 nS => ?_)
  have H_o276 := Rn.safe E_o276.lt H_o276
  have Rc := Rc.call Rn Nk
  have E_o276 := E_o276.ext E
  have F_o276_a := F_o276_a.ext E
  have F_o276_k := F_o276_k.ext E
  have Od := Od.ext E
  have Kp := Kp.ext E
  have A_b302 := A_b302.ext E
  refine s_getfield 23 C X (host := "") d14_20 (Or.inl (mW 102 rfl)) Via.refl F_t303_k (fun T X => ?_)
  refine s_putfieldN 26 C X d14_23 (mW 102 rfl) Via.refl F_o276_k E_o276 (Or.inr ⟨(mW 36 rfl), rfl, rfl⟩) (mW 33 rfl) (ty := .byte) (by decide) rfl rfl g_o276 (fun T hh X W => ?_)
  have Sf : Safe Z EL1 vm _ o276 := H_o276
  have Rc := Rc.wr W Sf
  have E_o276 := E_o276.wr W
  have F_o276_a := oth F_o276_a W (Or.inr (hw _ (mW 35 rfl))) (Or.inr (hw _ (mW 36 rfl))) (by decide)
  have F_o276_k := F_o276_k.same W
  have Od := Od.wr W g_o276
  have Kp := Kp.wr W (Or.inl (by simp))
  have A_b302 := A_b302.other W (Ne.symm ne_o276_b302)
  refine s_return C X d14_26 rfl ?_ (FGH hG hS Rc C (own_EL hw))
  obtain ⟨bF, e_bF⟩ : ∃ z : Addr, z = b302 := ⟨_, rfl⟩
  obtain ⟨k_bF, e_k⟩ : ∃ z : ClassId, z = k_b302 := ⟨_, rfl⟩
  rw [← e_bF] at F_o276_a
  obtain ⟨zsF, e_zsF⟩ : ∃ z : List Int32, z = [0, 0, 0, 0, 0] := ⟨_, rfl⟩
  have hvZ : own_Z 1 xsF m277 zsF := by rw [e_zsF]; exact own_z10 (Int.le_of_eq t_c5_283)
  have A_bF : Arv Z hh bF k_bF .byte m277 (Y zsF) (.int i0) := by rw [e_bF, e_k, e_zsF, own_0 t_c5_283]; exact A_b302.pad (pad_rep [] _ 5)
  exact hQ _ _ ⟨bF, k_bF, zsF, rfl, hvZ, E_o276, F_o276_a, F_o276_k, Od, Kp, A_bF⟩
theorem rm_a82 (hw : Hw a0 Z) (cs : Int32) (fm : Value) (k_o53 : ClassId) (o53 : Addr) (xsF : List Int32) (o276 : Addr) (m277 : Int32) (h0 : Heap) (n0 : Nat) (Z0 : n0 ≤ h0.size) (Od : Old Z n0 h0) (S_cs : Sta Z Z.heap cS cC "Z" (.int cs)) (S_fm : Sta Z Z.heap cP cM cF fm) (A_o53 : Arv Z h0 o53 k_o53 .char i256 (Y xsF) (.int i0)) (E_o276 : Exa Z h0 o276 cS) (F_o276_a : Fld Z h0 o276 cS "value" "[B" .null) (F_o276_k : Fld Z h0 o276 cS "coder" "B" (.int i0)) (hv_cs : ¬ cs = i0) (hv_fm : fm.isRef = true) (ne_o53_o276 : o53 ≠ o276) (g_o276 : n0 ≤ o276) (hvN_m277 : own_N m277) (hvW_m277 : own_W 1 xsF m277) :
    MetH l Z EL1 [o276] (⟨cS, "<init>", "([CII)V"⟩ : MethodName) jdk_42_method_4_code 4 none (rM 3 4 8 52) [] #[(.ref o276), (.ref o53), (.int i1), (.int m277)] h0 n0 (fun v h => ∃ (bF : Addr) (k_bF : ClassId) (zsF : List Int32), v = none ∧ own_Z 1 xsF m277 zsF ∧ Keep h0 h [o276] ∧ Exa Z h o276 cS ∧ Fld Z h o276 cS "value" "[B" (.ref bF) ∧ Fld Z h o276 cS "coder" "B" (.int i0) ∧ Old Z n0 h ∧ Arv Z h bF k_bF .byte m277 (Y zsF) (.int i0)) := by
  refine MetH.mkQ (tabs := tables_1) (a0 := a0) (ls0 := #[rv o276, rv o53, iv i1, iv m277]) (plainFor_of_name pn_java_lang_String) hw Z0 (fun m => by first | (simp [entryFrame, mkF, argsToLocals, Value.category]; done) | rfl) ?_
  intro p e s m below meth c T Q' G' vm k1 hQ hG C X hS Rc hso
  have Kp : Keep h0 h0 [o276] := Keep.refl _ _
  have H_o276 : Safe Z EL1 vm h0 o276 := hso _ (by simp)
  refine s_aloadN 1 C X d10_0 rfl rfl ?_
  refine s_aloadN 2 C X d10_1 rfl rfl ?_
  refine s_iloadN 3 C X d10_2 rfl ?_
  refine s_iloadN 4 C X d10_3 rfl ?_
  refine s_aloadN 5 C X d10_4 rfl rfl ?_
  refine s_iloadN 6 C X d10_5 rfl ?_
  refine s_iloadN 7 C X d10_6 rfl ?_
  refine s_callS 10 [(.ref o53), (.int i1), (.int m277)] [(.int m277), (.int i1), (.ref o53), (.ref o276)] 4 C X d10_7 (mW 76 rfl) (mW 77 rfl) (mW 32 rfl) (mW 78 rfl) (rm_a78 l Z a0 hw fm k_o53 o53 xsF m277 _ n0 X.sz Od S_fm A_o53 hv_fm hvN_m277) (lenOf pd___CII_Ljava_lang_Void_ rfl) rfl rfl rfl (fun T v hh X q => ?_)
  obtain ⟨rfl, Kc, Od⟩ := q
  have H_o276 := Safe.keep Kc so0 Rc.1.1 H_o276
  have Rc := Rc.keep Kc so0
  have A_o53 := A_o53.keep Kc nin0
  have E_o276 := E_o276.keep Kc
  have F_o276_a := F_o276_a.keep Kc nin0
  have F_o276_k := F_o276_k.keep Kc nin0
  have Kp := Kp.trans Kc all0
  refine rc (st' := [.null, (.int m277), (.int i1), (.ref o53), (.ref o276)]) rfl ?_
  refine s_hcallC 13 [(.ref o53), (.int i1), (.int m277), .null] [] 0 C X hS Rc.2 (own_EL hw) Rc.1.1 d10_10 rfl (mW 87 rfl) (mW 88 rfl) (mW 32 rfl) (mW 89 rfl) (rm_a81 l Z a0 hw cs k_o53 o53 xsF o276 m277 _ n0 X.sz S_cs A_o53 E_o276 F_o276_a F_o276_k Od hv_cs ne_o53_o276 g_o276 hvN_m277 hvW_m277) (lenOf pd___CIILjava_lang_Void__V rfl) rfl rfl rfl (soS ⟨E_o276.lt, H_o276⟩ so0) (fun T v hh vm k1 C X hS Nk Rn q => ?_)
  obtain ⟨bF, k_bF, zsF, rfl, hvZ, E_o276, F_o276_a, F_o276_k, Od, Kc, A_bF⟩ := q
  have Rc := Rc.call Rn Nk
  have Kp := Kp.trans Kc (allS (Or.inl (by simp)) all0)
  refine rc (st' := []) rfl ?_
  refine s_return C X d10_13 rfl ?_ (FGH hG hS Rc C (own_EL hw))
  exact hQ _ _ ⟨bF, k_bF, zsF, rfl, hvZ, Kp, E_o276, F_o276_a, F_o276_k, Od, A_bF⟩
theorem rm_a83 (hw : Hw a0 Z) (cs : Int32) (fm : Value) (yF : Int32) (yF_5 : Int32) (yF_9 : Int32) (yF_13 : Int32) (yF_17 : Int32) (yF_21 : Int32) (nv27 : Int32) (o46 : Addr) (k_o51 : ClassId) (k_o52 : ClassId) (k_o53 : ClassId) (o51 : Addr) (o52 : Addr) (o53 : Addr) (tF : Int32) (xsF : List Int32) (h0 : Heap) (n0 : Nat) (Z0 : n0 ≤ h0.size) (Od : Old Z n0 h0) (S_cs : Sta Z Z.heap cS cC "Z" (.int cs)) (S_fm : Sta Z Z.heap cP cM cF fm) (A_o52 : Arv Z h0 o52 k_o52 (.object cS) i8 [.null, .null, .null, .null, .null, .null, .null, .null] .null) (F_o46_s : Fld Z h0 o46 cE fs "[I" (.ref o51)) (F_o46_g : Fld Z h0 o46 cE fg cG (.ref o52)) (F_o46_v : Fld Z h0 o46 cE fv "[C" (.ref o53)) (A_o51 : Arv Z h0 o51 k_o51 .int i9 [(.int i0), (.int i1), (.int tF), (.int i0), (.int i0), (.int i0), (.int i0), (.int i0), (.int i0)] (.int i0)) (A_o53 : Arv Z h0 o53 k_o53 .char i256 (Y xsF) (.int i0)) (hv_cs : ¬ cs = i0) (hv_fm : fm.isRef = true) (hvB : own_B yF) (hvB_6 : own_B yF_5) (hvB_10 : own_B yF_9) (hvB_14 : own_B yF_13) (hvB_18 : own_B yF_17) (g_o52 : n0 ≤ o52) (ne_o46_o52 : o46 ≠ o52) (ne_o51_o52 : o51 ≠ o52) (ne_o52_o53 : o52 ≠ o53) (O_o52 : Ovr Z k_o52 cS) (hvC : own_C 1 [yF_21] [yF, yF_5, yF_9, yF_13, yF_17] nv27 xsF tF) :
    MetH l Z EL1 [] (⟨cE, "value", "(I)Ljava/lang/String;"⟩ : MethodName) prog_35_method_7_code 2 (some (.object cS)) (rM 4 5 12 70) [] #[(.ref o46), (.int i1)] h0 n0 (fun v h => ∃ (bF : Addr) (k_bF : ClassId) (m277 : Int32) (o276 : Addr) (zsF : List Int32), v = some (.ref o276) ∧ m277.toInt = (col [yF, yF_5, yF_9, yF_13, yF_17] nv27.toNatClampNeg).length ∧ own_Z 1 xsF m277 zsF ∧ Arv Z h o52 k_o52 (.object cS) i8 [.null, (.ref o276), .null, .null, .null, .null, .null, .null] .null ∧ Keep h0 h [o52] ∧ Exa Z h o276 cS ∧ Fld Z h o276 cS "value" "[B" (.ref bF) ∧ Fld Z h o276 cS "coder" "B" (.int i0) ∧ Old Z n0 h ∧ Arv Z h bF k_bF .byte m277 (Y zsF) (.int i0) ∧ o52 ≠ o276 ∧ h0.size ≤ o276 ∧ n0 ≤ o276 ∧ bF ≠ o52) := by
  refine MetH.mkQ (tabs := tables_1) (a0 := a0) (ls0 := #[rv o46, iv i1]) (plainFor_of_name pn_com_example_medis_medis_engine_ElementAttributes) hw Z0 (fun m => by first | (simp [entryFrame, mkF, argsToLocals, Value.category]; done) | rfl) ?_
  intro p e s m below meth c T Q' G' vm k1 hQ hG C X hS Rc hso
  have Kp : Keep h0 h0 [o52] := Keep.refl _ _
  refine s_aloadN 1 C X d9_0 rfl rfl ?_
  refine s_getfield 4 C X (host := "") d9_1 (Or.inl (mW 27 rfl)) Via.refl F_o46_g (fun T X => ?_)
  refine s_iloadN 5 C X d9_4 rfl ?_
  refine s_aaload 6 C X d9_5 A_o52 rfl ⟨by decide, by decide⟩ (v := .null) rfl ?_
  refine s_ifnonnullN 9 C X d9_6 ?_
  refine s_aloadN 10 C X d9_9 rfl rfl ?_
  refine s_getfield 13 C X (host := "") d9_10 (Or.inl (mW 27 rfl)) Via.refl F_o46_g (fun T X => ?_)
  refine s_iloadN 14 C X d9_13 rfl ?_
  refine s_new 17 C X d9_14 (mW 14 rfl) (mW 33 rfl) (mW 32 rfl) (fun T hh o276 hb_o276 X E E_o276 D g_o276 => ?_)
  have H_o276 : Safe Z EL1 vm _ o276 := Safe.ext E Rc.1.1 (Safe.new (Nat.le_of_eq hb_o276))
  have Rc := Rc.ext E
  have ne_o52_o276 : o52 ≠ o276 := Nat.ne_of_lt (Nat.lt_of_lt_of_le A_o52.lt (Nat.le_of_eq hb_o276))
  have ne_o46_o276 : o46 ≠ o276 := Nat.ne_of_lt (Nat.lt_of_lt_of_le F_o46_s.lt (Nat.le_of_eq hb_o276))
  have ne_o53_o276 : o53 ≠ o276 := Nat.ne_of_lt (Nat.lt_of_lt_of_le A_o53.lt (Nat.le_of_eq hb_o276))
  have sz_o276 : h0.size ≤ o276 := Nat.le_trans Kp.1 (Nat.le_of_eq hb_o276)
  have Od := Od.ext E
  have A_o52 := A_o52.ext E
  have F_o46_s := F_o46_s.ext E
  have F_o46_g := F_o46_g.ext E
  have F_o46_v := F_o46_v.ext E
  have A_o51 := A_o51.ext E
  have A_o53 := A_o53.ext E
  have Kp := Kp.ext E
  have F_o276_a : Fld Z _ o276 cS "value" "[B" .null := D (Or.inr (hw _ (mW 35 rfl))) (ty := (.array .byte)) (by decide)
  have F_o276_k : Fld Z _ o276 cS "coder" "B" (.int i0) := D (Or.inr (hw _ (mW 36 rfl))) (ty := .byte) (by decide)
  refine s_dup 18 C X d9_17 rfl ?_
  refine s_aloadN 19 C X d9_18 rfl rfl ?_
  refine s_getfield 22 C X (host := "") d9_19 (Or.inl (mW 29 rfl)) Via.refl F_o46_v (fun T X => ?_)
  refine s_aloadN 23 C X d9_22 rfl rfl ?_
  refine s_getfield 26 C X (host := "") d9_23 (Or.inl (mW 25 rfl)) Via.refl F_o46_s (fun T X => ?_)
  refine s_iloadN 27 C X d9_26 rfl ?_
  refine s_iaload 28 C X d9_27 A_o51 ⟨by decide, by decide⟩ (v := (.int i1)) rfl ?_
  refine s_aloadN 29 C X d9_28 rfl rfl ?_
  refine s_getfield 32 C X (host := "") d9_29 (Or.inl (mW 25 rfl)) Via.refl F_o46_s (fun T X => ?_)
  refine s_iloadN 33 C X d9_32 rfl ?_
  refine s_iconst 34 C X d9_33 kc_iconst_1 ?_
  refine s_iadd 35 C X d9_34 ?_
  refine rc (st' := [(.int i2), (.ref o51), (.int i1), (.ref o53), (.ref o276), (.ref o276), (.int i1), (.ref o52)]) (by rw [kf_7]) ?_
  refine s_iaload 36 C X d9_35 A_o51 ⟨by decide, by decide⟩ (v := (.int tF)) rfl ?_
  refine s_aloadN 37 C X d9_36 rfl rfl ?_
  refine s_getfield 40 C X (host := "") d9_37 (Or.inl (mW 25 rfl)) Via.refl F_o46_s (fun T X => ?_)
  refine s_iloadN 41 C X d9_40 rfl ?_
  refine s_iaload 42 C X d9_41 A_o51 ⟨by decide, by decide⟩ (v := (.int i1)) rfl ?_
  refine s_isub 43 C X d9_42 ?_
  obtain ⟨m277, e_m277⟩ : ∃ zz_ : Int32, zz_ = (tF - i1) := ⟨_, rfl⟩
  refine rc (st' := [(.int m277), (.int i1), (.ref o53), (.ref o276), (.ref o276), (.int i1), (.ref o52)]) (by subst e_m277; rfl) ?_
  have qm := own_m hvC e_m277 rfl (by decide) (own_B5 hvB hvB_6 hvB_10 hvB_14 hvB_18)
  have hvN_m277 : own_N m277 := qm.1
  have hvW_m277 : own_W 1 xsF m277 := qm.2.1
  have hvL : m277.toInt = (col [yF, yF_5, yF_9, yF_13, yF_17] nv27.toNatClampNeg).length := qm.2.2
  refine s_hcallC 46 [(.ref o53), (.int i1), (.int m277)] [(.ref o276), (.int i1), (.ref o52)] 3 C X hS Rc.2 (own_EL hw) Rc.1.1 d9_43 rfl (mW 73 rfl) (mW 74 rfl) (mW 32 rfl) (mW 75 rfl) (rm_a82 l Z a0 hw cs fm k_o53 o53 xsF o276 m277 _ n0 X.sz Od S_cs S_fm A_o53 E_o276 F_o276_a F_o276_k hv_cs hv_fm ne_o53_o276 g_o276 hvN_m277 hvW_m277) (lenOf pd___CII_V rfl) rfl rfl rfl (soS ⟨E_o276.lt, H_o276⟩ so0) (fun T v hh vm k1 C X hS Nk Rn q => ?_)
  obtain ⟨bF, k_bF, zsF, rfl, hvZ, Kc, E_o276, F_o276_a, F_o276_k, Od, A_bF⟩ := q
  have Rc := Rc.call Rn Nk
  have A_o52 := A_o52.keep Kc (ninS ne_o52_o276 nin0)
  have F_o46_g := F_o46_g.keep Kc (ninS ne_o46_o276 nin0)
  have Kp := Kp.trans Kc (allS (Or.inr sz_o276) all0)
  refine rc (st' := [(.ref o276), (.int i1), (.ref o52)]) rfl ?_
  have ne_bF_o52 : bF ≠ o52 := own_ane A_bF A_o52 (by decide)
  have Sf : Safe Z EL1 vm _ o52 := (Safe.arv C.2.1.alike A_o52 (by decide))
  refine s_aastore 47 1 C X d9_46 A_o52 rfl rfl (fun _ A q => Sto.ofV A q O_o52 (Ins.self E_o276)) g_o52 ⟨by decide, by decide⟩ rfl (Nat.le_of_ble_eq_true rfl) (fun T hh X W A_o52 => ?_)
  have A_o52 : Arv Z _ o52 k_o52 (.object cS) i8 [.null, (.ref o276), .null, .null, .null, .null, .null, .null] .null := A_o52
  have Rc := Rc.wr W Sf
  have F_o46_g := F_o46_g.other W (Or.inl ne_o46_o52)
  have Kp := Kp.wr W (Or.inl (by simp))
  have E_o276 := E_o276.wr W
  have F_o276_a := F_o276_a.other W (Or.inl (Ne.symm ne_o52_o276))
  have F_o276_k := F_o276_k.other W (Or.inl (Ne.symm ne_o52_o276))
  have Od := Od.wr W g_o52
  have A_bF := A_bF.other W ne_bF_o52
  refine s_aloadN 48 C X d9_47 rfl rfl ?_
  refine s_getfield 51 C X (host := "") d9_48 (Or.inl (mW 27 rfl)) Via.refl F_o46_g (fun T X => ?_)
  refine s_iloadN 52 C X d9_51 rfl ?_
  refine s_aaload 53 C X d9_52 A_o52 rfl ⟨by decide, by decide⟩ (v := (.ref o276)) rfl ?_
  refine s_areturn C X d9_53 rfl rfl rfl ?_ (FGH hG hS Rc C (own_EL hw))
  exact hQ _ _ ⟨bF, k_bF, m277, o276, zsF, rfl, hvL, hvZ, A_o52, Kp, E_o276, F_o276_a, F_o276_k, Od, A_bF, ne_o52_o276, sz_o276, g_o276, ne_bF_o52⟩
theorem rm_a84 (hw : Hw a0 Z) (fm : Value) (h0 : Heap) (n0 : Nat) (Z0 : n0 ≤ h0.size) (hv_fm : fm.isRef = true) :
    Met l Z (⟨cP, "checkFromIndexSize", sI⟩ : MethodName) jdk_41_method_13_code 4 (some .int) (rM 0 0 0 0) [] #[(.int i0), (.int i1), (.int i256), fm] h0 n0 (fun v h => v = some (.int i0) ∧ Keep h0 h []) := by
  refine Met.mkQ (tabs := tables_1) (a0 := a0) (ls0 := #[iv i0, iv i1, iv i256, .val fm]) (plainFor_of_name pn_jdk_internal_util_Preconditions) hw Z0 (fun m => by first | (simp [entryFrame, mkF, argsToLocals, Value.category]; done) | rfl | (cases fm <;> first | (simp [entryFrame, mkF, argsToLocals, Value.category]; done) | (exact absurd hv_fm (by simp [Value.isRef])))) ?_
  intro p e s m below meth c T Q' G' hQ hG C X
  have Kp : Keep h0 h0 [] := Keep.refl _ _
  refine s_iloadN 1 C X d13_0 rfl ?_
  refine s_iloadN 2 C X d13_1 rfl ?_
  refine s_ior 3 C X d13_2 ?_
  refine rc (st' := [(.int i256)]) (by rw [kf_2]) ?_
  refine s_iloadN 4 C X d13_3 rfl ?_
  refine s_ior 5 C X d13_4 ?_
  refine rc (st' := [(.int i257)]) (by rw [kf_15]) ?_
  refine s_if_lt 15 8 C X d13_5 (fun c => absurd c (by decide)) (fun _ => ?_)
  refine s_iloadN 9 C X d13_8 rfl ?_
  refine s_iloadN 10 C X d13_9 rfl ?_
  refine s_iloadN 11 C X d13_10 rfl ?_
  refine s_isub 12 C X d13_11 ?_
  refine rc (st' := [(.int i256), (.int i1)]) (by rw [kf_3]) ?_
  refine s_icmp_le 23 15 C X d13_12 (fun _ => ?_) (fun c => absurd c (by decide))
  refine s_iloadN 24 C X d13_23 rfl ?_
  refine s_ireturn C X d13_24 rfl ?_ (FG hG (by decide) (by decide))
  exact hQ _ _ ⟨rfl, Kp⟩
theorem rm_a85 (hw : Hw a0 Z) (fm : Value) (h0 : Heap) (n0 : Nat) (Z0 : n0 ≤ h0.size) (S_fm : Sta Z Z.heap cP cM cF fm) (Od : Old Z n0 h0) (hv_fm : fm.isRef = true) :
    Met l Z (⟨cS, "checkBoundsOffCount", "(III)I"⟩ : MethodName) jdk_42_method_157_code 3 (some .int) (rM 1 0 0 15) [] #[(.int i0), (.int i1), (.int i256)] h0 n0 (fun v h => v = some (.int i0) ∧ Old Z n0 h ∧ Keep h0 h []) := by
  refine Met.mkQ (tabs := tables_1) (a0 := a0) (ls0 := #[iv i0, iv i1, iv i256]) (plainFor_of_name pn_java_lang_String) hw Z0 (fun m => by first | (simp [entryFrame, mkF, argsToLocals, Value.category]; done) | rfl) ?_
  intro p e s m below meth c T Q' G' hQ hG C X
  have Kp : Keep h0 h0 [] := Keep.refl _ _
  refine s_iloadN 1 C X d12_0 rfl ?_
  refine s_iloadN 2 C X d12_1 rfl ?_
  refine s_iloadN 3 C X d12_2 rfl ?_
  refine s_getstatic 6 C X (host := "") d12_3 (Or.inl (mW 82 rfl)) Via.refl (S_fm.ext Od.2) (fun T X => ?_)
  refine s_callS 9 [(.int i0), (.int i1), (.int i256), fm] [] 0 C X d12_6 (mW 84 rfl) (mW 85 rfl) (mW 83 rfl) (mW 86 rfl) (rm_a84 l Z a0 hw fm _ n0 X.sz hv_fm) (lenOf pd__IIILjava_util_function_BiFunction__I rfl) rfl rfl rfl (fun T v hh X q => ?_)
  obtain ⟨rfl, Kc⟩ := q
  have Od := Od.keep Kc all0
  have Kp := Kp.trans Kc all0
  refine rc (st' := [(.int i0)]) rfl ?_
  refine s_ireturn C X d12_9 rfl ?_ (FG hG (by decide) (by decide))
  exact hQ _ _ ⟨rfl, Od, Kp⟩
theorem rm_a86 (hw : Hw a0 Z) (fm : Value) (k_o53 : ClassId) (o53 : Addr) (xsF : List Int32) (h0 : Heap) (n0 : Nat) (Z0 : n0 ≤ h0.size) (S_fm : Sta Z Z.heap cP cM cF fm) (A_o53 : Arv Z h0 o53 k_o53 .char i256 (Y xsF) (.int i0)) (Od : Old Z n0 h0) (hv_fm : fm.isRef = true) :
    Met l Z (⟨cS, "rangeCheck", "([CII)Ljava/lang/Void;"⟩ : MethodName) jdk_42_method_5_code 3 (some (.object "java/lang/Void")) (rM 2 0 0 29) [] #[(.ref o53), (.int i0), (.int i1)] h0 n0 (fun v h => v = some .null ∧ Keep h0 h [] ∧ Old Z n0 h) := by
  refine Met.mkQ (tabs := tables_1) (a0 := a0) (ls0 := #[rv o53, iv i0, iv i1]) (plainFor_of_name pn_java_lang_String) hw Z0 (fun m => by first | (simp [entryFrame, mkF, argsToLocals, Value.category]; done) | rfl) ?_
  intro p e s m below meth c T Q' G' hQ hG C X
  have Kp : Keep h0 h0 [] := Keep.refl _ _
  refine s_iloadN 1 C X d11_0 rfl ?_
  refine s_iloadN 2 C X d11_1 rfl ?_
  refine s_aloadN 3 C X d11_2 rfl rfl ?_
  refine s_arraylength 4 C X d11_3 A_o53 ?_
  refine s_callS 7 [(.int i0), (.int i1), (.int i256)] [] 0 C X d11_4 (mW 79 rfl) (mW 80 rfl) (mW 32 rfl) (mW 81 rfl) (rm_a85 l Z a0 hw fm _ n0 X.sz S_fm Od hv_fm) (lenOf pd__III_I rfl) rfl rfl rfl (fun T v hh X q => ?_)
  obtain ⟨rfl, Od, Kc⟩ := q
  have Kp := Kp.trans Kc all0
  refine rc (st' := [(.int i0)]) rfl ?_
  refine s_pop 8 C X d11_7 rfl ?_
  refine s_aconstNull 9 C X d11_8 ?_
  refine s_areturn C X d11_9 rfl rfl rfl ?_ (FG hG (by decide) (by decide))
  exact hQ _ _ ⟨rfl, Kp, Od⟩
theorem rm_a87 (hw : Hw a0 Z) (yF_21 : Int32) (k_o53 : ClassId) (o53 : Addr) (xsF : List Int32) (o429 : Addr) (k_o429 : ClassId) (h0 : Heap) (n0 : Nat) (Z0 : n0 ≤ h0.size) (A_o53 : Arv Z h0 o53 k_o53 .char i256 (Y xsF) (.int i0)) (A_o429 : Arv Z h0 o429 k_o429 .byte i1 [(.int i0)] (.int i0)) (hvB_22 : own_B yF_21) (hvl0 : (Y xsF).getD (i0).toNatClampNeg (.int 0) = .int yF_21) (ne_o53_o429 : o53 ≠ o429) (g_o429 : n0 ≤ o429) :
    Met l Z (⟨cU, "compress", "([CI[BII)I"⟩ : MethodName) jdk_52_method_21_code 7 (some .int) (rM 0 0 0 0) [] #[(.ref o53), (.int i0), (.ref o429), (.int i0), (.int i1)] h0 n0 (fun v h => v = some (.int i1) ∧ Arv Z h o429 k_o429 .byte i1 [(.int (bv yF_21))] (.int i0) ∧ Keep h0 h [o429]) := by
  refine Met.mkQ (tabs := tables_1) (a0 := a0) (ls0 := #[rv o53, iv i0, rv o429, iv i0, iv i1, un, un]) (plainFor_of_name pn_java_lang_StringUTF16) hw Z0 (fun m => by first | (simp [entryFrame, mkF, argsToLocals, Value.category]; done) | rfl) ?_
  intro p e s m below meth c T Q' G' hQ hG C X
  have Kp : Keep h0 h0 [o429] := Keep.refl _ _
  refine s_iconst 1 C X d16_0 kc_iconst_0 ?_
  refine s_istore 3 C X (l' := #[rv o53, iv i0, rv o429, iv i0, iv i1, iv i0, un]) d16_1 rfl ?_
  refine s_iload 5 C X d16_3 rfl ?_
  refine s_iload 7 C X d16_5 rfl ?_
  refine s_icmp_ge 44 10 C X d16_7 (fun c => absurd (by decide : i0 < i1) c) (fun _ => ?_)
  refine s_aloadN 11 C X d16_10 rfl rfl ?_
  refine s_iloadN 12 C X d16_11 rfl ?_
  refine s_caload 13 C X d16_12 A_o53 ⟨by decide, by decide⟩ (v := (.int yF_21)) hvl0 ?_
  refine s_istore 15 C X (l' := #[rv o53, iv i0, rv o429, iv i0, iv i1, iv i0, iv yF_21]) d16_13 rfl ?_
  refine s_iload 17 C X d16_15 rfl ?_
  refine s_sipush 20 C X d16_17 kc_sipush_255 ?_
  refine s_icmp_le 26 23 C X d16_20 (fun c20_431 => ?_) (fun c => absurd c (own_le hvB_22))
  refine s_aloadN 27 C X d16_26 rfl rfl ?_
  refine s_iloadN 28 C X d16_27 rfl ?_
  refine s_iload 30 C X d16_28 rfl ?_
  refine s_i2b 31 C X d16_30 ?_
  refine s_bastore 32 0 C X d16_31 A_o429 g_o429 ⟨by decide, by decide⟩ rfl (Nat.le_of_ble_eq_true rfl) (fun T hh X W A_o429 => ?_)
  have A_o429 : Arv Z _ o429 k_o429 .byte i1 [(.int (nar .byte (yF_21).toInt8.toInt32))] (.int i0) := A_o429
  have Kp := Kp.wr W (Or.inl (by simp))
  have A_o429 : Arv Z _ o429 k_o429 .byte i1 [(.int (bv yF_21))] (.int i0) := A_o429
  refine s_iinc 35 C X (l' := #[rv o53, iv i1, rv o429, iv i0, iv i1, iv i0, iv yF_21]) d16_32 kc_iconst_1 rfl rfl ?_
  refine s_iinc 38 C X (l' := #[rv o53, iv i1, rv o429, iv i1, iv i1, iv i0, iv yF_21]) d16_35 kc_iconst_1 rfl rfl ?_
  refine s_iinc 41 C X (l' := #[rv o53, iv i1, rv o429, iv i1, iv i1, iv i1, iv yF_21]) d16_38 kc_iconst_1 rfl rfl ?_
  refine s_goto 3 C X d16_41 ?_
  refine s_iload 5 C X d16_3 rfl ?_
  refine s_iload 7 C X d16_5 rfl ?_
  refine s_icmp_ge 44 10 C X d16_7 (fun _ => ?_) (fun c => absurd c (by decide))
  refine s_iload 46 C X d16_44 rfl ?_
  refine s_ireturn C X d16_46 rfl ?_ (FG hG (by decide) (by decide))
  exact hQ _ _ ⟨rfl, A_o429, Kp⟩
theorem rm_a88 (hw : Hw a0 Z) (yF_21 : Int32) (k_o53 : ClassId) (o53 : Addr) (xsF : List Int32) (h0 : Heap) (n0 : Nat) (Z0 : n0 ≤ h0.size) (A_o53 : Arv Z h0 o53 k_o53 .char i256 (Y xsF) (.int i0)) (hvB_22 : own_B yF_21) (hvl0 : (Y xsF).getD (i0).toNatClampNeg (.int 0) = .int yF_21) :
    Met l Z (⟨cU, "compress", "([CII)[B"⟩ : MethodName) jdk_52_method_16_code 6 (some (.array .byte)) (rM 1 1 1 18) [] #[(.ref o53), (.int i0), (.int i1)] h0 n0 (fun v h => ∃ (k_o429 : ClassId) (o429 : Addr), v = some (.ref o429) ∧ Keep h0 h [] ∧ Arv Z h o429 k_o429 .byte i1 [(.int (bv yF_21))] (.int i0) ∧ h0.size ≤ o429 ∧ n0 ≤ o429) := by
  refine Met.mkQ (tabs := tables_1) (a0 := a0) (ls0 := #[rv o53, iv i0, iv i1, un, un, un]) (plainFor_of_name pn_java_lang_StringUTF16) hw Z0 (fun m => by first | (simp [entryFrame, mkF, argsToLocals, Value.category]; done) | rfl) ?_
  intro p e s m below meth c T Q' G' hQ hG C X
  have Kp : Keep h0 h0 [] := Keep.refl _ _
  refine s_iloadN 1 C X d15_0 rfl ?_
  refine s_newarray 3 1 C X d15_1 (mW 34 rfl) (by decide) (by decide) (fun T hh o429 k_o429 hb_o429 X E A_o429 g_o429 => ?_)
  have ne_o53_o429 : o53 ≠ o429 := Nat.ne_of_lt (Nat.lt_of_lt_of_le A_o53.lt (Nat.le_of_eq hb_o429))
  have sz_o429 : h0.size ≤ o429 := Nat.le_trans Kp.1 (Nat.le_of_eq hb_o429)
  have A_o53 := A_o53.ext E
  have Kp := Kp.ext E
  have A_o429 : Arv Z _ o429 k_o429 .byte i1 [(.int i0)] (.int i0) := A_o429.pad (pad_rep [] _ 1)
  refine s_astoreN 4 C X (l' := #[rv o53, iv i0, iv i1, rv o429, un, un]) d15_3 rfl rfl ?_
  refine s_aloadN 5 C X d15_4 rfl rfl ?_
  refine s_iloadN 6 C X d15_5 rfl ?_
  refine s_aloadN 7 C X d15_6 rfl rfl ?_
  refine s_iconst 8 C X d15_7 kc_iconst_0 ?_
  refine s_iloadN 9 C X d15_8 rfl ?_
  refine s_callS 12 [(.ref o53), (.int i0), (.ref o429), (.int i0), (.int i1)] [] 0 C X d15_9 (mW 96 rfl) (mW 97 rfl) (mW 94 rfl) (mW 98 rfl) (rm_a87 l Z a0 hw yF_21 k_o53 o53 xsF o429 k_o429 _ n0 X.sz A_o53 A_o429 hvB_22 hvl0 ne_o53_o429 g_o429) (lenOf pd___CI_BII_I rfl) rfl rfl rfl (fun T v hh X q => ?_)
  obtain ⟨rfl, A_o429, Kc⟩ := q
  have Kp := Kp.trans Kc (allS (Or.inr sz_o429) all0)
  refine rc (st' := [(.int i1)]) rfl ?_
  refine s_istore 14 C X (l' := #[rv o53, iv i0, iv i1, rv o429, iv i1, un]) d15_12 rfl ?_
  refine s_iload 16 C X d15_14 rfl ?_
  refine s_iloadN 17 C X d15_16 rfl ?_
  refine s_icmp_eq 57 20 C X d15_17 (fun _ => ?_) (fun c => absurd (by decide : i1 = i1) c)
  refine s_aloadN 58 C X d15_57 rfl rfl ?_
  refine s_areturn C X d15_58 rfl rfl rfl ?_ (FG hG (by decide) (by decide))
  exact hQ _ _ ⟨k_o429, o429, rfl, Kp, A_o429, sz_o429, g_o429⟩
theorem rm_a89 (hw : Hw a0 Z) (yF_21 : Int32) (k_o429 : ClassId) (o429 : Addr) (h0 : Heap) (n0 : Nat) (Z0 : n0 ≤ h0.size) (A_o429 : Arv Z h0 o429 k_o429 .byte i1 [(.int (bv yF_21))] (.int i0)) :
    Met l Z (⟨cU, "coderFromArrayLen", "([BI)B"⟩ : MethodName) jdk_52_method_15_code 2 (some .byte) (rM 0 0 0 0) [] #[(.ref o429), (.int i1)] h0 n0 (fun v h => v = some (.int i0) ∧ Keep h0 h []) := by
  refine Met.mkQ (tabs := tables_1) (a0 := a0) (ls0 := #[rv o429, iv i1]) (plainFor_of_name pn_java_lang_StringUTF16) hw Z0 (fun m => by first | (simp [entryFrame, mkF, argsToLocals, Value.category]; done) | rfl) ?_
  intro p e s m below meth c T Q' G' hQ hG C X
  have Kp : Keep h0 h0 [] := Keep.refl _ _
  refine s_iloadN 1 C X d17_0 rfl ?_
  refine s_aloadN 2 C X d17_1 rfl rfl ?_
  refine s_arraylength 3 C X d17_2 A_o429 ?_
  refine s_isub 4 C X d17_3 ?_
  refine rc (st' := [(.int i0)]) (by rw [kf_1]) ?_
  refine s_bipush 6 C X d17_4 kc_bipush_31 ?_
  refine s_iushr 7 C X d17_6 ?_
  refine rc (st' := [(.int i0)]) (by rw [kf_4]) ?_
  refine s_i2b 8 C X d17_7 ?_
  refine rc (st' := [(.int i0)]) (by rw [kf_5]) ?_
  refine s_nreturn C X d17_8 rfl (by simp) rfl ?_ (FG hG (by decide) (by decide))
  exact hQ _ _ ⟨rfl, Kp⟩
theorem rm_a90 (hw : Hw a0 Z) (cs : Int32) (yF_21 : Int32) (k_o53 : ClassId) (o53 : Addr) (xsF : List Int32) (o421 : Addr) (h0 : Heap) (n0 : Nat) (Z0 : n0 ≤ h0.size) (S_cs : Sta Z Z.heap cS cC "Z" (.int cs)) (A_o53 : Arv Z h0 o53 k_o53 .char i256 (Y xsF) (.int i0)) (E_o421 : Exa Z h0 o421 cS) (F_o421_a : Fld Z h0 o421 cS "value" "[B" .null) (F_o421_k : Fld Z h0 o421 cS "coder" "B" (.int i0)) (Od : Old Z n0 h0) (hv_cs : ¬ cs = i0) (hvB_22 : own_B yF_21) (hvl0 : (Y xsF).getD (i0).toNatClampNeg (.int 0) = .int yF_21) (ne_o53_o421 : o53 ≠ o421) (g_o421 : n0 ≤ o421) :
    MetH l Z EL1 [o421] (⟨cS, "<init>", sV⟩ : MethodName) jdk_42_method_149_code 6 none (rM 2 1 1 35) [] #[(.ref o421), (.ref o53), (.int i0), (.int i1), .null] h0 n0 (fun v h => ∃ (k_o429 : ClassId) (o429 : Addr), v = none ∧ Exa Z h o421 cS ∧ Fld Z h o421 cS "value" "[B" (.ref o429) ∧ Fld Z h o421 cS "coder" "B" (.int i0) ∧ Old Z n0 h ∧ Keep h0 h [o421] ∧ Arv Z h o429 k_o429 .byte i1 [(.int (bv yF_21))] (.int i0) ∧ o421 ≠ o429 ∧ h0.size ≤ o429 ∧ n0 ≤ o429) := by
  refine MetH.mkQ (tabs := tables_1) (a0 := a0) (ls0 := #[rv o421, rv o53, iv i0, iv i1, .val .null, un]) (plainFor_of_name pn_java_lang_String) hw Z0 (fun m => by first | (simp [entryFrame, mkF, argsToLocals, Value.category]; done) | rfl) ?_
  intro p e s m below meth c T Q' G' vm k1 hQ hG C X hS Rc hso
  have Kp : Keep h0 h0 [o421] := Keep.refl _ _
  have H_o421 : Safe Z EL1 vm h0 o421 := hso _ (by simp)
  refine s_aloadN 1 C X d14_0 rfl rfl ?_
  refine s_objInit 4 C X d14_1 (mW 90 rfl) (mW 12 rfl) (mW 13 rfl) rfl (W := 0) rfl (by decide) (fun T X => ?_)
  refine s_iloadN 5 C X d14_4 rfl ?_
  refine s_if_ne 27 8 C X d14_5 (fun _ => ?_) (fun c => absurd c (by decide))
  refine s_getstatic 30 C X (host := "") d14_27 (Or.inl (mW 91 rfl)) Via.refl (S_cs.ext Od.2) (fun T X => ?_)
  refine s_if_eq 58 33 C X d14_30 (fun c => absurd c hv_cs) (fun c30_428 => ?_)
  refine s_aloadN 34 C X d14_33 rfl rfl ?_
  refine s_iloadN 35 C X d14_34 rfl ?_
  refine s_iloadN 36 C X d14_35 rfl ?_
  refine s_callS 39 [(.ref o53), (.int i0), (.int i1)] [] 0 C X d14_36 (mW 92 rfl) (mW 93 rfl) (mW 94 rfl) (mW 95 rfl) (rm_a88 l Z a0 hw yF_21 k_o53 o53 xsF _ n0 X.sz A_o53 hvB_22 hvl0) (lenOf pd___CII__B rfl) rfl rfl rfl (fun T v hh X q => ?_)
  obtain ⟨k_o429, o429, rfl, Kc, A_o429, sz_o429', g_o429⟩ := q
  have ne_o421_o429 : o421 ≠ o429 := Nat.ne_of_lt (Nat.lt_of_lt_of_le E_o421.lt sz_o429')
  have sz_o429 : h0.size ≤ o429 := Nat.le_trans Kp.1 sz_o429'
  have H_o421 := Safe.keep Kc so0 Rc.1.1 H_o421
  have Rc := Rc.keep Kc so0
  have E_o421 := E_o421.keep Kc
  have F_o421_a := F_o421_a.keep Kc nin0
  have F_o421_k := F_o421_k.keep Kc nin0
  have Od := Od.keep Kc all0
  have Kp := Kp.trans Kc all0
  refine rc (st' := [(.ref o429)]) rfl ?_
  refine s_astore 41 C X (l' := #[rv o421, rv o53, iv i0, iv i1, .val .null, rv o429]) d14_39 rfl rfl ?_
  refine s_aloadN 42 C X d14_41 rfl rfl ?_
  refine s_aload 44 C X d14_42 rfl rfl ?_
  refine s_iloadN 45 C X d14_44 rfl ?_
  refine s_callS 48 [(.ref o429), (.int i1)] [(.ref o421)] 1 C X d14_45 (mW 99 rfl) (mW 100 rfl) (mW 94 rfl) (mW 101 rfl) (rm_a89 l Z a0 hw yF_21 k_o429 o429 _ n0 X.sz A_o429) (lenOf pd___BI_B rfl) rfl rfl rfl (fun T v hh X q => ?_)
  obtain ⟨rfl, Kc⟩ := q
  have H_o421 := Safe.keep Kc so0 Rc.1.1 H_o421
  have Rc := Rc.keep Kc so0
  have E_o421 := E_o421.keep Kc
  have F_o421_a := F_o421_a.keep Kc nin0
  have F_o421_k := F_o421_k.keep Kc nin0
  have Od := Od.keep Kc all0
  have Kp := Kp.trans Kc all0
  have A_o429 := A_o429.keep Kc nin0
  refine rc (st' := [(.int i0), (.ref o421)]) rfl ?_
  refine s_putfieldN 51 C X d14_48 (mW 102 rfl) Via.refl F_o421_k E_o421 (Or.inr ⟨(mW 36 rfl), rfl, rfl⟩) (mW 33 rfl) (ty := .byte) (by decide) rfl rfl g_o421 (fun T hh X W => ?_)
  have Sf : Safe Z EL1 vm _ o421 := H_o421
  have H_o421 := Safe.wr W Sf Rc.1.1 H_o421
  have Rc := Rc.wr W Sf
  have E_o421 := E_o421.wr W
  have F_o421_a := oth F_o421_a W (Or.inr (hw _ (mW 35 rfl))) (Or.inr (hw _ (mW 36 rfl))) (by decide)
  have F_o421_k := F_o421_k.same W
  have Od := Od.wr W g_o421
  have Kp := Kp.wr W (Or.inl (by simp))
  have A_o429 := A_o429.other W (Ne.symm ne_o421_o429)
  refine s_aloadN 52 C X d14_51 rfl rfl ?_
  refine s_aload 54 C X d14_52 rfl rfl ?_
  refine s_putfield 57 C X (host := "") d14_54 (Or.inl (mW 103 rfl)) Via.refl F_o421_a E_o421 (Or.inr ⟨(mW 35 rfl), rfl, rfl⟩) (mW 33 rfl) (ty := (.array .byte)) (by decide) rfl rfl g_o421 (fun T hh X W => ?_)
  have Sf : Safe Z EL1 vm _ o421 := H_o421
  have Rc := Rc.wr W Sf
  have E_o421 := E_o421.wr W
  have F_o421_a := F_o421_a.same W
  have F_o421_k := oth F_o421_k W (Or.inr (hw _ (mW 36 rfl))) (Or.inr (hw _ (mW 35 rfl))) (by decide)
  have Od := Od.wr W g_o421
  have Kp := Kp.wr W (Or.inl (by simp))
  have A_o429 := A_o429.other W (Ne.symm ne_o421_o429)
  refine s_return C X d14_57 rfl ?_ (FGH hG hS Rc C (own_EL hw))
  exact hQ _ _ ⟨k_o429, o429, rfl, E_o421, F_o421_a, F_o421_k, Od, Kp, A_o429, ne_o421_o429, sz_o429, g_o429⟩
theorem rm_a91 (hw : Hw a0 Z) (cs : Int32) (fm : Value) (yF_21 : Int32) (k_o53 : ClassId) (o53 : Addr) (xsF : List Int32) (o421 : Addr) (h0 : Heap) (n0 : Nat) (Z0 : n0 ≤ h0.size) (S_cs : Sta Z Z.heap cS cC "Z" (.int cs)) (S_fm : Sta Z Z.heap cP cM cF fm) (A_o53 : Arv Z h0 o53 k_o53 .char i256 (Y xsF) (.int i0)) (Od : Old Z n0 h0) (E_o421 : Exa Z h0 o421 cS) (F_o421_a : Fld Z h0 o421 cS "value" "[B" .null) (F_o421_k : Fld Z h0 o421 cS "coder" "B" (.int i0)) (hv_cs : ¬ cs = i0) (hv_fm : fm.isRef = true) (hvB_22 : own_B yF_21) (hvl0 : (Y xsF).getD (i0).toNatClampNeg (.int 0) = .int yF_21) (ne_o53_o421 : o53 ≠ o421) (g_o421 : n0 ≤ o421) :
    MetH l Z EL1 [o421] (⟨cS, "<init>", "([CII)V"⟩ : MethodName) jdk_42_method_4_code 4 none (rM 3 1 1 52) [] #[(.ref o421), (.ref o53), (.int i0), (.int i1)] h0 n0 (fun v h => ∃ (k_o429 : ClassId) (o429 : Addr), v = none ∧ Keep h0 h [o421] ∧ Exa Z h o421 cS ∧ Fld Z h o421 cS "value" "[B" (.ref o429) ∧ Fld Z h o421 cS "coder" "B" (.int i0) ∧ Old Z n0 h ∧ Arv Z h o429 k_o429 .byte i1 [(.int (bv yF_21))] (.int i0) ∧ h0.size ≤ o429 ∧ n0 ≤ o429 ∧ o421 ≠ o429) := by
  refine MetH.mkQ (tabs := tables_1) (a0 := a0) (ls0 := #[rv o421, rv o53, iv i0, iv i1]) (plainFor_of_name pn_java_lang_String) hw Z0 (fun m => by first | (simp [entryFrame, mkF, argsToLocals, Value.category]; done) | rfl) ?_
  intro p e s m below meth c T Q' G' vm k1 hQ hG C X hS Rc hso
  have Kp : Keep h0 h0 [o421] := Keep.refl _ _
  have H_o421 : Safe Z EL1 vm h0 o421 := hso _ (by simp)
  refine s_aloadN 1 C X d10_0 rfl rfl ?_
  refine s_aloadN 2 C X d10_1 rfl rfl ?_
  refine s_iloadN 3 C X d10_2 rfl ?_
  refine s_iloadN 4 C X d10_3 rfl ?_
  refine s_aloadN 5 C X d10_4 rfl rfl ?_
  refine s_iloadN 6 C X d10_5 rfl ?_
  refine s_iloadN 7 C X d10_6 rfl ?_
  refine s_callS 10 [(.ref o53), (.int i0), (.int i1)] [(.int i1), (.int i0), (.ref o53), (.ref o421)] 4 C X d10_7 (mW 76 rfl) (mW 77 rfl) (mW 32 rfl) (mW 78 rfl) (rm_a86 l Z a0 hw fm k_o53 o53 xsF _ n0 X.sz S_fm A_o53 Od hv_fm) (lenOf pd___CII_Ljava_lang_Void_ rfl) rfl rfl rfl (fun T v hh X q => ?_)
  obtain ⟨rfl, Kc, Od⟩ := q
  have H_o421 := Safe.keep Kc so0 Rc.1.1 H_o421
  have Rc := Rc.keep Kc so0
  have A_o53 := A_o53.keep Kc nin0
  have E_o421 := E_o421.keep Kc
  have F_o421_a := F_o421_a.keep Kc nin0
  have F_o421_k := F_o421_k.keep Kc nin0
  have Kp := Kp.trans Kc all0
  refine rc (st' := [.null, (.int i1), (.int i0), (.ref o53), (.ref o421)]) rfl ?_
  refine s_hcallC 13 [(.ref o53), (.int i0), (.int i1), .null] [] 0 C X hS Rc.2 (own_EL hw) Rc.1.1 d10_10 rfl (mW 87 rfl) (mW 88 rfl) (mW 32 rfl) (mW 89 rfl) (rm_a90 l Z a0 hw cs yF_21 k_o53 o53 xsF o421 _ n0 X.sz S_cs A_o53 E_o421 F_o421_a F_o421_k Od hv_cs hvB_22 hvl0 ne_o53_o421 g_o421) (lenOf pd___CIILjava_lang_Void__V rfl) rfl rfl rfl (soS ⟨E_o421.lt, H_o421⟩ so0) (fun T v hh vm k1 C X hS Nk Rn q => ?_)
  obtain ⟨k_o429, o429, rfl, E_o421, F_o421_a, F_o421_k, Od, Kc, A_o429, ne_o421_o429, sz_o429', g_o429⟩ := q
  have sz_o429 : h0.size ≤ o429 := Nat.le_trans Kp.1 sz_o429'
  have Rc := Rc.call Rn Nk
  have Kp := Kp.trans Kc (allS (Or.inl (by simp)) all0)
  refine rc (st' := []) rfl ?_
  refine s_return C X d10_13 rfl ?_ (FGH hG hS Rc C (own_EL hw))
  exact hQ _ _ ⟨k_o429, o429, rfl, Kp, E_o421, F_o421_a, F_o421_k, Od, A_o429, sz_o429, g_o429, ne_o421_o429⟩
theorem rm_a92 (hw : Hw a0 Z) (cs : Int32) (fm : Value) (yF_21 : Int32) (o46 : Addr) (k_o51 : ClassId) (k_o52 : ClassId) (k_o53 : ClassId) (o51 : Addr) (o52 : Addr) (o53 : Addr) (tF : Int32) (xsF : List Int32) (o276 : Addr) (h0 : Heap) (n0 : Nat) (Z0 : n0 ≤ h0.size) (S_cs : Sta Z Z.heap cS cC "Z" (.int cs)) (S_fm : Sta Z Z.heap cP cM cF fm) (F_o46_s : Fld Z h0 o46 cE fs "[I" (.ref o51)) (F_o46_g : Fld Z h0 o46 cE fg cG (.ref o52)) (F_o46_v : Fld Z h0 o46 cE fv "[C" (.ref o53)) (A_o51 : Arv Z h0 o51 k_o51 .int i9 [(.int i0), (.int i1), (.int tF), (.int i0), (.int i0), (.int i0), (.int i0), (.int i0), (.int i0)] (.int i0)) (A_o53 : Arv Z h0 o53 k_o53 .char i256 (Y xsF) (.int i0)) (A_o52 : Arv Z h0 o52 k_o52 (.object cS) i8 [.null, (.ref o276), .null, .null, .null, .null, .null, .null] .null) (Od : Old Z n0 h0) (hv_cs : ¬ cs = i0) (hv_fm : fm.isRef = true) (hvB_22 : own_B yF_21) (g_o52 : n0 ≤ o52) (ne_o46_o52 : o46 ≠ o52) (ne_o51_o52 : o51 ≠ o52) (ne_o52_o53 : o52 ≠ o53) (O_o52 : Ovr Z k_o52 cS) (hvl0 : (Y xsF).getD (i0).toNatClampNeg (.int 0) = .int yF_21) :
    MetH l Z EL1 [] (⟨cE, "value", "(I)Ljava/lang/String;"⟩ : MethodName) prog_35_method_7_code 2 (some (.object cS)) (rM 4 2 5 70) [] #[(.ref o46), (.int i0)] h0 n0 (fun v h => ∃ (k_o429 : ClassId) (o421 : Addr) (o429 : Addr), v = some (.ref o421) ∧ Arv Z h o52 k_o52 (.object cS) i8 [(.ref o421), (.ref o276), .null, .null, .null, .null, .null, .null] .null ∧ Keep h0 h [o52] ∧ Exa Z h o421 cS ∧ Fld Z h o421 cS "value" "[B" (.ref o429) ∧ Fld Z h o421 cS "coder" "B" (.int i0) ∧ Old Z n0 h ∧ Arv Z h o429 k_o429 .byte i1 [(.int (bv yF_21))] (.int i0) ∧ o52 ≠ o421 ∧ h0.size ≤ o421 ∧ n0 ≤ o421 ∧ o52 ≠ o429 ∧ h0.size ≤ o429 ∧ n0 ≤ o429 ∧ o421 ≠ o429) := by
  refine MetH.mkQ (tabs := tables_1) (a0 := a0) (ls0 := #[rv o46, iv i0]) (plainFor_of_name pn_com_example_medis_medis_engine_ElementAttributes) hw Z0 (fun m => by first | (simp [entryFrame, mkF, argsToLocals, Value.category]; done) | rfl) ?_
  intro p e s m below meth c T Q' G' vm k1 hQ hG C X hS Rc hso
  have Kp : Keep h0 h0 [o52] := Keep.refl _ _
  refine s_aloadN 1 C X d9_0 rfl rfl ?_
  refine s_getfield 4 C X (host := "") d9_1 (Or.inl (mW 27 rfl)) Via.refl F_o46_g (fun T X => ?_)
  refine s_iloadN 5 C X d9_4 rfl ?_
  refine s_aaload 6 C X d9_5 A_o52 rfl ⟨by decide, by decide⟩ (v := .null) rfl ?_
  refine s_ifnonnullN 9 C X d9_6 ?_
  refine s_aloadN 10 C X d9_9 rfl rfl ?_
  refine s_getfield 13 C X (host := "") d9_10 (Or.inl (mW 27 rfl)) Via.refl F_o46_g (fun T X => ?_)
  refine s_iloadN 14 C X d9_13 rfl ?_
  refine s_new 17 C X d9_14 (mW 14 rfl) (mW 33 rfl) (mW 32 rfl) (fun T hh o421 hb_o421 X E E_o421 D g_o421 => ?_)
  have H_o421 : Safe Z EL1 vm _ o421 := Safe.ext E Rc.1.1 (Safe.new (Nat.le_of_eq hb_o421))
  have Rc := Rc.ext E
  have ne_o46_o421 : o46 ≠ o421 := Nat.ne_of_lt (Nat.lt_of_lt_of_le F_o46_s.lt (Nat.le_of_eq hb_o421))
  have ne_o53_o421 : o53 ≠ o421 := Nat.ne_of_lt (Nat.lt_of_lt_of_le A_o53.lt (Nat.le_of_eq hb_o421))
  have ne_o52_o421 : o52 ≠ o421 := Nat.ne_of_lt (Nat.lt_of_lt_of_le A_o52.lt (Nat.le_of_eq hb_o421))
  have sz_o421 : h0.size ≤ o421 := Nat.le_trans Kp.1 (Nat.le_of_eq hb_o421)
  have F_o46_s := F_o46_s.ext E
  have F_o46_g := F_o46_g.ext E
  have F_o46_v := F_o46_v.ext E
  have A_o51 := A_o51.ext E
  have A_o53 := A_o53.ext E
  have A_o52 := A_o52.ext E
  have Od := Od.ext E
  have Kp := Kp.ext E
  have F_o421_a : Fld Z _ o421 cS "value" "[B" .null := D (Or.inr (hw _ (mW 35 rfl))) (ty := (.array .byte)) (by decide)
  have F_o421_k : Fld Z _ o421 cS "coder" "B" (.int i0) := D (Or.inr (hw _ (mW 36 rfl))) (ty := .byte) (by decide)
  refine s_dup 18 C X d9_17 rfl ?_
  refine s_aloadN 19 C X d9_18 rfl rfl ?_
  refine s_getfield 22 C X (host := "") d9_19 (Or.inl (mW 29 rfl)) Via.refl F_o46_v (fun T X => ?_)
  refine s_aloadN 23 C X d9_22 rfl rfl ?_
  refine s_getfield 26 C X (host := "") d9_23 (Or.inl (mW 25 rfl)) Via.refl F_o46_s (fun T X => ?_)
  refine s_iloadN 27 C X d9_26 rfl ?_
  refine s_iaload 28 C X d9_27 A_o51 ⟨by decide, by decide⟩ (v := (.int i0)) rfl ?_
  refine s_aloadN 29 C X d9_28 rfl rfl ?_
  refine s_getfield 32 C X (host := "") d9_29 (Or.inl (mW 25 rfl)) Via.refl F_o46_s (fun T X => ?_)
  refine s_iloadN 33 C X d9_32 rfl ?_
  refine s_iconst 34 C X d9_33 kc_iconst_1 ?_
  refine s_iadd 35 C X d9_34 ?_
  refine rc (st' := [(.int i1), (.ref o51), (.int i0), (.ref o53), (.ref o421), (.ref o421), (.int i0), (.ref o52)]) (by rw [kf_0]) ?_
  refine s_iaload 36 C X d9_35 A_o51 ⟨by decide, by decide⟩ (v := (.int i1)) rfl ?_
  refine s_aloadN 37 C X d9_36 rfl rfl ?_
  refine s_getfield 40 C X (host := "") d9_37 (Or.inl (mW 25 rfl)) Via.refl F_o46_s (fun T X => ?_)
  refine s_iloadN 41 C X d9_40 rfl ?_
  refine s_iaload 42 C X d9_41 A_o51 ⟨by decide, by decide⟩ (v := (.int i0)) rfl ?_
  refine s_isub 43 C X d9_42 ?_
  refine rc (st' := [(.int i1), (.int i0), (.ref o53), (.ref o421), (.ref o421), (.int i0), (.ref o52)]) (by rw [kf_17]) ?_
  refine s_hcallC 46 [(.ref o53), (.int i0), (.int i1)] [(.ref o421), (.int i0), (.ref o52)] 3 C X hS Rc.2 (own_EL hw) Rc.1.1 d9_43 rfl (mW 73 rfl) (mW 74 rfl) (mW 32 rfl) (mW 75 rfl) (rm_a91 l Z a0 hw cs fm yF_21 k_o53 o53 xsF o421 _ n0 X.sz S_cs S_fm A_o53 Od E_o421 F_o421_a F_o421_k hv_cs hv_fm hvB_22 hvl0 ne_o53_o421 g_o421) (lenOf pd___CII_V rfl) rfl rfl rfl (soS ⟨E_o421.lt, H_o421⟩ so0) (fun T v hh vm k1 C X hS Nk Rn q => ?_)
  obtain ⟨k_o429, o429, rfl, Kc, E_o421, F_o421_a, F_o421_k, Od, A_o429, sz_o429', g_o429, ne_o421_o429⟩ := q
  have ne_o52_o429 : o52 ≠ o429 := Nat.ne_of_lt (Nat.lt_of_lt_of_le A_o52.lt sz_o429')
  have sz_o429 : h0.size ≤ o429 := Nat.le_trans Kp.1 sz_o429'
  have Rc := Rc.call Rn Nk
  have F_o46_g := F_o46_g.keep Kc (ninS ne_o46_o421 nin0)
  have A_o52 := A_o52.keep Kc (ninS ne_o52_o421 nin0)
  have Kp := Kp.trans Kc (allS (Or.inr sz_o421) all0)
  refine rc (st' := [(.ref o421), (.int i0), (.ref o52)]) rfl ?_
  have Sf : Safe Z EL1 vm _ o52 := (Safe.arv C.2.1.alike A_o52 (by decide))
  refine s_aastore 47 0 C X d9_46 A_o52 rfl rfl (fun _ A q => Sto.ofV A q O_o52 (Ins.self E_o421)) g_o52 ⟨by decide, by decide⟩ rfl (Nat.le_of_ble_eq_true rfl) (fun T hh X W A_o52 => ?_)
  have A_o52 : Arv Z _ o52 k_o52 (.object cS) i8 [(.ref o421), (.ref o276), .null, .null, .null, .null, .null, .null] .null := A_o52
  have Rc := Rc.wr W Sf
  have F_o46_g := F_o46_g.other W (Or.inl ne_o46_o52)
  have Kp := Kp.wr W (Or.inl (by simp))
  have E_o421 := E_o421.wr W
  have F_o421_a := F_o421_a.other W (Or.inl (Ne.symm ne_o52_o421))
  have F_o421_k := F_o421_k.other W (Or.inl (Ne.symm ne_o52_o421))
  have Od := Od.wr W g_o52
  have A_o429 := A_o429.other W (Ne.symm ne_o52_o429)
  refine s_aloadN 48 C X d9_47 rfl rfl ?_
  refine s_getfield 51 C X (host := "") d9_48 (Or.inl (mW 27 rfl)) Via.refl F_o46_g (fun T X => ?_)
  refine s_iloadN 52 C X d9_51 rfl ?_
  refine s_aaload 53 C X d9_52 A_o52 rfl ⟨by decide, by decide⟩ (v := (.ref o421)) rfl ?_
  refine s_areturn C X d9_53 rfl rfl rfl ?_ (FGH hG hS Rc C (own_EL hw))
  exact hQ _ _ ⟨k_o429, o421, o429, rfl, A_o52, Kp, E_o421, F_o421_a, F_o421_k, Od, A_o429, ne_o52_o421, sz_o421, g_o421, ne_o52_o429, sz_o429, g_o429, ne_o421_o429⟩
theorem rm_a93 (hw : Hw a0 Z) (yF_21 : Int32) (o473 : Addr) (k_o473 : ClassId) (o443 : Addr) (k_o443 : ClassId) (h0 : Heap) (n0 : Nat) (Z0 : n0 ≤ h0.size) (A_o473 : Arv Z h0 o473 k_o473 .char i1 [(.int yF_21)] (.int i0)) (A_o443 : Arv Z h0 o443 k_o443 .byte i1 [(.int i0)] (.int i0)) (hvB_22 : own_B yF_21) (ne_o473_o443 : o473 ≠ o443) (g_o443 : n0 ≤ o443) :
    Met l Z (⟨cU, "compress", "([CI[BII)I"⟩ : MethodName) jdk_52_method_21_code 7 (some .int) (rM 0 0 0 0) [] #[(.ref o473), (.int i0), (.ref o443), (.int i0), (.int i1)] h0 n0 (fun v h => v = some (.int i1) ∧ Arv Z h o443 k_o443 .byte i1 [(.int (bv yF_21))] (.int i0) ∧ Keep h0 h [o443]) := by
  refine Met.mkQ (tabs := tables_1) (a0 := a0) (ls0 := #[rv o473, iv i0, rv o443, iv i0, iv i1, un, un]) (plainFor_of_name pn_java_lang_StringUTF16) hw Z0 (fun m => by first | (simp [entryFrame, mkF, argsToLocals, Value.category]; done) | rfl) ?_
  intro p e s m below meth c T Q' G' hQ hG C X
  have Kp : Keep h0 h0 [o443] := Keep.refl _ _
  refine s_iconst 1 C X d16_0 kc_iconst_0 ?_
  refine s_istore 3 C X (l' := #[rv o473, iv i0, rv o443, iv i0, iv i1, iv i0, un]) d16_1 rfl ?_
  refine s_iload 5 C X d16_3 rfl ?_
  refine s_iload 7 C X d16_5 rfl ?_
  refine s_icmp_ge 44 10 C X d16_7 (fun c => absurd (by decide : i0 < i1) c) (fun _ => ?_)
  refine s_aloadN 11 C X d16_10 rfl rfl ?_
  refine s_iloadN 12 C X d16_11 rfl ?_
  refine s_caload 13 C X d16_12 A_o473 ⟨by decide, by decide⟩ (v := (.int yF_21)) rfl ?_
  refine s_istore 15 C X (l' := #[rv o473, iv i0, rv o443, iv i0, iv i1, iv i0, iv yF_21]) d16_13 rfl ?_
  refine s_iload 17 C X d16_15 rfl ?_
  refine s_sipush 20 C X d16_17 kc_sipush_255 ?_
  refine s_icmp_le 26 23 C X d16_20 (fun c20_445 => ?_) (fun c => absurd c (own_le hvB_22))
  refine s_aloadN 27 C X d16_26 rfl rfl ?_
  refine s_iloadN 28 C X d16_27 rfl ?_
  refine s_iload 30 C X d16_28 rfl ?_
  refine s_i2b 31 C X d16_30 ?_
  refine s_bastore 32 0 C X d16_31 A_o443 g_o443 ⟨by decide, by decide⟩ rfl (Nat.le_of_ble_eq_true rfl) (fun T hh X W A_o443 => ?_)
  have A_o443 : Arv Z _ o443 k_o443 .byte i1 [(.int (nar .byte (yF_21).toInt8.toInt32))] (.int i0) := A_o443
  have Kp := Kp.wr W (Or.inl (by simp))
  have A_o443 : Arv Z _ o443 k_o443 .byte i1 [(.int (bv yF_21))] (.int i0) := A_o443
  refine s_iinc 35 C X (l' := #[rv o473, iv i1, rv o443, iv i0, iv i1, iv i0, iv yF_21]) d16_32 kc_iconst_1 rfl rfl ?_
  refine s_iinc 38 C X (l' := #[rv o473, iv i1, rv o443, iv i1, iv i1, iv i0, iv yF_21]) d16_35 kc_iconst_1 rfl rfl ?_
  refine s_iinc 41 C X (l' := #[rv o473, iv i1, rv o443, iv i1, iv i1, iv i1, iv yF_21]) d16_38 kc_iconst_1 rfl rfl ?_
  refine s_goto 3 C X d16_41 ?_
  refine s_iload 5 C X d16_3 rfl ?_
  refine s_iload 7 C X d16_5 rfl ?_
  refine s_icmp_ge 44 10 C X d16_7 (fun _ => ?_) (fun c => absurd c (by decide))
  refine s_iload 46 C X d16_44 rfl ?_
  refine s_ireturn C X d16_46 rfl ?_ (FG hG (by decide) (by decide))
  exact hQ _ _ ⟨rfl, A_o443, Kp⟩
theorem rm_a94 (hw : Hw a0 Z) (yF_21 : Int32) (o473 : Addr) (k_o473 : ClassId) (h0 : Heap) (n0 : Nat) (Z0 : n0 ≤ h0.size) (A_o473 : Arv Z h0 o473 k_o473 .char i1 [(.int yF_21)] (.int i0)) (hvB_22 : own_B yF_21) :
    Met l Z (⟨cU, "compress", "([CII)[B"⟩ : MethodName) jdk_52_method_16_code 6 (some (.array .byte)) (rM 1 1 1 18) [] #[(.ref o473), (.int i0), (.int i1)] h0 n0 (fun v h => ∃ (k_o443 : ClassId) (o443 : Addr), v = some (.ref o443) ∧ Keep h0 h [] ∧ Arv Z h o443 k_o443 .byte i1 [(.int (bv yF_21))] (.int i0) ∧ h0.size ≤ o443 ∧ n0 ≤ o443) := by
  refine Met.mkQ (tabs := tables_1) (a0 := a0) (ls0 := #[rv o473, iv i0, iv i1, un, un, un]) (plainFor_of_name pn_java_lang_StringUTF16) hw Z0 (fun m => by first | (simp [entryFrame, mkF, argsToLocals, Value.category]; done) | rfl) ?_
  intro p e s m below meth c T Q' G' hQ hG C X
  have Kp : Keep h0 h0 [] := Keep.refl _ _
  refine s_iloadN 1 C X d15_0 rfl ?_
  refine s_newarray 3 1 C X d15_1 (mW 34 rfl) (by decide) (by decide) (fun T hh o443 k_o443 hb_o443 X E A_o443 g_o443 => ?_)
  have ne_o473_o443 : o473 ≠ o443 := Nat.ne_of_lt (Nat.lt_of_lt_of_le A_o473.lt (Nat.le_of_eq hb_o443))
  have sz_o443 : h0.size ≤ o443 := Nat.le_trans Kp.1 (Nat.le_of_eq hb_o443)
  have A_o473 := A_o473.ext E
  have Kp := Kp.ext E
  have A_o443 : Arv Z _ o443 k_o443 .byte i1 [(.int i0)] (.int i0) := A_o443.pad (pad_rep [] _ 1)
  refine s_astoreN 4 C X (l' := #[rv o473, iv i0, iv i1, rv o443, un, un]) d15_3 rfl rfl ?_
  refine s_aloadN 5 C X d15_4 rfl rfl ?_
  refine s_iloadN 6 C X d15_5 rfl ?_
  refine s_aloadN 7 C X d15_6 rfl rfl ?_
  refine s_iconst 8 C X d15_7 kc_iconst_0 ?_
  refine s_iloadN 9 C X d15_8 rfl ?_
  refine s_callS 12 [(.ref o473), (.int i0), (.ref o443), (.int i0), (.int i1)] [] 0 C X d15_9 (mW 96 rfl) (mW 97 rfl) (mW 94 rfl) (mW 98 rfl) (rm_a93 l Z a0 hw yF_21 o473 k_o473 o443 k_o443 _ n0 X.sz A_o473 A_o443 hvB_22 ne_o473_o443 g_o443) (lenOf pd___CI_BII_I rfl) rfl rfl rfl (fun T v hh X q => ?_)
  obtain ⟨rfl, A_o443, Kc⟩ := q
  have Kp := Kp.trans Kc (allS (Or.inr sz_o443) all0)
  refine rc (st' := [(.int i1)]) rfl ?_
  refine s_istore 14 C X (l' := #[rv o473, iv i0, iv i1, rv o443, iv i1, un]) d15_12 rfl ?_
  refine s_iload 16 C X d15_14 rfl ?_
  refine s_iloadN 17 C X d15_16 rfl ?_
  refine s_icmp_eq 57 20 C X d15_17 (fun _ => ?_) (fun c => absurd (by decide : i1 = i1) c)
  refine s_aloadN 58 C X d15_57 rfl rfl ?_
  refine s_areturn C X d15_58 rfl rfl rfl ?_ (FG hG (by decide) (by decide))
  exact hQ _ _ ⟨k_o443, o443, rfl, Kp, A_o443, sz_o443, g_o443⟩
theorem rm_a95 (hw : Hw a0 Z) (cs : Int32) (yF_21 : Int32) (o473 : Addr) (k_o473 : ClassId) (o440 : Addr) (h0 : Heap) (n0 : Nat) (Z0 : n0 ≤ h0.size) (S_cs : Sta Z Z.heap cS cC "Z" (.int cs)) (A_o473 : Arv Z h0 o473 k_o473 .char i1 [(.int yF_21)] (.int i0)) (Od : Old Z n0 h0) (E_o440 : Exa Z h0 o440 cS) (F_o440_a : Fld Z h0 o440 cS "value" "[B" .null) (F_o440_k : Fld Z h0 o440 cS "coder" "B" (.int i0)) (hv_cs : ¬ cs = i0) (hvB_22 : own_B yF_21) (ne_o473_o440 : o473 ≠ o440) (g_o440 : n0 ≤ o440) :
    MetH l Z EL1 [o440] (⟨cS, "<init>", sV⟩ : MethodName) jdk_42_method_149_code 6 none (rM 2 1 1 35) [] #[(.ref o440), (.ref o473), (.int i0), (.int i1), .null] h0 n0 (fun v h => ∃ (k_o443 : ClassId) (o443 : Addr), v = none ∧ Old Z n0 h ∧ Exa Z h o440 cS ∧ Fld Z h o440 cS "value" "[B" (.ref o443) ∧ Fld Z h o440 cS "coder" "B" (.int i0) ∧ Keep h0 h [o440] ∧ Arv Z h o443 k_o443 .byte i1 [(.int (bv yF_21))] (.int i0) ∧ o440 ≠ o443 ∧ h0.size ≤ o443 ∧ n0 ≤ o443) := by
  refine MetH.mkQ (tabs := tables_1) (a0 := a0) (ls0 := #[rv o440, rv o473, iv i0, iv i1, .val .null, un]) (plainFor_of_name pn_java_lang_String) hw Z0 (fun m => by first | (simp [entryFrame, mkF, argsToLocals, Value.category]; done) | rfl) ?_
  intro p e s m below meth c T Q' G' vm k1 hQ hG C X hS Rc hso
  have Kp : Keep h0 h0 [o440] := Keep.refl _ _
  have H_o440 : Safe Z EL1 vm h0 o440 := hso _ (by simp)
  refine s_aloadN 1 C X d14_0 rfl rfl ?_
  refine s_objInit 4 C X d14_1 (mW 90 rfl) (mW 12 rfl) (mW 13 rfl) rfl (W := 0) rfl (by decide) (fun T X => ?_)
  refine s_iloadN 5 C X d14_4 rfl ?_
  refine s_if_ne 27 8 C X d14_5 (fun _ => ?_) (fun c => absurd c (by decide))
  refine s_getstatic 30 C X (host := "") d14_27 (Or.inl (mW 91 rfl)) Via.refl (S_cs.ext Od.2) (fun T X => ?_)
  refine s_if_eq 58 33 C X d14_30 (fun c => absurd c hv_cs) (fun c30_442 => ?_)
  refine s_aloadN 34 C X d14_33 rfl rfl ?_
  refine s_iloadN 35 C X d14_34 rfl ?_
  refine s_iloadN 36 C X d14_35 rfl ?_
  refine s_callS 39 [(.ref o473), (.int i0), (.int i1)] [] 0 C X d14_36 (mW 92 rfl) (mW 93 rfl) (mW 94 rfl) (mW 95 rfl) (rm_a94 l Z a0 hw yF_21 o473 k_o473 _ n0 X.sz A_o473 hvB_22) (lenOf pd___CII__B rfl) rfl rfl rfl (fun T v hh X q => ?_)
  obtain ⟨k_o443, o443, rfl, Kc, A_o443, sz_o443', g_o443⟩ := q
  have ne_o440_o443 : o440 ≠ o443 := Nat.ne_of_lt (Nat.lt_of_lt_of_le E_o440.lt sz_o443')
  have sz_o443 : h0.size ≤ o443 := Nat.le_trans Kp.1 sz_o443'
  have H_o440 := Safe.keep Kc so0 Rc.1.1 H_o440
  have Rc := Rc.keep Kc so0
  have Od := Od.keep Kc all0
  have E_o440 := E_o440.keep Kc
  have F_o440_a := F_o440_a.keep Kc nin0
  have F_o440_k := F_o440_k.keep Kc nin0
  have Kp := Kp.trans Kc all0
  refine rc (st' := [(.ref o443)]) rfl ?_
  refine s_astore 41 C X (l' := #[rv o440, rv o473, iv i0, iv i1, .val .null, rv o443]) d14_39 rfl rfl ?_
  refine s_aloadN 42 C X d14_41 rfl rfl ?_
  refine s_aload 44 C X d14_42 rfl rfl ?_
  refine s_iloadN 45 C X d14_44 rfl ?_
  refine s_callS 48 [(.ref o443), (.int i1)] [(.ref o440)] 1 C X d14_45 (mW 99 rfl) (mW 100 rfl) (mW 94 rfl) (mW 101 rfl) (rm_a89 l Z a0 hw yF_21 k_o443 o443 _ n0 X.sz A_o443) (lenOf pd___BI_B rfl) rfl rfl rfl (fun T v hh X q => ?_)
  obtain ⟨rfl, Kc⟩ := q
  have H_o440 := Safe.keep Kc so0 Rc.1.1 H_o440
  have Rc := Rc.keep Kc so0
  have Od := Od.keep Kc all0
  have E_o440 := E_o440.keep Kc
  have F_o440_a := F_o440_a.keep Kc nin0
  have F_o440_k := F_o440_k.keep Kc nin0
  have Kp := Kp.trans Kc all0
  have A_o443 := A_o443.keep Kc nin0
  refine rc (st' := [(.int i0), (.ref o440)]) rfl ?_
  refine s_putfieldN 51 C X d14_48 (mW 102 rfl) Via.refl F_o440_k E_o440 (Or.inr ⟨(mW 36 rfl), rfl, rfl⟩) (mW 33 rfl) (ty := .byte) (by decide) rfl rfl g_o440 (fun T hh X W => ?_)
  have Sf : Safe Z EL1 vm _ o440 := H_o440
  have H_o440 := Safe.wr W Sf Rc.1.1 H_o440
  have Rc := Rc.wr W Sf
  have Od := Od.wr W g_o440
  have E_o440 := E_o440.wr W
  have F_o440_a := oth F_o440_a W (Or.inr (hw _ (mW 35 rfl))) (Or.inr (hw _ (mW 36 rfl))) (by decide)
  have F_o440_k := F_o440_k.same W
  have Kp := Kp.wr W (Or.inl (by simp))
  have A_o443 := A_o443.other W (Ne.symm ne_o440_o443)
  refine s_aloadN 52 C X d14_51 rfl rfl ?_
  refine s_aload 54 C X d14_52 rfl rfl ?_
  refine s_putfield 57 C X (host := "") d14_54 (Or.inl (mW 103 rfl)) Via.refl F_o440_a E_o440 (Or.inr ⟨(mW 35 rfl), rfl, rfl⟩) (mW 33 rfl) (ty := (.array .byte)) (by decide) rfl rfl g_o440 (fun T hh X W => ?_)
  have Sf : Safe Z EL1 vm _ o440 := H_o440
  have Rc := Rc.wr W Sf
  have Od := Od.wr W g_o440
  have E_o440 := E_o440.wr W
  have F_o440_a := F_o440_a.same W
  have F_o440_k := oth F_o440_k W (Or.inr (hw _ (mW 36 rfl))) (Or.inr (hw _ (mW 35 rfl))) (by decide)
  have Kp := Kp.wr W (Or.inl (by simp))
  have A_o443 := A_o443.other W (Ne.symm ne_o440_o443)
  refine s_return C X d14_57 rfl ?_ (FGH hG hS Rc C (own_EL hw))
  exact hQ _ _ ⟨k_o443, o443, rfl, Od, E_o440, F_o440_a, F_o440_k, Kp, A_o443, ne_o440_o443, sz_o443, g_o443⟩
theorem rm_a96 (hw : Hw a0 Z) (cs : Int32) (yF_21 : Int32) (o473 : Addr) (k_o473 : ClassId) (o440 : Addr) (h0 : Heap) (n0 : Nat) (Z0 : n0 ≤ h0.size) (S_cs : Sta Z Z.heap cS cC "Z" (.int cs)) (A_o473 : Arv Z h0 o473 k_o473 .char i1 [(.int yF_21)] (.int i0)) (Od : Old Z n0 h0) (E_o440 : Exa Z h0 o440 cS) (F_o440_a : Fld Z h0 o440 cS "value" "[B" .null) (F_o440_k : Fld Z h0 o440 cS "coder" "B" (.int i0)) (hv_cs : ¬ cs = i0) (hvB_22 : own_B yF_21) (ne_o473_o440 : o473 ≠ o440) (g_o440 : n0 ≤ o440) :
    MetH l Z EL1 [o440] (⟨cS, "<init>", "([C)V"⟩ : MethodName) jdk_42_method_3_code 2 none (rM 3 1 1 52) [] #[(.ref o440), (.ref o473)] h0 n0 (fun v h => ∃ (k_o443 : ClassId) (o443 : Addr), v = none ∧ Keep h0 h [o440] ∧ Old Z n0 h ∧ Exa Z h o440 cS ∧ Fld Z h o440 cS "value" "[B" (.ref o443) ∧ Fld Z h o440 cS "coder" "B" (.int i0) ∧ Arv Z h o443 k_o443 .byte i1 [(.int (bv yF_21))] (.int i0) ∧ h0.size ≤ o443 ∧ n0 ≤ o443 ∧ o440 ≠ o443) := by
  refine MetH.mkQ (tabs := tables_1) (a0 := a0) (ls0 := #[rv o440, rv o473]) (plainFor_of_name pn_java_lang_String) hw Z0 (fun m => by first | (simp [entryFrame, mkF, argsToLocals, Value.category]; done) | rfl) ?_
  intro p e s m below meth c T Q' G' vm k1 hQ hG C X hS Rc hso
  have Kp : Keep h0 h0 [o440] := Keep.refl _ _
  have H_o440 : Safe Z EL1 vm h0 o440 := hso _ (by simp)
  refine s_aloadN 1 C X d27_0 rfl rfl ?_
  refine s_aloadN 2 C X d27_1 rfl rfl ?_
  refine s_iconst 3 C X d27_2 kc_iconst_0 ?_
  refine s_aloadN 4 C X d27_3 rfl rfl ?_
  refine s_arraylength 5 C X d27_4 A_o473 ?_
  refine s_aconstNull 6 C X d27_5 ?_
  refine s_hcallC 9 [(.ref o473), (.int i0), (.int i1), .null] [] 0 C X hS Rc.2 (own_EL hw) Rc.1.1 d27_6 rfl (mW 87 rfl) (mW 88 rfl) (mW 32 rfl) (mW 89 rfl) (rm_a95 l Z a0 hw cs yF_21 o473 k_o473 o440 _ n0 X.sz S_cs A_o473 Od E_o440 F_o440_a F_o440_k hv_cs hvB_22 ne_o473_o440 g_o440) (lenOf pd___CIILjava_lang_Void__V rfl) rfl rfl rfl (soS ⟨E_o440.lt, H_o440⟩ so0) (fun T v hh vm k1 C X hS Nk Rn q => ?_)
  obtain ⟨k_o443, o443, rfl, Od, E_o440, F_o440_a, F_o440_k, Kc, A_o443, ne_o440_o443, sz_o443', g_o443⟩ := q
  have sz_o443 : h0.size ≤ o443 := Nat.le_trans Kp.1 sz_o443'
  have Rc := Rc.call Rn Nk
  have Kp := Kp.trans Kc (allS (Or.inl (by simp)) all0)
  refine rc (st' := []) rfl ?_
  refine s_return C X d27_9 rfl ?_ (FGH hG hS Rc C (own_EL hw))
  exact hQ _ _ ⟨k_o443, o443, rfl, Kp, Od, E_o440, F_o440_a, F_o440_k, A_o443, sz_o443, g_o443, ne_o440_o443⟩
theorem rm_a97 (hw : Hw a0 Z) (yF_21 : Int32) (k_o429 : ClassId) (o429 : Addr) (k_o443 : ClassId) (o443 : Addr) (h0 : Heap) (n0 : Nat) (Z0 : n0 ≤ h0.size) (A_o429 : Arv Z h0 o429 k_o429 .byte i1 [(.int (bv yF_21))] (.int i0)) (A_o443 : Arv Z h0 o443 k_o443 .byte i1 [(.int (bv yF_21))] (.int i0)) :
    Met l Z (⟨cW, "equals", "([B[B)Z"⟩ : MethodName) jdk_43_method_13_code 3 (some .boolean) (rM 0 0 0 0) [] #[(.ref o429), (.ref o443)] h0 n0 (fun v h => v = some (.int i1) ∧ Keep h0 h []) := by
  refine Met.mkQ (tabs := tables_1) (a0 := a0) (ls0 := #[rv o429, rv o443, un]) (plainFor_of_name pn_java_lang_StringLatin1) hw Z0 (fun m => by first | (simp [entryFrame, mkF, argsToLocals, Value.category]; done) | rfl) ?_
  intro p e s m below meth c T Q' G' hQ hG C X
  have Kp : Keep h0 h0 [] := Keep.refl _ _
  refine s_aloadN 1 C X d29_0 rfl rfl ?_
  refine s_arraylength 2 C X d29_1 A_o429 ?_
  refine s_aloadN 3 C X d29_2 rfl rfl ?_
  refine s_arraylength 4 C X d29_3 A_o443 ?_
  refine s_icmp_ne 34 7 C X d29_4 (fun c => absurd (by decide : i1 = i1) c) (fun _ => ?_)
  refine s_iconst 8 C X d29_7 kc_iconst_0 ?_
  refine s_istoreN 9 C X (l' := #[rv o429, rv o443, iv i0]) d29_8 rfl ?_
  refine s_iloadN 10 C X d29_9 rfl ?_
  refine s_aloadN 11 C X d29_10 rfl rfl ?_
  refine s_arraylength 12 C X d29_11 A_o429 ?_
  refine s_icmp_ge 32 15 C X d29_12 (fun c => absurd (by decide : i0 < i1) c) (fun _ => ?_)
  refine s_aloadN 16 C X d29_15 rfl rfl ?_
  refine s_iloadN 17 C X d29_16 rfl ?_
  refine s_baload 18 C X d29_17 A_o429 ⟨by decide, by decide⟩ (v := (.int (bv yF_21))) rfl ?_
  refine s_aloadN 19 C X d29_18 rfl rfl ?_
  refine s_iloadN 20 C X d29_19 rfl ?_
  refine s_baload 21 C X d29_20 A_o443 ⟨by decide, by decide⟩ (v := (.int (bv yF_21))) rfl ?_
  refine s_icmp_eq 26 24 C X d29_21 (fun _ => ?_) (fun c => absurd rfl c)
  refine s_iinc 29 C X (l' := #[rv o429, rv o443, iv i1]) d29_26 kc_iconst_1 rfl rfl ?_
  refine s_goto 9 C X d29_29 ?_
  refine s_iloadN 10 C X d29_9 rfl ?_
  refine s_aloadN 11 C X d29_10 rfl rfl ?_
  refine s_arraylength 12 C X d29_11 A_o429 ?_
  refine s_icmp_ge 32 15 C X d29_12 (fun _ => ?_) (fun c => absurd c (by decide))
  refine s_iconst 33 C X d29_32 kc_iconst_1 ?_
  refine s_nreturn C X d29_33 rfl (by simp) rfl ?_ (FG hG (by decide) (by decide))
  exact hQ _ _ ⟨rfl, Kp⟩
theorem rm_a98 (hw : Hw a0 Z) (cs : Int32) (yF_21 : Int32) (k_o429 : ClassId) (o421 : Addr) (o429 : Addr) (o440 : Addr) (k_o443 : ClassId) (o443 : Addr) (h0 : Heap) (n0 : Nat) (Z0 : n0 ≤ h0.size) (S_cs : Sta Z Z.heap cS cC "Z" (.int cs)) (F_o421_a : Fld Z h0 o421 cS "value" "[B" (.ref o429)) (F_o421_k : Fld Z h0 o421 cS "coder" "B" (.int i0)) (A_o429 : Arv Z h0 o429 k_o429 .byte i1 [(.int (bv yF_21))] (.int i0)) (Od : Old Z n0 h0) (E_o440 : Exa Z h0 o440 cS) (F_o440_a : Fld Z h0 o440 cS "value" "[B" (.ref o443)) (F_o440_k : Fld Z h0 o440 cS "coder" "B" (.int i0)) (A_o443 : Arv Z h0 o443 k_o443 .byte i1 [(.int (bv yF_21))] (.int i0)) (hv_cs : ¬ cs = i0) (ne_o421_o440 : o421 ≠ o440) :
    Met l Z (⟨cS, "equals", "(Ljava/lang/Object;)Z"⟩ : MethodName) jdk_42_method_66_code 3 (some .boolean) (rM 1 0 0 14) [] #[(.ref o421), (.ref o440)] h0 n0 (fun v h => v = some (.int i1) ∧ Old Z n0 h ∧ Keep h0 h []) := by
  refine Met.mkQ (tabs := tables_1) (a0 := a0) (ls0 := #[rv o421, rv o440, un]) (plainFor_of_name pn_java_lang_String) hw Z0 (fun m => by first | (simp [entryFrame, mkF, argsToLocals, Value.category]; done) | rfl) ?_
  intro p e s m below meth c T Q' G' hQ hG C X
  have Kp : Keep h0 h0 [] := Keep.refl _ _
  refine s_aloadN 1 C X d28_0 rfl rfl ?_
  refine s_aloadN 2 C X d28_1 rfl rfl ?_
  refine s_acmp_ne 7 5 C X d28_2 rfl rfl (fun c2_453 => ?_) (fun c => absurd (Value.ref.inj c) ne_o421_o440)
  refine s_aloadN 8 C X d28_7 rfl rfl ?_
  refine s_instY 11 C X d28_8 (mW 152 rfl) (Ins.self E_o440) (fun T X => ?_)
  refine s_if_eq 54 14 C X d28_11 (fun c => absurd c (by decide)) (fun _ => ?_)
  refine s_aloadN 15 C X d28_14 rfl rfl ?_
  refine s_castY 18 C X d28_15 (mW 152 rfl) (Ins.self E_o440) (fun T X => ?_)
  refine s_astoreN 19 C X (l' := #[rv o421, rv o440, rv o440]) d28_18 rfl rfl ?_
  refine s_getstatic 22 C X (host := "") d28_19 (Or.inl (mW 91 rfl)) Via.refl (S_cs.ext Od.2) (fun T X => ?_)
  refine s_if_eq 36 25 C X d28_22 (fun c => absurd c hv_cs) (fun c22_455 => ?_)
  refine s_aloadN 26 C X d28_25 rfl rfl ?_
  refine s_getfield 29 C X (host := "") d28_26 (Or.inl (mW 102 rfl)) Via.refl F_o421_k (fun T X => ?_)
  refine s_aloadN 30 C X d28_29 rfl rfl ?_
  refine s_getfield 33 C X (host := "") d28_30 (Or.inl (mW 102 rfl)) Via.refl F_o440_k (fun T X => ?_)
  refine s_icmp_ne 54 36 C X d28_33 (fun c => absurd (by decide : i0 = i0) c) (fun _ => ?_)
  refine s_aloadN 37 C X d28_36 rfl rfl ?_
  refine s_getfield 40 C X (host := "") d28_37 (Or.inl (mW 103 rfl)) Via.refl F_o421_a (fun T X => ?_)
  refine s_aloadN 41 C X d28_40 rfl rfl ?_
  refine s_getfield 44 C X (host := "") d28_41 (Or.inl (mW 103 rfl)) Via.refl F_o440_a (fun T X => ?_)
  refine s_callS 47 [(.ref o429), (.ref o443)] [] 0 C X d28_44 (mW 153 rfl) (mW 154 rfl) (mW 134 rfl) (mW 155 rfl) (rm_a97 l Z a0 hw yF_21 k_o429 o429 k_o443 o443 _ n0 X.sz A_o429 A_o443) (lenOf pd___B_B_Z rfl) rfl rfl rfl (fun T v hh X q => ?_)
  obtain ⟨rfl, Kc⟩ := q
  have Od := Od.keep Kc all0
  have Kp := Kp.trans Kc all0
  refine rc (st' := [(.int i1)]) rfl ?_
  refine s_if_eq 54 50 C X d28_47 (fun c => absurd c (by decide)) (fun _ => ?_)
  refine s_iconst 51 C X d28_50 kc_iconst_1 ?_
  refine s_goto 55 C X d28_51 ?_
  refine s_nreturn C X d28_55 rfl (by simp) rfl ?_ (FG hG (by decide) (by decide))
  exact hQ _ _ ⟨rfl, Od, Kp⟩
theorem own_mn0 {yF : Int32} {yF_5 : Int32} {yF_9 : Int32} {yF_13 : Int32} {yF_17 : Int32} {nv27 : Int32} {y174 : Int32} {y179 : Int32} {y184 : Int32} {y189 : Int32} {y194 : Int32} {y199 : Int32} {y204 : Int32} {y216 : Int32} {y223 : Int32} {y230 : Int32} {y235 : Int32} {es0 : List Int32} {m0 : Int32} {esF : List Int32} {mF : Int32} {esF_253 : List Int32} {mF_254 : Int32} {esF_260 : List Int32} {mF_261 : Int32} {esF_265 : List Int32} {mF_266 : Int32} {esF_270 : List Int32} {mF_271 : Int32} {m277 : Int32} (D175 : ((y174 = i1 ∧ (((0 : Int) < (nv27).toInt) ∧ (¬ ((yF).toInt = (32 : Int))))) ∨ (y174 = i0 ∧ ¬ (((0 : Int) < (nv27).toInt) ∧ (¬ ((yF).toInt = (32 : Int))))))) (D180 : ((y179 = i1 ∧ (((1 : Int) < (nv27).toInt) ∧ (¬ ((yF_5).toInt = (32 : Int))))) ∨ (y179 = i0 ∧ ¬ (((1 : Int) < (nv27).toInt) ∧ (¬ ((yF_5).toInt = (32 : Int))))))) (D185 : ((y184 = i1 ∧ (((2 : Int) < (nv27).toInt) ∧ (¬ ((yF_9).toInt = (32 : Int))))) ∨ (y184 = i0 ∧ ¬ (((2 : Int) < (nv27).toInt) ∧ (¬ ((yF_9).toInt = (32 : Int))))))) (D190 : ((y189 = i1 ∧ (((3 : Int) < (nv27).toInt) ∧ (¬ ((yF_13).toInt = (32 : Int))))) ∨ (y189 = i0 ∧ ¬ (((3 : Int) < (nv27).toInt) ∧ (¬ ((yF_13).toInt = (32 : Int))))))) (D195 : ((y194 = i1 ∧ (((4 : Int) < (nv27).toInt) ∧ (¬ ((yF_17).toInt = (32 : Int))))) ∨ (y194 = i0 ∧ ¬ (((4 : Int) < (nv27).toInt) ∧ (¬ ((yF_17).toInt = (32 : Int))))))) (D200 : (((¬ ((y189).toInt = (0 : Int))) ∧ y199 = i1) ∨ (((y189).toInt = (0 : Int)) ∧ ((y194).toInt = (0 : Int)) ∧ y199 = i0) ∨ (((y189).toInt = (0 : Int)) ∧ (¬ ((y194).toInt = (0 : Int))) ∧ y199 = i1))) (D205 : (((¬ ((y184).toInt = (0 : Int))) ∧ y204 = i1) ∨ (((y184).toInt = (0 : Int)) ∧ ((y199).toInt = (0 : Int)) ∧ y204 = i0) ∨ (((y184).toInt = (0 : Int)) ∧ (¬ ((y199).toInt = (0 : Int))) ∧ y204 = i1))) (D217 : (((¬ ((1 : Int) < (nv27).toInt)) ∧ y216 = i0) ∨ (((1 : Int) < (nv27).toInt) ∧ (¬ ((yF_5).toInt = (32 : Int))) ∧ y216 = i1) ∨ (((1 : Int) < (nv27).toInt) ∧ ((yF_5).toInt = (32 : Int)) ∧ ((y174).toInt = (0 : Int)) ∧ y216 = i0) ∨ (((1 : Int) < (nv27).toInt) ∧ ((yF_5).toInt = (32 : Int)) ∧ (¬ ((y174).toInt = (0 : Int))) ∧ ((y204).toInt = (0 : Int)) ∧ y216 = i0) ∨ (((1 : Int) < (nv27).toInt) ∧ ((yF_5).toInt = (32 : Int)) ∧ (¬ ((y174).toInt = (0 : Int))) ∧ (¬ ((y204).toInt = (0 : Int))) ∧ y216 = i1))) (D224 : (((¬ ((2 : Int) < (nv27).toInt)) ∧ y223 = i0) ∨ (((2 : Int) < (nv27).toInt) ∧ (¬ ((yF_9).toInt = (32 : Int))) ∧ y223 = i1) ∨ (((2 : Int) < (nv27).toInt) ∧ ((yF_9).toInt = (32 : Int)) ∧ ((y179).toInt = (0 : Int)) ∧ y223 = i0) ∨ (((2 : Int) < (nv27).toInt) ∧ ((yF_9).toInt = (32 : Int)) ∧ (¬ ((y179).toInt = (0 : Int))) ∧ ((y199).toInt = (0 : Int)) ∧ y223 = i0) ∨ (((2 : Int) < (nv27).toInt) ∧ ((yF_9).toInt = (32 : Int)) ∧ (¬ ((y179).toInt = (0 : Int))) ∧ (¬ ((y199).toInt = (0 : Int))) ∧ y223 = i1))) (D231 : (((¬ ((3 : Int) < (nv27).toInt)) ∧ y230 = i0) ∨ (((3 : Int) < (nv27).toInt) ∧ (¬ ((yF_13).toInt = (32 : Int))) ∧ y230 = i1) ∨ (((3 : Int) < (nv27).toInt) ∧ ((yF_13).toInt = (32 : Int)) ∧ ((y184).toInt = (0 : Int)) ∧ y230 = i0) ∨ (((3 : Int) < (nv27).toInt) ∧ ((yF_13).toInt = (32 : Int)) ∧ (¬ ((y184).toInt = (0 : Int))) ∧ ((y194).toInt = (0 : Int)) ∧ y230 = i0) ∨ (((3 : Int) < (nv27).toInt) ∧ ((yF_13).toInt = (32 : Int)) ∧ (¬ ((y184).toInt = (0 : Int))) ∧ (¬ ((y194).toInt = (0 : Int))) ∧ y230 = i1))) (D236 : (((¬ ((4 : Int) < (nv27).toInt)) ∧ y235 = i0) ∨ (((4 : Int) < (nv27).toInt) ∧ ((yF_17).toInt = (32 : Int)) ∧ y235 = i0) ∨ (((4 : Int) < (nv27).toInt) ∧ (¬ ((yF_17).toInt = (32 : Int))) ∧ y235 = i1))) (hvP : own_P es0 m0 y174 yF esF mF) (hvP_257 : own_P esF mF y216 yF_5 esF_253 mF_254) (hvP_262 : own_P esF_253 mF_254 y223 yF_9 esF_260 mF_261) (hvP_267 : own_P esF_260 mF_261 y230 yF_13 esF_265 mF_266) (hvP_272 : own_P esF_265 mF_266 y235 yF_17 esF_270 mF_271) (hvL : m277.toInt = (col [yF, yF_5, yF_9, yF_13, yF_17] nv27.toNatClampNeg).length) (hv_nv27 : own_N nv27) (e_es0 : es0 = [0, 0, 0, 0, 0]) (e_m0 : m0 = i0) : m277 = mF_271 ∧ m277.toInt = (col [yF, yF_5, yF_9, yF_13, yF_17] nv27.toNatClampNeg).length ∧ ∀ k, k < (col [yF, yF_5, yF_9, yF_13, yF_17] nv27.toNatClampNeg).length → esF_270.getD k 0 = (col [yF, yF_5, yF_9, yF_13, yF_17] nv27.toNatClampNeg).getD k 0 := by
  have l0 := own_rl D175
  have l1 := own_rl D180
  have l2 := own_rl D185
  have l3 := own_rl D190
  have l4 := own_rl D195
  have b2 := own_ro l3 l4 D200
  have b1 := own_ro l2 b2 D205
  have q1 := own_rk l0 b1 D217
  have q2 := own_rk l1 b2 D224
  have q3 := own_rk l2 l4 D231
  have q4 := own_r4 D236
  rw [e_m0, e_es0] at hvP
  have z := own_main hv_nv27 l0 q1 q2 q3 q4 hvP hvP_257 hvP_262 hvP_267 hvP_272
  exact ⟨Int32.toInt_inj.mp (hvL.trans z.1.symm), hvL, z.2⟩
theorem rm0 (hw : Hw a0 Z) (x0 x1 x2 x3 cs : Int32) (fm : Value) (h0 : Heap) (n0 : Nat) (Z0 : n0 ≤ h0.size) (Od : Old Z n0 h0) (S_cs : Sta Z Z.heap cS cC "Z" (.int cs)) (S_fm : Sta Z Z.heap cP cM cF fm) (hv_cs : ¬ cs = i0) (hv_fm : fm.isRef = true) :
    MetH l Z EL1 [] x code maxLocals ret room_1 tables_1 #[(.int x0), (.int x1), (.int x2), (.int x3)] h0 n0 (fun v h => v = some (.int 1)) := by
  refine MetH.mkQ (tabs := tables_1) (a0 := a0) (ls0 := #[iv x0, iv x1, iv x2, iv x3, un, un, un, un, un, un, un, un, un, un, un, un, un, un, un, un, un, un, un, un, un, un, un, un, un, un, un, un, un, un, un]) (plainFor_of_name pn_com_example_medis_medis_engine_ElementAttributesCollapseLastPinLaw) hw Z0 (fun m => by first | (simp [entryFrame, mkF, argsToLocals, Value.category, maxLocals]; done) | rfl) ?_
  intro p e s m below meth c T Q' G' vm k1 hQ hG C X hS Rc hso
  have Kp : Keep h0 h0 [] := Keep.refl _ _
  refine s_iloadN 1 C X at_0 rfl ?_
  refine s_callS 4 [(.int x0)] [] 0 C X at_1 (mW 0 rfl) (mW 1 rfl) (mW 2 rfl) (mW 3 rfl) (rm_a1 l Z a0 hw (x0) _ n0 X.sz ) (lenOf pd__I_C rfl) rfl rfl rfl (fun T v hh X q => ?_)
  obtain ⟨yF, rfl, hvB, Kc⟩ := q
  have Rc := Rc.keep Kc so0
  have Od := Od.keep Kc all0
  have Kp := Kp.trans Kc all0
  refine rc (st' := [(.int yF)]) rfl ?_
  refine s_istore 6 C X (l' := #[iv x0, iv x1, iv x2, iv x3, iv yF, un, un, un, un, un, un, un, un, un, un, un, un, un, un, un, un, un, un, un, un, un, un, un, un, un, un, un, un, un, un]) at_4 rfl ?_
  refine s_iloadN 7 C X at_6 rfl ?_
  refine s_bipush 9 C X at_7 kc_bipush_9 ?_
  refine s_iushr 10 C X at_9 ?_
  refine s_callS 13 [(.int ((x0).toUInt32 >>> (i9 &&& 31).toUInt32).toInt32)] [] 0 C X at_10 (mW 0 rfl) (mW 1 rfl) (mW 2 rfl) (mW 3 rfl) (rm_a1 l Z a0 hw ((x0).toUInt32 >>> (i9 &&& 31).toUInt32).toInt32 _ n0 X.sz ) (lenOf pd__I_C rfl) rfl rfl rfl (fun T v hh X q => ?_)
  obtain ⟨yF_5, rfl, hvB_6, Kc⟩ := q
  have Rc := Rc.keep Kc so0
  have Od := Od.keep Kc all0
  have Kp := Kp.trans Kc all0
  refine rc (st' := [(.int yF_5)]) rfl ?_
  refine s_istore 15 C X (l' := #[iv x0, iv x1, iv x2, iv x3, iv yF, iv yF_5, un, un, un, un, un, un, un, un, un, un, un, un, un, un, un, un, un, un, un, un, un, un, un, un, un, un, un, un, un]) at_13 rfl ?_
  refine s_iloadN 16 C X at_15 rfl ?_
  refine s_bipush 18 C X at_16 kc_bipush_18 ?_
  refine s_iushr 19 C X at_18 ?_
  refine s_callS 22 [(.int ((x0).toUInt32 >>> (i18 &&& 31).toUInt32).toInt32)] [] 0 C X at_19 (mW 0 rfl) (mW 1 rfl) (mW 2 rfl) (mW 3 rfl) (rm_a1 l Z a0 hw ((x0).toUInt32 >>> (i18 &&& 31).toUInt32).toInt32 _ n0 X.sz ) (lenOf pd__I_C rfl) rfl rfl rfl (fun T v hh X q => ?_)
  obtain ⟨yF_9, rfl, hvB_10, Kc⟩ := q
  have Rc := Rc.keep Kc so0
  have Od := Od.keep Kc all0
  have Kp := Kp.trans Kc all0
  refine rc (st' := [(.int yF_9)]) rfl ?_
  refine s_istore 24 C X (l' := #[iv x0, iv x1, iv x2, iv x3, iv yF, iv yF_5, iv yF_9, un, un, un, un, un, un, un, un, un, un, un, un, un, un, un, un, un, un, un, un, un, un, un, un, un, un, un, un]) at_22 rfl ?_
  refine s_iloadN 25 C X at_24 rfl ?_
  refine s_callS 28 [(.int x1)] [] 0 C X at_25 (mW 0 rfl) (mW 1 rfl) (mW 2 rfl) (mW 3 rfl) (rm_a1 l Z a0 hw (x1) _ n0 X.sz ) (lenOf pd__I_C rfl) rfl rfl rfl (fun T v hh X q => ?_)
  obtain ⟨yF_13, rfl, hvB_14, Kc⟩ := q
  have Rc := Rc.keep Kc so0
  have Od := Od.keep Kc all0
  have Kp := Kp.trans Kc all0
  refine rc (st' := [(.int yF_13)]) rfl ?_
  refine s_istore 30 C X (l' := #[iv x0, iv x1, iv x2, iv x3, iv yF, iv yF_5, iv yF_9, iv yF_13, un, un, un, un, un, un, un, un, un, un, un, un, un, un, un, un, un, un, un, un, un, un, un, un, un, un, un]) at_28 rfl ?_
  refine s_iloadN 31 C X at_30 rfl ?_
  refine s_bipush 33 C X at_31 kc_bipush_9 ?_
  refine s_iushr 34 C X at_33 ?_
  refine s_callS 37 [(.int ((x1).toUInt32 >>> (i9 &&& 31).toUInt32).toInt32)] [] 0 C X at_34 (mW 0 rfl) (mW 1 rfl) (mW 2 rfl) (mW 3 rfl) (rm_a1 l Z a0 hw ((x1).toUInt32 >>> (i9 &&& 31).toUInt32).toInt32 _ n0 X.sz ) (lenOf pd__I_C rfl) rfl rfl rfl (fun T v hh X q => ?_)
  obtain ⟨yF_17, rfl, hvB_18, Kc⟩ := q
  have Rc := Rc.keep Kc so0
  have Od := Od.keep Kc all0
  have Kp := Kp.trans Kc all0
  refine rc (st' := [(.int yF_17)]) rfl ?_
  refine s_istore 39 C X (l' := #[iv x0, iv x1, iv x2, iv x3, iv yF, iv yF_5, iv yF_9, iv yF_13, iv yF_17, un, un, un, un, un, un, un, un, un, un, un, un, un, un, un, un, un, un, un, un, un, un, un, un, un, un]) at_37 rfl ?_
  refine s_iloadN 40 C X at_39 rfl ?_
  refine s_bipush 42 C X at_40 kc_bipush_18 ?_
  refine s_iushr 43 C X at_42 ?_
  refine s_callS 46 [(.int ((x1).toUInt32 >>> (i18 &&& 31).toUInt32).toInt32)] [] 0 C X at_43 (mW 0 rfl) (mW 1 rfl) (mW 2 rfl) (mW 3 rfl) (rm_a1 l Z a0 hw ((x1).toUInt32 >>> (i18 &&& 31).toUInt32).toInt32 _ n0 X.sz ) (lenOf pd__I_C rfl) rfl rfl rfl (fun T v hh X q => ?_)
  obtain ⟨yF_21, rfl, hvB_22, Kc⟩ := q
  have Rc := Rc.keep Kc so0
  have Od := Od.keep Kc all0
  have Kp := Kp.trans Kc all0
  refine rc (st' := [(.int yF_21)]) rfl ?_
  refine s_istore 48 C X (l' := #[iv x0, iv x1, iv x2, iv x3, iv yF, iv yF_5, iv yF_9, iv yF_13, iv yF_17, iv yF_21, un, un, un, un, un, un, un, un, un, un, un, un, un, un, un, un, un, un, un, un, un, un, un, un, un]) at_46 rfl ?_
  refine s_iloadN 49 C X at_48 rfl ?_
  refine s_callS 52 [(.int x2)] [] 0 C X at_49 (mW 0 rfl) (mW 1 rfl) (mW 2 rfl) (mW 3 rfl) (rm_a1 l Z a0 hw (x2) _ n0 X.sz ) (lenOf pd__I_C rfl) rfl rfl rfl (fun T v hh X q => ?_)
  obtain ⟨yF_25, rfl, hvB_26, Kc⟩ := q
  have Rc := Rc.keep Kc so0
  have Od := Od.keep Kc all0
  have Kp := Kp.trans Kc all0
  refine rc (st' := [(.int yF_25)]) rfl ?_
  refine s_istore 54 C X (l' := #[iv x0, iv x1, iv x2, iv x3, iv yF, iv yF_5, iv yF_9, iv yF_13, iv yF_17, iv yF_21, iv yF_25, un, un, un, un, un, un, un, un, un, un, un, un, un, un, un, un, un, un, un, un, un, un, un, un]) at_52 rfl ?_
  refine s_iloadN 55 C X at_54 rfl ?_
  refine s_bipush 57 C X at_55 kc_bipush_7 ?_
  refine s_iand 58 C X at_57 ?_
  refine s_bipush 60 C X at_58 kc_bipush_6 ?_
  refine s_irem 61 C X at_60 (by decide) ?_
  obtain ⟨nv27, e_nv27⟩ : ∃ zz_ : Int32, zz_ = ((x3 &&& i7) % i6) := ⟨_, rfl⟩
  refine rc (st' := [(.int nv27)]) (by subst e_nv27; rfl) ?_
  have hv_nv27 : own_N nv27 := by rw [e_nv27]; exact own_n _
  refine s_istore 63 C X (l' := #[iv x0, iv x1, iv x2, iv x3, iv yF, iv yF_5, iv yF_9, iv yF_13, iv yF_17, iv yF_21, iv yF_25, iv nv27, un, un, un, un, un, un, un, un, un, un, un, un, un, un, un, un, un, un, un, un, un, un, un]) at_61 rfl ?_
  refine s_iloadN 64 C X at_63 rfl ?_
  refine s_iconst 65 C X at_64 kc_iconst_3 ?_
  refine s_iushr 66 C X at_65 ?_
  refine s_iconst 67 C X at_66 kc_iconst_3 ?_
  refine s_iand 68 C X at_67 ?_
  obtain ⟨pr28, e_pr28⟩ : ∃ zz_ : Int32, zz_ = (((x3).toUInt32 >>> (i3 &&& 31).toUInt32).toInt32 &&& i3) := ⟨_, rfl⟩
  refine rc (st' := [(.int pr28)]) (by subst e_pr28; rfl) ?_
  refine s_istore 70 C X (l' := #[iv x0, iv x1, iv x2, iv x3, iv yF, iv yF_5, iv yF_9, iv yF_13, iv yF_17, iv yF_21, iv yF_25, iv nv27, iv pr28, un, un, un, un, un, un, un, un, un, un, un, un, un, un, un, un, un, un, un, un, un, un]) at_68 rfl ?_
  refine s_iconst 71 C X at_70 kc_iconst_5 ?_
  refine s_newarray 73 5 C X at_71 (mW 4 rfl) (by decide) (by decide) (fun T hh o29 k_o29 hb_o29 X E A_o29 g_o29 => ?_)
  have H_o29 : Safe Z EL1 vm _ o29 := Safe.ext E Rc.1.1 (Safe.new (Nat.le_of_eq hb_o29))
  have Rc := Rc.ext E
  have sz_o29 : h0.size ≤ o29 := Nat.le_trans Kp.1 (Nat.le_of_eq hb_o29)
  have Od := Od.ext E
  have Kp := Kp.ext E
  have A_o29 : Arv Z _ o29 k_o29 .char i5 [(.int i0), (.int i0), (.int i0), (.int i0), (.int i0)] (.int i0) := A_o29.pad (pad_rep [] _ 5)
  refine s_dup 74 C X at_73 rfl ?_
  refine s_iconst 75 C X at_74 kc_iconst_0 ?_
  refine s_iload 77 C X at_75 rfl ?_
  have Sf : Safe Z EL1 vm _ o29 := H_o29
  refine s_castore 78 0 C X at_77 A_o29 g_o29 ⟨by decide, by decide⟩ rfl (Nat.le_of_ble_eq_true rfl) (fun T hh X W A_o29 => ?_)
  have A_o29 : Arv Z _ o29 k_o29 .char i5 [(.int (nar .char yF)), (.int i0), (.int i0), (.int i0), (.int i0)] (.int i0) := A_o29
  have H_o29 := Safe.wr W Sf Rc.1.1 H_o29
  have Rc := Rc.wr W Sf
  have Od := Od.wr W g_o29
  have Kp := Kp.wr W (Or.inr sz_o29)
  rw [own_nc hvB] at A_o29
  refine s_dup 79 C X at_78 rfl ?_
  refine s_iconst 80 C X at_79 kc_iconst_1 ?_
  refine s_iload 82 C X at_80 rfl ?_
  have Sf : Safe Z EL1 vm _ o29 := H_o29
  refine s_castore 83 1 C X at_82 A_o29 g_o29 ⟨by decide, by decide⟩ rfl (Nat.le_of_ble_eq_true rfl) (fun T hh X W A_o29 => ?_)
  have A_o29 : Arv Z _ o29 k_o29 .char i5 [(.int yF), (.int (nar .char yF_5)), (.int i0), (.int i0), (.int i0)] (.int i0) := A_o29
  have H_o29 := Safe.wr W Sf Rc.1.1 H_o29
  have Rc := Rc.wr W Sf
  have Od := Od.wr W g_o29
  have Kp := Kp.wr W (Or.inr sz_o29)
  rw [own_nc hvB_6] at A_o29
  refine s_dup 84 C X at_83 rfl ?_
  refine s_iconst 85 C X at_84 kc_iconst_2 ?_
  refine s_iload 87 C X at_85 rfl ?_
  have Sf : Safe Z EL1 vm _ o29 := H_o29
  refine s_castore 88 2 C X at_87 A_o29 g_o29 ⟨by decide, by decide⟩ rfl (Nat.le_of_ble_eq_true rfl) (fun T hh X W A_o29 => ?_)
  have A_o29 : Arv Z _ o29 k_o29 .char i5 [(.int yF), (.int yF_5), (.int (nar .char yF_9)), (.int i0), (.int i0)] (.int i0) := A_o29
  have H_o29 := Safe.wr W Sf Rc.1.1 H_o29
  have Rc := Rc.wr W Sf
  have Od := Od.wr W g_o29
  have Kp := Kp.wr W (Or.inr sz_o29)
  rw [own_nc hvB_10] at A_o29
  refine s_dup 89 C X at_88 rfl ?_
  refine s_iconst 90 C X at_89 kc_iconst_3 ?_
  refine s_iload 92 C X at_90 rfl ?_
  have Sf : Safe Z EL1 vm _ o29 := H_o29
  refine s_castore 93 3 C X at_92 A_o29 g_o29 ⟨by decide, by decide⟩ rfl (Nat.le_of_ble_eq_true rfl) (fun T hh X W A_o29 => ?_)
  have A_o29 : Arv Z _ o29 k_o29 .char i5 [(.int yF), (.int yF_5), (.int yF_9), (.int (nar .char yF_13)), (.int i0)] (.int i0) := A_o29
  have H_o29 := Safe.wr W Sf Rc.1.1 H_o29
  have Rc := Rc.wr W Sf
  have Od := Od.wr W g_o29
  have Kp := Kp.wr W (Or.inr sz_o29)
  rw [own_nc hvB_14] at A_o29
  refine s_dup 94 C X at_93 rfl ?_
  refine s_iconst 95 C X at_94 kc_iconst_4 ?_
  refine s_iload 97 C X at_95 rfl ?_
  have Sf : Safe Z EL1 vm _ o29 := H_o29
  refine s_castore 98 4 C X at_97 A_o29 g_o29 ⟨by decide, by decide⟩ rfl (Nat.le_of_ble_eq_true rfl) (fun T hh X W A_o29 => ?_)
  have A_o29 : Arv Z _ o29 k_o29 .char i5 [(.int yF), (.int yF_5), (.int yF_9), (.int yF_13), (.int (nar .char yF_17))] (.int i0) := A_o29
  have Rc := Rc.wr W Sf
  have Od := Od.wr W g_o29
  have Kp := Kp.wr W (Or.inr sz_o29)
  rw [own_nc hvB_18] at A_o29
  refine s_astore 100 C X (l' := #[iv x0, iv x1, iv x2, iv x3, iv yF, iv yF_5, iv yF_9, iv yF_13, iv yF_17, iv yF_21, iv yF_25, iv nv27, iv pr28, rv o29, un, un, un, un, un, un, un, un, un, un, un, un, un, un, un, un, un, un, un, un, un]) at_98 rfl rfl ?_
  refine s_iload 102 C X at_100 rfl ?_
  refine s_iconst 103 C X at_102 kc_iconst_1 ?_
  refine s_icmp_ne 119 106 C X at_103 (fun c103_30 => ?_) (fun c103_30 => ?_)
  · have t_c103_30 := ine c103_30
    refine s_iload 121 C X at_119 rfl ?_
    refine s_iconst 122 C X at_121 kc_iconst_2 ?_
    refine s_icmp_ne 143 125 C X at_122 (fun c122_31 => ?_) (fun c122_31 => ?_)
    · have t_c122_31 := ine c122_31
      refine s_iconst 144 C X at_143 kc_iconst_0 ?_
      refine s_newarray 146 0 C X at_144 (mW 4 rfl) (by decide) (by decide) (fun T hh o32 k_o32 hb_o32 X E A_o32 g_o32 => ?_)
      have Rc := Rc.ext E
      have Od := Od.ext E
      have Kp := Kp.ext E
      have A_o29 := A_o29.ext E
      have A_o32 : Arv Z _ o32 k_o32 .char i0 [] (.int i0) := A_o32.pad (pad_rep [] _ 0)
      refine s_astore 148 C X (l' := #[iv x0, iv x1, iv x2, iv x3, iv yF, iv yF_5, iv yF_9, iv yF_13, iv yF_17, iv yF_21, iv yF_25, iv nv27, iv pr28, rv o29, rv o32, un, un, un, un, un, un, un, un, un, un, un, un, un, un, un, un, un, un, un, un]) at_146 rfl rfl ?_
      refine s_new 151 C X at_148 (mW 5 rfl) (mW 6 rfl) (mW 7 rfl) (fun T hh o46 hb_o46 X E E_o46 D g_o46 => ?_)
      have H_o46 : Safe Z EL1 vm _ o46 := Safe.ext E Rc.1.1 (Safe.new (Nat.le_of_eq hb_o46))
      have Rc := Rc.ext E
      have sz_o46 : h0.size ≤ o46 := Nat.le_trans Kp.1 (Nat.le_of_eq hb_o46)
      have ne_o29_o46 : o29 ≠ o46 := Nat.ne_of_lt (Nat.lt_of_lt_of_le A_o29.lt (Nat.le_of_eq hb_o46))
      have ne_o32_o46 : o32 ≠ o46 := Nat.ne_of_lt (Nat.lt_of_lt_of_le A_o32.lt (Nat.le_of_eq hb_o46))
      have Od := Od.ext E
      have Kp := Kp.ext E
      have A_o29 := A_o29.ext E
      have A_o32 := A_o32.ext E
      have F_o46_q : Fld Z _ o46 cE fq cG .null := D (Or.inl (hw _ (mW 17 rfl))) (ty := (.array (.object cS))) (by decide)
      have F_o46_u : Fld Z _ o46 cE fu cG .null := D (Or.inl (hw _ (mW 19 rfl))) (ty := (.array (.object cS))) (by decide)
      have F_o46_l : Fld Z _ o46 cE fl cG .null := D (Or.inl (hw _ (mW 21 rfl))) (ty := (.array (.object cS))) (by decide)
      have F_o46_c : Fld Z _ o46 cE fc "[I" .null := D (Or.inl (hw _ (mW 24 rfl))) (ty := (.array .int)) (by decide)
      have F_o46_s : Fld Z _ o46 cE fs "[I" .null := D (Or.inl (hw _ (mW 26 rfl))) (ty := (.array .int)) (by decide)
      have F_o46_g : Fld Z _ o46 cE fg cG .null := D (Or.inl (hw _ (mW 28 rfl))) (ty := (.array (.object cS))) (by decide)
      have F_o46_v : Fld Z _ o46 cE fv "[C" .null := D (Or.inl (hw _ (mW 30 rfl))) (ty := (.array .char)) (by decide)
      have F_o46_n : Fld Z _ o46 cE "length" "I" (.int i0) := D (Or.inl (hw _ (mW 45 rfl))) (ty := .int) (by decide)
      refine s_dup 152 C X at_151 rfl ?_
      have Sw_o46 : Safe Z EL1 vm _ o46 := H_o46
      refine s_callC 155 [] [(.ref o46)] 1 C X at_152 rfl (mW 8 rfl) (mW 9 rfl) (mW 7 rfl) (mW 10 rfl) (rm_a2 l Z a0 hw o46 _ n0 X.sz E_o46 F_o46_q F_o46_u F_o46_l F_o46_c F_o46_s F_o46_g F_o46_v F_o46_n g_o46) (lenOf pd___V rfl) rfl rfl rfl (fun T v hh X q => ?_)
      obtain ⟨k_o47, k_o48, k_o49, k_o50, k_o51, k_o52, k_o53, o47, o48, o49, o50, o51, o52, o53, rfl, E_o46, F_o46_q, F_o46_u, F_o46_l, F_o46_c, F_o46_s, F_o46_g, F_o46_v, F_o46_n, Kc, A_o47, A_o48, A_o49, A_o50, A_o51, A_o52, A_o53, ne_o46_o47, sz_o47', g_o47, ne_o46_o48, sz_o48', ne_o47_o48, g_o48, ne_o46_o49, sz_o49', ne_o47_o49, ne_o48_o49, g_o49, ne_o46_o50, sz_o50', ne_o47_o50, ne_o48_o50, ne_o49_o50, g_o50, ne_o46_o51, sz_o51', ne_o47_o51, ne_o48_o51, ne_o49_o51, ne_o50_o51, g_o51, ne_o46_o52, sz_o52', ne_o47_o52, ne_o48_o52, ne_o49_o52, ne_o50_o52, ne_o51_o52, g_o52, ne_o46_o53, sz_o53', ne_o47_o53, ne_o48_o53, ne_o49_o53, ne_o50_o53, ne_o51_o53, ne_o52_o53, g_o53, O_o47, O_o48, O_o49, O_o52⟩ := q
      have ne_o29_o47 : o29 ≠ o47 := Nat.ne_of_lt (Nat.lt_of_lt_of_le A_o29.lt sz_o47')
      have ne_o32_o47 : o32 ≠ o47 := Nat.ne_of_lt (Nat.lt_of_lt_of_le A_o32.lt sz_o47')
      have sz_o47 : h0.size ≤ o47 := Nat.le_trans Kp.1 sz_o47'
      have ne_o29_o48 : o29 ≠ o48 := Nat.ne_of_lt (Nat.lt_of_lt_of_le A_o29.lt sz_o48')
      have ne_o32_o48 : o32 ≠ o48 := Nat.ne_of_lt (Nat.lt_of_lt_of_le A_o32.lt sz_o48')
      have sz_o48 : h0.size ≤ o48 := Nat.le_trans Kp.1 sz_o48'
      have ne_o29_o49 : o29 ≠ o49 := Nat.ne_of_lt (Nat.lt_of_lt_of_le A_o29.lt sz_o49')
      have ne_o32_o49 : o32 ≠ o49 := Nat.ne_of_lt (Nat.lt_of_lt_of_le A_o32.lt sz_o49')
      have sz_o49 : h0.size ≤ o49 := Nat.le_trans Kp.1 sz_o49'
      have ne_o29_o50 : o29 ≠ o50 := Nat.ne_of_lt (Nat.lt_of_lt_of_le A_o29.lt sz_o50')
      have ne_o32_o50 : o32 ≠ o50 := Nat.ne_of_lt (Nat.lt_of_lt_of_le A_o32.lt sz_o50')
      have sz_o50 : h0.size ≤ o50 := Nat.le_trans Kp.1 sz_o50'
      have ne_o29_o51 : o29 ≠ o51 := Nat.ne_of_lt (Nat.lt_of_lt_of_le A_o29.lt sz_o51')
      have ne_o32_o51 : o32 ≠ o51 := Nat.ne_of_lt (Nat.lt_of_lt_of_le A_o32.lt sz_o51')
      have sz_o51 : h0.size ≤ o51 := Nat.le_trans Kp.1 sz_o51'
      have ne_o32_o52 : o32 ≠ o52 := Nat.ne_of_lt (Nat.lt_of_lt_of_le A_o32.lt sz_o52')
      have sz_o52 : h0.size ≤ o52 := Nat.le_trans Kp.1 sz_o52'
      have ne_o29_o53 : o29 ≠ o53 := Nat.ne_of_lt (Nat.lt_of_lt_of_le A_o29.lt sz_o53')
      have ne_o32_o53 : o32 ≠ o53 := Nat.ne_of_lt (Nat.lt_of_lt_of_le A_o32.lt sz_o53')
      have sz_o53 : h0.size ≤ o53 := Nat.le_trans Kp.1 sz_o53'
      have Hs : ∀ x ∈ [o46], Safe Z EL1 vm _ x := (soS Sw_o46 so0)
      have Rc := Rc.keep Kc Hs
      have Od := Od.keep Kc (allS g_o46 all0)
      have Kp := Kp.trans Kc (allS (Or.inr sz_o46) all0)
      have A_o29 := A_o29.keep Kc (ninS ne_o29_o46 nin0)
      have A_o32 := A_o32.keep Kc (ninS ne_o32_o46 nin0)
      refine rc (st' := [(.ref o46)]) rfl ?_
      refine s_astore 157 C X (l' := #[iv x0, iv x1, iv x2, iv x3, iv yF, iv yF_5, iv yF_9, iv yF_13, iv yF_17, iv yF_21, iv yF_25, iv nv27, iv pr28, rv o29, rv o32, rv o46, un, un, un, un, un, un, un, un, un, un, un, un, un, un, un, un, un, un, un]) at_155 rfl rfl ?_
      refine s_iconst 158 C X at_157 kc_iconst_0 ?_
      refine s_istore 160 C X (l' := #[iv x0, iv x1, iv x2, iv x3, iv yF, iv yF_5, iv yF_9, iv yF_13, iv yF_17, iv yF_21, iv yF_25, iv nv27, iv pr28, rv o29, rv o32, rv o46, iv i0, un, un, un, un, un, un, un, un, un, un, un, un, un, un, un, un, un, un]) at_158 rfl ?_
      refine s_iload 162 C X at_160 rfl ?_
      refine s_if_eq 187 165 C X at_162 (fun c162_55 => ?_) (fun c162_55 => ?_)
      · have t_c162_55 := ieq c162_55
        refine s_aload 189 C X at_187 rfl rfl ?_
        refine s_ldcH 191 4 C X hS Rc.2 (own_EL hw) Rc.1.1 at_189 (mW 31 rfl) (own_wS hw) (vs := [(.int i113)]) (z := i1) (by decide) ⟨by decide, rfl⟩ (by decide) rfl (fun T hh t61 b62 k_b62 vm k1 C X E hS Nk Rn E_t61 F_t61_k F_t61_a A_b62 nS => ?_)
        have Rc := Rc.call Rn Nk
        have Od := Od.ext E
        have Kp := Kp.ext E
        have A_o29 := A_o29.ext E
        have E_o46 := E_o46.ext E
        have F_o46_q := F_o46_q.ext E
        have F_o46_u := F_o46_u.ext E
        have F_o46_l := F_o46_l.ext E
        have F_o46_c := F_o46_c.ext E
        have F_o46_s := F_o46_s.ext E
        have F_o46_g := F_o46_g.ext E
        have F_o46_v := F_o46_v.ext E
        have F_o46_n := F_o46_n.ext E
        have A_o47 := A_o47.ext E
        have A_o48 := A_o48.ext E
        have A_o49 := A_o49.ext E
        have A_o50 := A_o50.ext E
        have A_o51 := A_o51.ext E
        have A_o52 := A_o52.ext E
        have A_o53 := A_o53.ext E
        refine s_iconst 192 C X at_191 kc_iconst_m1 ?_
        refine s_hcallV 195 [(.ref t61), (.int im1)] [] 0 C X hS Rc.2 (own_EL hw) Rc.1.1 at_192 (mW 39 rfl) (mW 40 rfl) (nF C (mW 42 rfl)) (mW 42 rfl) (mW 41 rfl) (mW 7 rfl) (mW 43 rfl) E_o46 (rm_a3 l Z a0 hw o46 k_o47 k_o48 k_o49 k_o50 k_o51 o47 o48 o49 o50 o51 o52 o53 t61 _ n0 X.sz E_o46 F_o46_q F_o46_u F_o46_l F_o46_c F_o46_s F_o46_g F_o46_v F_o46_n A_o47 A_o48 A_o49 A_o50 A_o51 E_t61 g_o46 g_o47 g_o48 g_o49 g_o50 g_o51 ne_o46_o47 ne_o46_o48 ne_o47_o48 ne_o46_o49 ne_o47_o49 ne_o48_o49 ne_o46_o50 ne_o47_o50 ne_o48_o50 ne_o49_o50 ne_o46_o51 ne_o47_o51 ne_o48_o51 ne_o49_o51 ne_o50_o51 O_o47 O_o48 O_o49) (lenOf pd__Ljava_lang_String_I_V rfl) rfl rfl rfl so0 (fun T v hh vm k1 C X hS Nk Rn q => ?_)
        obtain ⟨b65, k_b65, t64, rfl, E_o46, F_o46_q, F_o46_u, F_o46_l, F_o46_c, F_o46_s, F_o46_g, F_o46_v, F_o46_n, A_o47, A_o48, A_o49, A_o50, A_o51, Kc, E_t64, F_t64_k, F_t64_a, A_b65, ne_o46_t64, ne_o46_b65, ne_o47_t64, ne_o47_b65, ne_o48_t64, ne_o48_b65, ne_o49_t64, ne_o49_b65, ne_o50_t64, ne_o50_b65, ne_o51_t64, ne_o51_b65⟩ := q
        have Rc := Rc.call Rn Nk
        have Od := Od.keep Kc (allS g_o46 (allS g_o47 (allS g_o48 (allS g_o49 (allS g_o50 (allS g_o51 all0))))))
        have Kp := Kp.trans Kc (allS (Or.inr sz_o46) (allS (Or.inr sz_o47) (allS (Or.inr sz_o48) (allS (Or.inr sz_o49) (allS (Or.inr sz_o50) (allS (Or.inr sz_o51) all0))))))
        have A_o29 := A_o29.keep Kc (ninS ne_o29_o46 (ninS ne_o29_o47 (ninS ne_o29_o48 (ninS ne_o29_o49 (ninS ne_o29_o50 (ninS ne_o29_o51 nin0))))))
        have A_o52 := A_o52.keep Kc (ninS (Ne.symm ne_o46_o52) (ninS (Ne.symm ne_o47_o52) (ninS (Ne.symm ne_o48_o52) (ninS (Ne.symm ne_o49_o52) (ninS (Ne.symm ne_o50_o52) (ninS (Ne.symm ne_o51_o52) nin0))))))
        have A_o53 := A_o53.keep Kc (ninS (Ne.symm ne_o46_o53) (ninS (Ne.symm ne_o47_o53) (ninS (Ne.symm ne_o48_o53) (ninS (Ne.symm ne_o49_o53) (ninS (Ne.symm ne_o50_o53) (ninS (Ne.symm ne_o51_o53) nin0))))))
        refine rc (st' := []) rfl ?_
        refine s_aload 197 C X at_195 rfl rfl ?_
        refine s_aload 199 C X at_197 rfl rfl ?_
        refine s_iconst 200 C X at_199 kc_iconst_0 ?_
        refine s_iload 202 C X at_200 rfl ?_
        have Sw_o51 : Safe Z EL1 vm _ o51 := (Safe.arv C.2.1.alike A_o51 (by decide))
        have Sw_o53 : Safe Z EL1 vm _ o53 := (Safe.arv C.2.1.alike A_o53 (by decide))
        refine s_callV 205 [(.ref o29), (.int i0), (.int nv27)] [] 0 C X at_202 (mW 48 rfl) (mW 49 rfl) (nF C (mW 51 rfl)) (mW 51 rfl) (mW 50 rfl) (mW 7 rfl) (mW 52 rfl) E_o46 (rm_a4 l Z a0 hw yF yF_5 yF_9 yF_13 yF_17 nv27 o29 o46 k_o29 k_o51 k_o53 o51 o53 _ n0 X.sz A_o29 A_o53 F_o46_s F_o46_v F_o46_n A_o51 hv_nv27 ne_o29_o51 g_o51 ne_o29_o53 g_o53 ne_o46_o51 ne_o46_o53 ne_o51_o53) (lenOf pd___CII_V rfl) rfl rfl rfl (fun T v hh X q => ?_)
        obtain ⟨rfl, A_o51, Kc, A_o53⟩ := q
        have Hs : ∀ x ∈ [o51, o53], Safe Z EL1 vm _ x := (soS Sw_o51 (soS Sw_o53 so0))
        have Rc := Rc.keep Kc Hs
        have nn_o46 : o46 ∉ [o51, o53] := (ninS ne_o46_o51 (ninS ne_o46_o53 nin0))
        have Od := Od.keep Kc (allS g_o51 (allS g_o53 all0))
        have Kp := Kp.trans Kc (allS (Or.inr sz_o51) (allS (Or.inr sz_o53) all0))
        have A_o52 := A_o52.keep Kc (ninS (Ne.symm ne_o51_o52) (ninS ne_o52_o53 nin0))
        have E_o46 := E_o46.keep Kc
        have F_o46_s := F_o46_s.keep Kc nn_o46
        have F_o46_g := F_o46_g.keep Kc nn_o46
        have F_o46_v := F_o46_v.keep Kc nn_o46
        have F_o46_n := F_o46_n.keep Kc nn_o46
        refine rc (st' := []) rfl ?_
        refine s_aload 207 C X at_205 rfl rfl ?_
        have Sw_o51 : Safe Z EL1 vm _ o51 := (Safe.arv C.2.1.alike A_o51 (by decide))
        have Sw_o53 : Safe Z EL1 vm _ o53 := (Safe.arv C.2.1.alike A_o53 (by decide))
        refine s_callV 210 [] [] 0 C X at_207 (mW 57 rfl) (mW 58 rfl) (nF C (mW 60 rfl)) (mW 60 rfl) (mW 59 rfl) (mW 7 rfl) (mW 61 rfl) E_o46 (rm_a5 l Z a0 hw yF yF_5 yF_9 yF_13 yF_17 nv27 o46 k_o51 k_o53 o51 o53 _ n0 X.sz F_o46_s F_o46_v F_o46_n A_o51 A_o53 hvB hvB_6 hvB_10 hvB_14 hvB_18 hv_nv27 g_o51 g_o53 ne_o46_o51 ne_o46_o53 ne_o51_o53) (lenOf pd___V rfl) rfl rfl rfl (fun T v hh X q => ?_)
        obtain ⟨tF, xsF, rfl, hvC, A_o51, A_o53, Kc⟩ := q
        have Hs : ∀ x ∈ [o51, o53], Safe Z EL1 vm _ x := (soS Sw_o51 (soS Sw_o53 so0))
        have Rc := Rc.keep Kc Hs
        have nn_o46 : o46 ∉ [o51, o53] := (ninS ne_o46_o51 (ninS ne_o46_o53 nin0))
        have Od := Od.keep Kc (allS g_o51 (allS g_o53 all0))
        have Kp := Kp.trans Kc (allS (Or.inr sz_o51) (allS (Or.inr sz_o53) all0))
        have A_o52 := A_o52.keep Kc (ninS (Ne.symm ne_o51_o52) (ninS ne_o52_o53 nin0))
        have E_o46 := E_o46.keep Kc
        have F_o46_s := F_o46_s.keep Kc nn_o46
        have F_o46_g := F_o46_g.keep Kc nn_o46
        have F_o46_v := F_o46_v.keep Kc nn_o46
        have F_o46_n := F_o46_n.keep Kc nn_o46
        refine rc (st' := []) rfl ?_
        refine s_iconst 211 C X at_210 kc_iconst_0 ?_
        refine s_iload 213 C X at_211 rfl ?_
        refine s_iload 215 C X at_213 rfl ?_
        refine s_callS 218 [(.int i0), (.int nv27), (.int yF)] [] 0 C X at_215 (mW 62 rfl) (mW 63 rfl) (mW 2 rfl) (mW 64 rfl) (rm_a6 l Z a0 hw yF nv27 _ n0 X.sz ) (lenOf pd__IIC_Z rfl) rfl rfl rfl (fun T v hh X q => ?_)
        obtain ⟨y174, rfl, D175, Kc⟩ := q
        have Rc := Rc.keep Kc so0
        have Od := Od.keep Kc all0
        have Kp := Kp.trans Kc all0
        have A_o52 := A_o52.keep Kc nin0
        have E_o46 := E_o46.keep Kc
        have F_o46_s := F_o46_s.keep Kc nin0
        have F_o46_g := F_o46_g.keep Kc nin0
        have F_o46_v := F_o46_v.keep Kc nin0
        have F_o46_n := F_o46_n.keep Kc nin0
        have A_o51 := A_o51.keep Kc nin0
        have A_o53 := A_o53.keep Kc nin0
        refine rc (st' := [(.int y174)]) rfl ?_
        refine s_istore 220 C X (l' := #[iv x0, iv x1, iv x2, iv x3, iv yF, iv yF_5, iv yF_9, iv yF_13, iv yF_17, iv yF_21, iv yF_25, iv nv27, iv pr28, rv o29, rv o32, rv o46, iv i0, iv y174, un, un, un, un, un, un, un, un, un, un, un, un, un, un, un, un, un]) at_218 rfl ?_
        refine s_iconst 221 C X at_220 kc_iconst_1 ?_
        refine s_iload 223 C X at_221 rfl ?_
        refine s_iload 225 C X at_223 rfl ?_
        refine s_callS 228 [(.int i1), (.int nv27), (.int yF_5)] [] 0 C X at_225 (mW 62 rfl) (mW 63 rfl) (mW 2 rfl) (mW 64 rfl) (rm_a7 l Z a0 hw yF_5 nv27 _ n0 X.sz ) (lenOf pd__IIC_Z rfl) rfl rfl rfl (fun T v hh X q => ?_)
        obtain ⟨y179, rfl, D180, Kc⟩ := q
        have Rc := Rc.keep Kc so0
        have Od := Od.keep Kc all0
        have Kp := Kp.trans Kc all0
        have A_o52 := A_o52.keep Kc nin0
        have E_o46 := E_o46.keep Kc
        have F_o46_s := F_o46_s.keep Kc nin0
        have F_o46_g := F_o46_g.keep Kc nin0
        have F_o46_v := F_o46_v.keep Kc nin0
        have F_o46_n := F_o46_n.keep Kc nin0
        have A_o51 := A_o51.keep Kc nin0
        have A_o53 := A_o53.keep Kc nin0
        refine rc (st' := [(.int y179)]) rfl ?_
        refine s_istore 230 C X (l' := #[iv x0, iv x1, iv x2, iv x3, iv yF, iv yF_5, iv yF_9, iv yF_13, iv yF_17, iv yF_21, iv yF_25, iv nv27, iv pr28, rv o29, rv o32, rv o46, iv i0, iv y174, iv y179, un, un, un, un, un, un, un, un, un, un, un, un, un, un, un, un]) at_228 rfl ?_
        refine s_iconst 231 C X at_230 kc_iconst_2 ?_
        refine s_iload 233 C X at_231 rfl ?_
        refine s_iload 235 C X at_233 rfl ?_
        refine s_callS 238 [(.int i2), (.int nv27), (.int yF_9)] [] 0 C X at_235 (mW 62 rfl) (mW 63 rfl) (mW 2 rfl) (mW 64 rfl) (rm_a8 l Z a0 hw yF_9 nv27 _ n0 X.sz ) (lenOf pd__IIC_Z rfl) rfl rfl rfl (fun T v hh X q => ?_)
        obtain ⟨y184, rfl, D185, Kc⟩ := q
        have Rc := Rc.keep Kc so0
        have Od := Od.keep Kc all0
        have Kp := Kp.trans Kc all0
        have A_o52 := A_o52.keep Kc nin0
        have E_o46 := E_o46.keep Kc
        have F_o46_s := F_o46_s.keep Kc nin0
        have F_o46_g := F_o46_g.keep Kc nin0
        have F_o46_v := F_o46_v.keep Kc nin0
        have F_o46_n := F_o46_n.keep Kc nin0
        have A_o51 := A_o51.keep Kc nin0
        have A_o53 := A_o53.keep Kc nin0
        refine rc (st' := [(.int y184)]) rfl ?_
        refine s_istore 240 C X (l' := #[iv x0, iv x1, iv x2, iv x3, iv yF, iv yF_5, iv yF_9, iv yF_13, iv yF_17, iv yF_21, iv yF_25, iv nv27, iv pr28, rv o29, rv o32, rv o46, iv i0, iv y174, iv y179, iv y184, un, un, un, un, un, un, un, un, un, un, un, un, un, un, un]) at_238 rfl ?_
        refine s_iconst 241 C X at_240 kc_iconst_3 ?_
        refine s_iload 243 C X at_241 rfl ?_
        refine s_iload 245 C X at_243 rfl ?_
        refine s_callS 248 [(.int i3), (.int nv27), (.int yF_13)] [] 0 C X at_245 (mW 62 rfl) (mW 63 rfl) (mW 2 rfl) (mW 64 rfl) (rm_a9 l Z a0 hw yF_13 nv27 _ n0 X.sz ) (lenOf pd__IIC_Z rfl) rfl rfl rfl (fun T v hh X q => ?_)
        obtain ⟨y189, rfl, D190, Kc⟩ := q
        have Rc := Rc.keep Kc so0
        have Od := Od.keep Kc all0
        have Kp := Kp.trans Kc all0
        have A_o52 := A_o52.keep Kc nin0
        have E_o46 := E_o46.keep Kc
        have F_o46_s := F_o46_s.keep Kc nin0
        have F_o46_g := F_o46_g.keep Kc nin0
        have F_o46_v := F_o46_v.keep Kc nin0
        have F_o46_n := F_o46_n.keep Kc nin0
        have A_o51 := A_o51.keep Kc nin0
        have A_o53 := A_o53.keep Kc nin0
        refine rc (st' := [(.int y189)]) rfl ?_
        refine s_istore 250 C X (l' := #[iv x0, iv x1, iv x2, iv x3, iv yF, iv yF_5, iv yF_9, iv yF_13, iv yF_17, iv yF_21, iv yF_25, iv nv27, iv pr28, rv o29, rv o32, rv o46, iv i0, iv y174, iv y179, iv y184, iv y189, un, un, un, un, un, un, un, un, un, un, un, un, un, un]) at_248 rfl ?_
        refine s_iconst 251 C X at_250 kc_iconst_4 ?_
        refine s_iload 253 C X at_251 rfl ?_
        refine s_iload 255 C X at_253 rfl ?_
        refine s_callS 258 [(.int i4), (.int nv27), (.int yF_17)] [] 0 C X at_255 (mW 62 rfl) (mW 63 rfl) (mW 2 rfl) (mW 64 rfl) (rm_a10 l Z a0 hw yF_17 nv27 _ n0 X.sz ) (lenOf pd__IIC_Z rfl) rfl rfl rfl (fun T v hh X q => ?_)
        obtain ⟨y194, rfl, D195, Kc⟩ := q
        have Rc := Rc.keep Kc so0
        have Od := Od.keep Kc all0
        have Kp := Kp.trans Kc all0
        have A_o52 := A_o52.keep Kc nin0
        have E_o46 := E_o46.keep Kc
        have F_o46_s := F_o46_s.keep Kc nin0
        have F_o46_g := F_o46_g.keep Kc nin0
        have F_o46_v := F_o46_v.keep Kc nin0
        have F_o46_n := F_o46_n.keep Kc nin0
        have A_o51 := A_o51.keep Kc nin0
        have A_o53 := A_o53.keep Kc nin0
        refine rc (st' := [(.int y194)]) rfl ?_
        refine s_istore 260 C X (l' := #[iv x0, iv x1, iv x2, iv x3, iv yF, iv yF_5, iv yF_9, iv yF_13, iv yF_17, iv yF_21, iv yF_25, iv nv27, iv pr28, rv o29, rv o32, rv o46, iv i0, iv y174, iv y179, iv y184, iv y189, iv y194, un, un, un, un, un, un, un, un, un, un, un, un, un]) at_258 rfl ?_
        refine s_iload 262 C X at_260 rfl ?_
        refine s_istore 264 C X (l' := #[iv x0, iv x1, iv x2, iv x3, iv yF, iv yF_5, iv yF_9, iv yF_13, iv yF_17, iv yF_21, iv yF_25, iv nv27, iv pr28, rv o29, rv o32, rv o46, iv i0, iv y174, iv y179, iv y184, iv y189, iv y194, iv y194, un, un, un, un, un, un, un, un, un, un, un, un]) at_262 rfl ?_
        refine s_iload 266 C X at_264 rfl ?_
        suffices J200 : ∀ (y199 : Int32) (D200 : ((¬ ((y189).toInt = (0 : Int))) ∧ y199 = i1) ∨ (((y189).toInt = (0 : Int)) ∧ ((y194).toInt = (0 : Int)) ∧ y199 = i0) ∨ (((y189).toInt = (0 : Int)) ∧ (¬ ((y194).toInt = (0 : Int))) ∧ y199 = i1)), Run p e below n0 Q' G' m T 279 #[iv x0, iv x1, iv x2, iv x3, iv yF, iv yF_5, iv yF_9, iv yF_13, iv yF_17, iv yF_21, iv yF_25, iv nv27, iv pr28, rv o29, rv o32, rv o46, iv i0, iv y174, iv y179, iv y184, iv y189, iv y194, iv y194, un, un, un, un, un, un, un, un, un, un, un, un] [(.int y199)] by
          refine s_if_ne 274 269 C X at_266 (fun c266_196 => ?_) (fun c266_196 => ?_)
          · have t_c266_196 := ine c266_196
            refine s_iconst 275 C X at_274 kc_iconst_1 ?_
            refine s_goto 279 C X at_275 ?_
            exact J200 (i1) ((Or.inl ⟨t_c266_196, rfl⟩))
          have t_c266_196 := ieq c266_196
          refine s_iload 271 C X at_269 rfl ?_
          refine s_if_eq 278 274 C X at_271 (fun c271_197 => ?_) (fun c271_197 => ?_)
          · have t_c271_197 := ieq c271_197
            refine s_iconst 279 C X at_278 kc_iconst_0 ?_
            exact J200 (i0) (Or.inr (Or.inl ⟨t_c266_196, t_c271_197, rfl⟩))
          have t_c271_197 := ine c271_197
          refine s_iconst 275 C X at_274 kc_iconst_1 ?_
          refine s_goto 279 C X at_275 ?_
          exact J200 (i1) (Or.inr (Or.inr ⟨t_c266_196, t_c271_197, rfl⟩))
        intro y199 D200
        refine s_istore 281 C X (l' := #[iv x0, iv x1, iv x2, iv x3, iv yF, iv yF_5, iv yF_9, iv yF_13, iv yF_17, iv yF_21, iv yF_25, iv nv27, iv pr28, rv o29, rv o32, rv o46, iv i0, iv y174, iv y179, iv y184, iv y189, iv y194, iv y194, iv y199, un, un, un, un, un, un, un, un, un, un, un]) at_279 rfl ?_
        refine s_iload 283 C X at_281 rfl ?_
        suffices J205 : ∀ (y204 : Int32) (D205 : ((¬ ((y184).toInt = (0 : Int))) ∧ y204 = i1) ∨ (((y184).toInt = (0 : Int)) ∧ ((y199).toInt = (0 : Int)) ∧ y204 = i0) ∨ (((y184).toInt = (0 : Int)) ∧ (¬ ((y199).toInt = (0 : Int))) ∧ y204 = i1)), Run p e below n0 Q' G' m T 296 #[iv x0, iv x1, iv x2, iv x3, iv yF, iv yF_5, iv yF_9, iv yF_13, iv yF_17, iv yF_21, iv yF_25, iv nv27, iv pr28, rv o29, rv o32, rv o46, iv i0, iv y174, iv y179, iv y184, iv y189, iv y194, iv y194, iv y199, un, un, un, un, un, un, un, un, un, un, un] [(.int y204)] by
          refine s_if_ne 291 286 C X at_283 (fun c283_201 => ?_) (fun c283_201 => ?_)
          · have t_c283_201 := ine c283_201
            refine s_iconst 292 C X at_291 kc_iconst_1 ?_
            refine s_goto 296 C X at_292 ?_
            exact J205 (i1) ((Or.inl ⟨t_c283_201, rfl⟩))
          have t_c283_201 := ieq c283_201
          refine s_iload 288 C X at_286 rfl ?_
          refine s_if_eq 295 291 C X at_288 (fun c288_202 => ?_) (fun c288_202 => ?_)
          · have t_c288_202 := ieq c288_202
            refine s_iconst 296 C X at_295 kc_iconst_0 ?_
            exact J205 (i0) (Or.inr (Or.inl ⟨t_c283_201, t_c288_202, rfl⟩))
          have t_c288_202 := ine c288_202
          refine s_iconst 292 C X at_291 kc_iconst_1 ?_
          refine s_goto 296 C X at_292 ?_
          exact J205 (i1) (Or.inr (Or.inr ⟨t_c283_201, t_c288_202, rfl⟩))
        intro y204 D205
        refine s_istore 298 C X (l' := #[iv x0, iv x1, iv x2, iv x3, iv yF, iv yF_5, iv yF_9, iv yF_13, iv yF_17, iv yF_21, iv yF_25, iv nv27, iv pr28, rv o29, rv o32, rv o46, iv i0, iv y174, iv y179, iv y184, iv y189, iv y194, iv y194, iv y199, iv y204, un, un, un, un, un, un, un, un, un, un]) at_296 rfl ?_
        refine s_iload 300 C X at_298 rfl ?_
        suffices J210 : ∀ (y209 : Int32) (D210 : ((¬ ((y179).toInt = (0 : Int))) ∧ y209 = i1) ∨ (((y179).toInt = (0 : Int)) ∧ ((y204).toInt = (0 : Int)) ∧ y209 = i0) ∨ (((y179).toInt = (0 : Int)) ∧ (¬ ((y204).toInt = (0 : Int))) ∧ y209 = i1)), Run p e below n0 Q' G' m T 313 #[iv x0, iv x1, iv x2, iv x3, iv yF, iv yF_5, iv yF_9, iv yF_13, iv yF_17, iv yF_21, iv yF_25, iv nv27, iv pr28, rv o29, rv o32, rv o46, iv i0, iv y174, iv y179, iv y184, iv y189, iv y194, iv y194, iv y199, iv y204, un, un, un, un, un, un, un, un, un, un] [(.int y209)] by
          refine s_if_ne 308 303 C X at_300 (fun c300_206 => ?_) (fun c300_206 => ?_)
          · have t_c300_206 := ine c300_206
            refine s_iconst 309 C X at_308 kc_iconst_1 ?_
            refine s_goto 313 C X at_309 ?_
            exact J210 (i1) ((Or.inl ⟨t_c300_206, rfl⟩))
          have t_c300_206 := ieq c300_206
          refine s_iload 305 C X at_303 rfl ?_
          refine s_if_eq 312 308 C X at_305 (fun c305_207 => ?_) (fun c305_207 => ?_)
          · have t_c305_207 := ieq c305_207
            refine s_iconst 313 C X at_312 kc_iconst_0 ?_
            exact J210 (i0) (Or.inr (Or.inl ⟨t_c300_206, t_c305_207, rfl⟩))
          have t_c305_207 := ine c305_207
          refine s_iconst 309 C X at_308 kc_iconst_1 ?_
          refine s_goto 313 C X at_309 ?_
          exact J210 (i1) (Or.inr (Or.inr ⟨t_c300_206, t_c305_207, rfl⟩))
        intro y209 D210
        refine s_istore 315 C X (l' := #[iv x0, iv x1, iv x2, iv x3, iv yF, iv yF_5, iv yF_9, iv yF_13, iv yF_17, iv yF_21, iv yF_25, iv nv27, iv pr28, rv o29, rv o32, rv o46, iv i0, iv y174, iv y179, iv y184, iv y189, iv y194, iv y194, iv y199, iv y204, iv y209, un, un, un, un, un, un, un, un, un]) at_313 rfl ?_
        refine s_iload 317 C X at_315 rfl ?_
        refine s_istore 319 C X (l' := #[iv x0, iv x1, iv x2, iv x3, iv yF, iv yF_5, iv yF_9, iv yF_13, iv yF_17, iv yF_21, iv yF_25, iv nv27, iv pr28, rv o29, rv o32, rv o46, iv i0, iv y174, iv y179, iv y184, iv y189, iv y194, iv y194, iv y199, iv y204, iv y209, iv y174, un, un, un, un, un, un, un, un]) at_317 rfl ?_
        refine s_iconst 320 C X at_319 kc_iconst_1 ?_
        refine s_iload 322 C X at_320 rfl ?_
        suffices J217 : ∀ (y216 : Int32) (D217 : ((¬ ((1 : Int) < (nv27).toInt)) ∧ y216 = i0) ∨ (((1 : Int) < (nv27).toInt) ∧ (¬ ((yF_5).toInt = (32 : Int))) ∧ y216 = i1) ∨ (((1 : Int) < (nv27).toInt) ∧ ((yF_5).toInt = (32 : Int)) ∧ ((y174).toInt = (0 : Int)) ∧ y216 = i0) ∨ (((1 : Int) < (nv27).toInt) ∧ ((yF_5).toInt = (32 : Int)) ∧ (¬ ((y174).toInt = (0 : Int))) ∧ ((y204).toInt = (0 : Int)) ∧ y216 = i0) ∨ (((1 : Int) < (nv27).toInt) ∧ ((yF_5).toInt = (32 : Int)) ∧ (¬ ((y174).toInt = (0 : Int))) ∧ (¬ ((y204).toInt = (0 : Int))) ∧ y216 = i1)), Run p e below n0 Q' G' m T 347 #[iv x0, iv x1, iv x2, iv x3, iv yF, iv yF_5, iv yF_9, iv yF_13, iv yF_17, iv yF_21, iv yF_25, iv nv27, iv pr28, rv o29, rv o32, rv o46, iv i0, iv y174, iv y179, iv y184, iv y189, iv y194, iv y194, iv y199, iv y204, iv y209, iv y174, un, un, un, un, un, un, un, un] [(.int y216)] by
          refine s_icmp_ge 346 325 C X at_322 (fun c322_211 => ?_) (fun c322_211 => ?_)
          · have t_c322_211 := inl c322_211
            refine s_iconst 347 C X at_346 kc_iconst_0 ?_
            exact J217 (i0) ((Or.inl ⟨t_c322_211, rfl⟩))
          have t_c322_211 := ilt c322_211
          refine s_iload 327 C X at_325 rfl ?_
          refine s_bipush 329 C X at_327 kc_bipush_32 ?_
          refine s_icmp_ne 342 332 C X at_329 (fun c329_212 => ?_) (fun c329_212 => ?_)
          · have t_c329_212 := ine c329_212
            refine s_iconst 343 C X at_342 kc_iconst_1 ?_
            refine s_goto 347 C X at_343 ?_
            exact J217 (i1) (Or.inr (Or.inl ⟨t_c322_211, t_c329_212, rfl⟩))
          have t_c329_212 := ieq c329_212
          refine s_iload 334 C X at_332 rfl ?_
          refine s_if_eq 346 337 C X at_334 (fun c334_213 => ?_) (fun c334_213 => ?_)
          · have t_c334_213 := ieq c334_213
            refine s_iconst 347 C X at_346 kc_iconst_0 ?_
            exact J217 (i0) (Or.inr (Or.inr (Or.inl ⟨t_c322_211, t_c329_212, t_c334_213, rfl⟩)))
          have t_c334_213 := ine c334_213
          refine s_iload 339 C X at_337 rfl ?_
          refine s_if_eq 346 342 C X at_339 (fun c339_214 => ?_) (fun c339_214 => ?_)
          · have t_c339_214 := ieq c339_214
            refine s_iconst 347 C X at_346 kc_iconst_0 ?_
            exact J217 (i0) (Or.inr (Or.inr (Or.inr (Or.inl ⟨t_c322_211, t_c329_212, t_c334_213, t_c339_214, rfl⟩))))
          have t_c339_214 := ine c339_214
          refine s_iconst 343 C X at_342 kc_iconst_1 ?_
          refine s_goto 347 C X at_343 ?_
          exact J217 (i1) (Or.inr (Or.inr (Or.inr (Or.inr ⟨t_c322_211, t_c329_212, t_c334_213, t_c339_214, rfl⟩))))
        intro y216 D217
        refine s_istore 349 C X (l' := #[iv x0, iv x1, iv x2, iv x3, iv yF, iv yF_5, iv yF_9, iv yF_13, iv yF_17, iv yF_21, iv yF_25, iv nv27, iv pr28, rv o29, rv o32, rv o46, iv i0, iv y174, iv y179, iv y184, iv y189, iv y194, iv y194, iv y199, iv y204, iv y209, iv y174, iv y216, un, un, un, un, un, un, un]) at_347 rfl ?_
        refine s_iconst 350 C X at_349 kc_iconst_2 ?_
        refine s_iload 352 C X at_350 rfl ?_
        suffices J224 : ∀ (y223 : Int32) (D224 : ((¬ ((2 : Int) < (nv27).toInt)) ∧ y223 = i0) ∨ (((2 : Int) < (nv27).toInt) ∧ (¬ ((yF_9).toInt = (32 : Int))) ∧ y223 = i1) ∨ (((2 : Int) < (nv27).toInt) ∧ ((yF_9).toInt = (32 : Int)) ∧ ((y179).toInt = (0 : Int)) ∧ y223 = i0) ∨ (((2 : Int) < (nv27).toInt) ∧ ((yF_9).toInt = (32 : Int)) ∧ (¬ ((y179).toInt = (0 : Int))) ∧ ((y199).toInt = (0 : Int)) ∧ y223 = i0) ∨ (((2 : Int) < (nv27).toInt) ∧ ((yF_9).toInt = (32 : Int)) ∧ (¬ ((y179).toInt = (0 : Int))) ∧ (¬ ((y199).toInt = (0 : Int))) ∧ y223 = i1)), Run p e below n0 Q' G' m T 377 #[iv x0, iv x1, iv x2, iv x3, iv yF, iv yF_5, iv yF_9, iv yF_13, iv yF_17, iv yF_21, iv yF_25, iv nv27, iv pr28, rv o29, rv o32, rv o46, iv i0, iv y174, iv y179, iv y184, iv y189, iv y194, iv y194, iv y199, iv y204, iv y209, iv y174, iv y216, un, un, un, un, un, un, un] [(.int y223)] by
          refine s_icmp_ge 376 355 C X at_352 (fun c352_218 => ?_) (fun c352_218 => ?_)
          · have t_c352_218 := inl c352_218
            refine s_iconst 377 C X at_376 kc_iconst_0 ?_
            exact J224 (i0) ((Or.inl ⟨t_c352_218, rfl⟩))
          have t_c352_218 := ilt c352_218
          refine s_iload 357 C X at_355 rfl ?_
          refine s_bipush 359 C X at_357 kc_bipush_32 ?_
          refine s_icmp_ne 372 362 C X at_359 (fun c359_219 => ?_) (fun c359_219 => ?_)
          · have t_c359_219 := ine c359_219
            refine s_iconst 373 C X at_372 kc_iconst_1 ?_
            refine s_goto 377 C X at_373 ?_
            exact J224 (i1) (Or.inr (Or.inl ⟨t_c352_218, t_c359_219, rfl⟩))
          have t_c359_219 := ieq c359_219
          refine s_iload 364 C X at_362 rfl ?_
          refine s_if_eq 376 367 C X at_364 (fun c364_220 => ?_) (fun c364_220 => ?_)
          · have t_c364_220 := ieq c364_220
            refine s_iconst 377 C X at_376 kc_iconst_0 ?_
            exact J224 (i0) (Or.inr (Or.inr (Or.inl ⟨t_c352_218, t_c359_219, t_c364_220, rfl⟩)))
          have t_c364_220 := ine c364_220
          refine s_iload 369 C X at_367 rfl ?_
          refine s_if_eq 376 372 C X at_369 (fun c369_221 => ?_) (fun c369_221 => ?_)
          · have t_c369_221 := ieq c369_221
            refine s_iconst 377 C X at_376 kc_iconst_0 ?_
            exact J224 (i0) (Or.inr (Or.inr (Or.inr (Or.inl ⟨t_c352_218, t_c359_219, t_c364_220, t_c369_221, rfl⟩))))
          have t_c369_221 := ine c369_221
          refine s_iconst 373 C X at_372 kc_iconst_1 ?_
          refine s_goto 377 C X at_373 ?_
          exact J224 (i1) (Or.inr (Or.inr (Or.inr (Or.inr ⟨t_c352_218, t_c359_219, t_c364_220, t_c369_221, rfl⟩))))
        intro y223 D224
        refine s_istore 379 C X (l' := #[iv x0, iv x1, iv x2, iv x3, iv yF, iv yF_5, iv yF_9, iv yF_13, iv yF_17, iv yF_21, iv yF_25, iv nv27, iv pr28, rv o29, rv o32, rv o46, iv i0, iv y174, iv y179, iv y184, iv y189, iv y194, iv y194, iv y199, iv y204, iv y209, iv y174, iv y216, iv y223, un, un, un, un, un, un]) at_377 rfl ?_
        refine s_iconst 380 C X at_379 kc_iconst_3 ?_
        refine s_iload 382 C X at_380 rfl ?_
        suffices J231 : ∀ (y230 : Int32) (D231 : ((¬ ((3 : Int) < (nv27).toInt)) ∧ y230 = i0) ∨ (((3 : Int) < (nv27).toInt) ∧ (¬ ((yF_13).toInt = (32 : Int))) ∧ y230 = i1) ∨ (((3 : Int) < (nv27).toInt) ∧ ((yF_13).toInt = (32 : Int)) ∧ ((y184).toInt = (0 : Int)) ∧ y230 = i0) ∨ (((3 : Int) < (nv27).toInt) ∧ ((yF_13).toInt = (32 : Int)) ∧ (¬ ((y184).toInt = (0 : Int))) ∧ ((y194).toInt = (0 : Int)) ∧ y230 = i0) ∨ (((3 : Int) < (nv27).toInt) ∧ ((yF_13).toInt = (32 : Int)) ∧ (¬ ((y184).toInt = (0 : Int))) ∧ (¬ ((y194).toInt = (0 : Int))) ∧ y230 = i1)), Run p e below n0 Q' G' m T 407 #[iv x0, iv x1, iv x2, iv x3, iv yF, iv yF_5, iv yF_9, iv yF_13, iv yF_17, iv yF_21, iv yF_25, iv nv27, iv pr28, rv o29, rv o32, rv o46, iv i0, iv y174, iv y179, iv y184, iv y189, iv y194, iv y194, iv y199, iv y204, iv y209, iv y174, iv y216, iv y223, un, un, un, un, un, un] [(.int y230)] by
          refine s_icmp_ge 406 385 C X at_382 (fun c382_225 => ?_) (fun c382_225 => ?_)
          · have t_c382_225 := inl c382_225
            refine s_iconst 407 C X at_406 kc_iconst_0 ?_
            exact J231 (i0) ((Or.inl ⟨t_c382_225, rfl⟩))
          have t_c382_225 := ilt c382_225
          refine s_iload 387 C X at_385 rfl ?_
          refine s_bipush 389 C X at_387 kc_bipush_32 ?_
          refine s_icmp_ne 402 392 C X at_389 (fun c389_226 => ?_) (fun c389_226 => ?_)
          · have t_c389_226 := ine c389_226
            refine s_iconst 403 C X at_402 kc_iconst_1 ?_
            refine s_goto 407 C X at_403 ?_
            exact J231 (i1) (Or.inr (Or.inl ⟨t_c382_225, t_c389_226, rfl⟩))
          have t_c389_226 := ieq c389_226
          refine s_iload 394 C X at_392 rfl ?_
          refine s_if_eq 406 397 C X at_394 (fun c394_227 => ?_) (fun c394_227 => ?_)
          · have t_c394_227 := ieq c394_227
            refine s_iconst 407 C X at_406 kc_iconst_0 ?_
            exact J231 (i0) (Or.inr (Or.inr (Or.inl ⟨t_c382_225, t_c389_226, t_c394_227, rfl⟩)))
          have t_c394_227 := ine c394_227
          refine s_iload 399 C X at_397 rfl ?_
          refine s_if_eq 406 402 C X at_399 (fun c399_228 => ?_) (fun c399_228 => ?_)
          · have t_c399_228 := ieq c399_228
            refine s_iconst 407 C X at_406 kc_iconst_0 ?_
            exact J231 (i0) (Or.inr (Or.inr (Or.inr (Or.inl ⟨t_c382_225, t_c389_226, t_c394_227, t_c399_228, rfl⟩))))
          have t_c399_228 := ine c399_228
          refine s_iconst 403 C X at_402 kc_iconst_1 ?_
          refine s_goto 407 C X at_403 ?_
          exact J231 (i1) (Or.inr (Or.inr (Or.inr (Or.inr ⟨t_c382_225, t_c389_226, t_c394_227, t_c399_228, rfl⟩))))
        intro y230 D231
        refine s_istore 409 C X (l' := #[iv x0, iv x1, iv x2, iv x3, iv yF, iv yF_5, iv yF_9, iv yF_13, iv yF_17, iv yF_21, iv yF_25, iv nv27, iv pr28, rv o29, rv o32, rv o46, iv i0, iv y174, iv y179, iv y184, iv y189, iv y194, iv y194, iv y199, iv y204, iv y209, iv y174, iv y216, iv y223, iv y230, un, un, un, un, un]) at_407 rfl ?_
        refine s_iconst 410 C X at_409 kc_iconst_4 ?_
        refine s_iload 412 C X at_410 rfl ?_
        suffices J236 : ∀ (y235 : Int32) (D236 : ((¬ ((4 : Int) < (nv27).toInt)) ∧ y235 = i0) ∨ (((4 : Int) < (nv27).toInt) ∧ ((yF_17).toInt = (32 : Int)) ∧ y235 = i0) ∨ (((4 : Int) < (nv27).toInt) ∧ (¬ ((yF_17).toInt = (32 : Int))) ∧ y235 = i1)), Run p e below n0 Q' G' m T 427 #[iv x0, iv x1, iv x2, iv x3, iv yF, iv yF_5, iv yF_9, iv yF_13, iv yF_17, iv yF_21, iv yF_25, iv nv27, iv pr28, rv o29, rv o32, rv o46, iv i0, iv y174, iv y179, iv y184, iv y189, iv y194, iv y194, iv y199, iv y204, iv y209, iv y174, iv y216, iv y223, iv y230, un, un, un, un, un] [(.int y235)] by
          refine s_icmp_ge 426 415 C X at_412 (fun c412_232 => ?_) (fun c412_232 => ?_)
          · have t_c412_232 := inl c412_232
            refine s_iconst 427 C X at_426 kc_iconst_0 ?_
            exact J236 (i0) ((Or.inl ⟨t_c412_232, rfl⟩))
          have t_c412_232 := ilt c412_232
          refine s_iload 417 C X at_415 rfl ?_
          refine s_bipush 419 C X at_417 kc_bipush_32 ?_
          refine s_icmp_eq 426 422 C X at_419 (fun c419_233 => ?_) (fun c419_233 => ?_)
          · have t_c419_233 := ieq c419_233
            refine s_iconst 427 C X at_426 kc_iconst_0 ?_
            exact J236 (i0) (Or.inr (Or.inl ⟨t_c412_232, t_c419_233, rfl⟩))
          have t_c419_233 := ine c419_233
          refine s_iconst 423 C X at_422 kc_iconst_1 ?_
          refine s_goto 427 C X at_423 ?_
          exact J236 (i1) (Or.inr (Or.inr ⟨t_c412_232, t_c419_233, rfl⟩))
        intro y235 D236
        refine s_istore 429 C X (l' := #[iv x0, iv x1, iv x2, iv x3, iv yF, iv yF_5, iv yF_9, iv yF_13, iv yF_17, iv yF_21, iv yF_25, iv nv27, iv pr28, rv o29, rv o32, rv o46, iv i0, iv y174, iv y179, iv y184, iv y189, iv y194, iv y194, iv y199, iv y204, iv y209, iv y174, iv y216, iv y223, iv y230, iv y235, un, un, un, un]) at_427 rfl ?_
        refine s_iconst 430 C X at_429 kc_iconst_5 ?_
        refine s_newarray 432 5 C X at_430 (mW 4 rfl) (by decide) (by decide) (fun T hh o237 k_o237 hb_o237 X E A_o237 g_o237 => ?_)
        have H_o237 : Safe Z EL1 vm _ o237 := Safe.ext E Rc.1.1 (Safe.new (Nat.le_of_eq hb_o237))
        have Rc := Rc.ext E
        have sz_o237 : h0.size ≤ o237 := Nat.le_trans Kp.1 (Nat.le_of_eq hb_o237)
        have ne_o52_o237 : o52 ≠ o237 := Nat.ne_of_lt (Nat.lt_of_lt_of_le A_o52.lt (Nat.le_of_eq hb_o237))
        have ne_o46_o237 : o46 ≠ o237 := Nat.ne_of_lt (Nat.lt_of_lt_of_le E_o46.lt (Nat.le_of_eq hb_o237))
        have ne_o51_o237 : o51 ≠ o237 := Nat.ne_of_lt (Nat.lt_of_lt_of_le A_o51.lt (Nat.le_of_eq hb_o237))
        have ne_o53_o237 : o53 ≠ o237 := Nat.ne_of_lt (Nat.lt_of_lt_of_le A_o53.lt (Nat.le_of_eq hb_o237))
        have Od := Od.ext E
        have Kp := Kp.ext E
        have A_o52 := A_o52.ext E
        have E_o46 := E_o46.ext E
        have F_o46_s := F_o46_s.ext E
        have F_o46_g := F_o46_g.ext E
        have F_o46_v := F_o46_v.ext E
        have F_o46_n := F_o46_n.ext E
        have A_o51 := A_o51.ext E
        have A_o53 := A_o53.ext E
        have A_o237 : Arv Z _ o237 k_o237 .char i5 [(.int i0), (.int i0), (.int i0), (.int i0), (.int i0)] (.int i0) := A_o237.pad (pad_rep [] _ 5)
        refine s_astore 434 C X (l' := #[iv x0, iv x1, iv x2, iv x3, iv yF, iv yF_5, iv yF_9, iv yF_13, iv yF_17, iv yF_21, iv yF_25, iv nv27, iv pr28, rv o29, rv o32, rv o46, iv i0, iv y174, iv y179, iv y184, iv y189, iv y194, iv y194, iv y199, iv y204, iv y209, iv y174, iv y216, iv y223, iv y230, iv y235, rv o237, un, un, un]) at_432 rfl rfl ?_
        refine s_iconst 435 C X at_434 kc_iconst_0 ?_
        refine s_istore 437 C X (l' := #[iv x0, iv x1, iv x2, iv x3, iv yF, iv yF_5, iv yF_9, iv yF_13, iv yF_17, iv yF_21, iv yF_25, iv nv27, iv pr28, rv o29, rv o32, rv o46, iv i0, iv y174, iv y179, iv y184, iv y189, iv y194, iv y194, iv y199, iv y204, iv y209, iv y174, iv y216, iv y223, iv y230, iv y235, rv o237, iv i0, un, un]) at_435 rfl ?_
        obtain ⟨es0, e_es0⟩ : ∃ z : List Int32, z = [0, 0, 0, 0, 0] := ⟨_, rfl⟩
        have A_o237 : Arv Z hh o237 k_o237 .char i5 (Y es0) (.int i0) := by rw [e_es0]; exact A_o237
        refine s_aload 439 C X at_437 rfl rfl ?_
        refine s_iload 441 C X at_439 rfl ?_
        refine s_iload 443 C X at_441 rfl ?_
        refine s_iload 445 C X at_443 rfl ?_
        obtain ⟨m0, e_m0⟩ : ∃ z : Int32, z = i0 := ⟨_, rfl⟩
        refine rc (st' := [(.int yF), (.int y174), (.int m0), (.ref o237)]) (by rw [e_m0]) ?_
        have hvq : own_Q 4 es0 m0 := by rw [e_es0, e_m0]; exact ⟨rfl, by decide, by decide⟩
        have hq0 : own_Q 0 es0 m0 := by rw [e_es0, e_m0]; exact ⟨rfl, by decide, by decide⟩
        have Sw_o237 : Safe Z EL1 vm _ o237 := H_o237
        refine s_callS 448 [(.ref o237), (.int m0), (.int y174), (.int yF)] [] 0 C X at_445 (mW 65 rfl) (mW 66 rfl) (mW 2 rfl) (mW 67 rfl) (rm_a11 l Z a0 hw yF y174 o237 es0 m0 k_o237 _ n0 X.sz A_o237 hvB g_o237 hvq) (lenOf pd___CIZC_I rfl) rfl rfl rfl (fun T v hh X q => ?_)
        obtain ⟨esF, mF, rfl, hvP, A_o237, Kc⟩ := q
        have Hs : ∀ x ∈ [o237], Safe Z EL1 vm _ x := (soS Sw_o237 so0)
        have H_o237 := Safe.keep Kc Hs Rc.1.1 H_o237
        have Rc := Rc.keep Kc Hs
        have Od := Od.keep Kc (allS g_o237 all0)
        have Kp := Kp.trans Kc (allS (Or.inr sz_o237) all0)
        have A_o52 := A_o52.keep Kc (ninS ne_o52_o237 nin0)
        have E_o46 := E_o46.keep Kc
        have F_o46_s := F_o46_s.keep Kc (ninS ne_o46_o237 nin0)
        have F_o46_g := F_o46_g.keep Kc (ninS ne_o46_o237 nin0)
        have F_o46_v := F_o46_v.keep Kc (ninS ne_o46_o237 nin0)
        have F_o46_n := F_o46_n.keep Kc (ninS ne_o46_o237 nin0)
        have A_o51 := A_o51.keep Kc (ninS ne_o51_o237 nin0)
        have A_o53 := A_o53.keep Kc (ninS ne_o53_o237 nin0)
        refine rc (st' := [(.int mF)]) rfl ?_
        have hq1 : own_Q 1 esF mF := own_q2 hq0 (by decide) hvP
        refine s_istore 450 C X (l' := #[iv x0, iv x1, iv x2, iv x3, iv yF, iv yF_5, iv yF_9, iv yF_13, iv yF_17, iv yF_21, iv yF_25, iv nv27, iv pr28, rv o29, rv o32, rv o46, iv i0, iv y174, iv y179, iv y184, iv y189, iv y194, iv y194, iv y199, iv y204, iv y209, iv y174, iv y216, iv y223, iv y230, iv y235, rv o237, iv mF, un, un]) at_448 rfl ?_
        refine s_aload 452 C X at_450 rfl rfl ?_
        refine s_iload 454 C X at_452 rfl ?_
        refine s_iload 456 C X at_454 rfl ?_
        refine s_iload 458 C X at_456 rfl ?_
        have hvq : own_Q 4 esF mF := own_q4 hq1 (by decide)
        have Sw_o237 : Safe Z EL1 vm _ o237 := H_o237
        refine s_callS 461 [(.ref o237), (.int mF), (.int y216), (.int yF_5)] [] 0 C X at_458 (mW 65 rfl) (mW 66 rfl) (mW 2 rfl) (mW 67 rfl) (rm_a11 l Z a0 hw yF_5 y216 o237 esF mF k_o237 _ n0 X.sz A_o237 hvB_6 g_o237 hvq) (lenOf pd___CIZC_I rfl) rfl rfl rfl (fun T v hh X q => ?_)
        obtain ⟨esF_253, mF_254, rfl, hvP_257, A_o237, Kc⟩ := q
        have Hs : ∀ x ∈ [o237], Safe Z EL1 vm _ x := (soS Sw_o237 so0)
        have H_o237 := Safe.keep Kc Hs Rc.1.1 H_o237
        have Rc := Rc.keep Kc Hs
        have Od := Od.keep Kc (allS g_o237 all0)
        have Kp := Kp.trans Kc (allS (Or.inr sz_o237) all0)
        have A_o52 := A_o52.keep Kc (ninS ne_o52_o237 nin0)
        have E_o46 := E_o46.keep Kc
        have F_o46_s := F_o46_s.keep Kc (ninS ne_o46_o237 nin0)
        have F_o46_g := F_o46_g.keep Kc (ninS ne_o46_o237 nin0)
        have F_o46_v := F_o46_v.keep Kc (ninS ne_o46_o237 nin0)
        have F_o46_n := F_o46_n.keep Kc (ninS ne_o46_o237 nin0)
        have A_o51 := A_o51.keep Kc (ninS ne_o51_o237 nin0)
        have A_o53 := A_o53.keep Kc (ninS ne_o53_o237 nin0)
        refine rc (st' := [(.int mF_254)]) rfl ?_
        have hq2 : own_Q 2 esF_253 mF_254 := own_q2 hq1 (by decide) hvP_257
        refine s_istore 463 C X (l' := #[iv x0, iv x1, iv x2, iv x3, iv yF, iv yF_5, iv yF_9, iv yF_13, iv yF_17, iv yF_21, iv yF_25, iv nv27, iv pr28, rv o29, rv o32, rv o46, iv i0, iv y174, iv y179, iv y184, iv y189, iv y194, iv y194, iv y199, iv y204, iv y209, iv y174, iv y216, iv y223, iv y230, iv y235, rv o237, iv mF_254, un, un]) at_461 rfl ?_
        refine s_aload 465 C X at_463 rfl rfl ?_
        refine s_iload 467 C X at_465 rfl ?_
        refine s_iload 469 C X at_467 rfl ?_
        refine s_iload 471 C X at_469 rfl ?_
        have hvq : own_Q 4 esF_253 mF_254 := own_q4 hq2 (by decide)
        have Sw_o237 : Safe Z EL1 vm _ o237 := H_o237
        refine s_callS 474 [(.ref o237), (.int mF_254), (.int y223), (.int yF_9)] [] 0 C X at_471 (mW 65 rfl) (mW 66 rfl) (mW 2 rfl) (mW 67 rfl) (rm_a11 l Z a0 hw yF_9 y223 o237 esF_253 mF_254 k_o237 _ n0 X.sz A_o237 hvB_10 g_o237 hvq) (lenOf pd___CIZC_I rfl) rfl rfl rfl (fun T v hh X q => ?_)
        obtain ⟨esF_260, mF_261, rfl, hvP_262, A_o237, Kc⟩ := q
        have Hs : ∀ x ∈ [o237], Safe Z EL1 vm _ x := (soS Sw_o237 so0)
        have H_o237 := Safe.keep Kc Hs Rc.1.1 H_o237
        have Rc := Rc.keep Kc Hs
        have Od := Od.keep Kc (allS g_o237 all0)
        have Kp := Kp.trans Kc (allS (Or.inr sz_o237) all0)
        have A_o52 := A_o52.keep Kc (ninS ne_o52_o237 nin0)
        have E_o46 := E_o46.keep Kc
        have F_o46_s := F_o46_s.keep Kc (ninS ne_o46_o237 nin0)
        have F_o46_g := F_o46_g.keep Kc (ninS ne_o46_o237 nin0)
        have F_o46_v := F_o46_v.keep Kc (ninS ne_o46_o237 nin0)
        have F_o46_n := F_o46_n.keep Kc (ninS ne_o46_o237 nin0)
        have A_o51 := A_o51.keep Kc (ninS ne_o51_o237 nin0)
        have A_o53 := A_o53.keep Kc (ninS ne_o53_o237 nin0)
        refine rc (st' := [(.int mF_261)]) rfl ?_
        have hq3 : own_Q 3 esF_260 mF_261 := own_q2 hq2 (by decide) hvP_262
        refine s_istore 476 C X (l' := #[iv x0, iv x1, iv x2, iv x3, iv yF, iv yF_5, iv yF_9, iv yF_13, iv yF_17, iv yF_21, iv yF_25, iv nv27, iv pr28, rv o29, rv o32, rv o46, iv i0, iv y174, iv y179, iv y184, iv y189, iv y194, iv y194, iv y199, iv y204, iv y209, iv y174, iv y216, iv y223, iv y230, iv y235, rv o237, iv mF_261, un, un]) at_474 rfl ?_
        refine s_aload 478 C X at_476 rfl rfl ?_
        refine s_iload 480 C X at_478 rfl ?_
        refine s_iload 482 C X at_480 rfl ?_
        refine s_iload 484 C X at_482 rfl ?_
        have hvq : own_Q 4 esF_260 mF_261 := own_q4 hq3 (by decide)
        have Sw_o237 : Safe Z EL1 vm _ o237 := H_o237
        refine s_callS 487 [(.ref o237), (.int mF_261), (.int y230), (.int yF_13)] [] 0 C X at_484 (mW 65 rfl) (mW 66 rfl) (mW 2 rfl) (mW 67 rfl) (rm_a11 l Z a0 hw yF_13 y230 o237 esF_260 mF_261 k_o237 _ n0 X.sz A_o237 hvB_14 g_o237 hvq) (lenOf pd___CIZC_I rfl) rfl rfl rfl (fun T v hh X q => ?_)
        obtain ⟨esF_265, mF_266, rfl, hvP_267, A_o237, Kc⟩ := q
        have Hs : ∀ x ∈ [o237], Safe Z EL1 vm _ x := (soS Sw_o237 so0)
        have H_o237 := Safe.keep Kc Hs Rc.1.1 H_o237
        have Rc := Rc.keep Kc Hs
        have Od := Od.keep Kc (allS g_o237 all0)
        have Kp := Kp.trans Kc (allS (Or.inr sz_o237) all0)
        have A_o52 := A_o52.keep Kc (ninS ne_o52_o237 nin0)
        have E_o46 := E_o46.keep Kc
        have F_o46_s := F_o46_s.keep Kc (ninS ne_o46_o237 nin0)
        have F_o46_g := F_o46_g.keep Kc (ninS ne_o46_o237 nin0)
        have F_o46_v := F_o46_v.keep Kc (ninS ne_o46_o237 nin0)
        have F_o46_n := F_o46_n.keep Kc (ninS ne_o46_o237 nin0)
        have A_o51 := A_o51.keep Kc (ninS ne_o51_o237 nin0)
        have A_o53 := A_o53.keep Kc (ninS ne_o53_o237 nin0)
        refine rc (st' := [(.int mF_266)]) rfl ?_
        have hq4 : own_Q 4 esF_265 mF_266 := own_q2 hq3 (by decide) hvP_267
        refine s_istore 489 C X (l' := #[iv x0, iv x1, iv x2, iv x3, iv yF, iv yF_5, iv yF_9, iv yF_13, iv yF_17, iv yF_21, iv yF_25, iv nv27, iv pr28, rv o29, rv o32, rv o46, iv i0, iv y174, iv y179, iv y184, iv y189, iv y194, iv y194, iv y199, iv y204, iv y209, iv y174, iv y216, iv y223, iv y230, iv y235, rv o237, iv mF_266, un, un]) at_487 rfl ?_
        refine s_aload 491 C X at_489 rfl rfl ?_
        refine s_iload 493 C X at_491 rfl ?_
        refine s_iload 495 C X at_493 rfl ?_
        refine s_iload 497 C X at_495 rfl ?_
        have hvq : own_Q 4 esF_265 mF_266 := own_q4 hq4 (by decide)
        have Sw_o237 : Safe Z EL1 vm _ o237 := H_o237
        refine s_callS 500 [(.ref o237), (.int mF_266), (.int y235), (.int yF_17)] [] 0 C X at_497 (mW 65 rfl) (mW 66 rfl) (mW 2 rfl) (mW 67 rfl) (rm_a11 l Z a0 hw yF_17 y235 o237 esF_265 mF_266 k_o237 _ n0 X.sz A_o237 hvB_18 g_o237 hvq) (lenOf pd___CIZC_I rfl) rfl rfl rfl (fun T v hh X q => ?_)
        obtain ⟨esF_270, mF_271, rfl, hvP_272, A_o237, Kc⟩ := q
        have Hs : ∀ x ∈ [o237], Safe Z EL1 vm _ x := (soS Sw_o237 so0)
        have Rc := Rc.keep Kc Hs
        have Od := Od.keep Kc (allS g_o237 all0)
        have Kp := Kp.trans Kc (allS (Or.inr sz_o237) all0)
        have A_o52 := A_o52.keep Kc (ninS ne_o52_o237 nin0)
        have E_o46 := E_o46.keep Kc
        have F_o46_s := F_o46_s.keep Kc (ninS ne_o46_o237 nin0)
        have F_o46_g := F_o46_g.keep Kc (ninS ne_o46_o237 nin0)
        have F_o46_v := F_o46_v.keep Kc (ninS ne_o46_o237 nin0)
        have F_o46_n := F_o46_n.keep Kc (ninS ne_o46_o237 nin0)
        have A_o51 := A_o51.keep Kc (ninS ne_o51_o237 nin0)
        have A_o53 := A_o53.keep Kc (ninS ne_o53_o237 nin0)
        refine rc (st' := [(.int mF_271)]) rfl ?_
        have hq5 : own_Q 5 esF_270 mF_271 := own_q2 hq4 (by decide) hvP_272
        refine s_istore 502 C X (l' := #[iv x0, iv x1, iv x2, iv x3, iv yF, iv yF_5, iv yF_9, iv yF_13, iv yF_17, iv yF_21, iv yF_25, iv nv27, iv pr28, rv o29, rv o32, rv o46, iv i0, iv y174, iv y179, iv y184, iv y189, iv y194, iv y194, iv y199, iv y204, iv y209, iv y174, iv y216, iv y223, iv y230, iv y235, rv o237, iv mF_271, un, un]) at_500 rfl ?_
        refine s_aload 504 C X at_502 rfl rfl ?_
        refine s_iload 506 C X at_504 rfl ?_
        refine s_hcallV 509 [(.int i0)] [] 0 C X hS Rc.2 (own_EL hw) Rc.1.1 at_506 (mW 68 rfl) (mW 69 rfl) (nF C (mW 71 rfl)) (mW 71 rfl) (mW 70 rfl) (mW 7 rfl) (mW 72 rfl) E_o46 (rm_a20 l Z a0 hw cs fm yF yF_5 yF_9 yF_13 yF_17 nv27 o46 k_o51 k_o52 k_o53 o51 o52 o53 tF xsF _ n0 X.sz Od S_cs S_fm A_o52 F_o46_s F_o46_g F_o46_v A_o51 A_o53 hv_cs hv_fm hvB hvB_6 hvB_10 hvB_14 hvB_18 g_o52 ne_o46_o52 ne_o51_o52 ne_o52_o53 O_o52 hvC) (lenOf pd__I_Ljava_lang_String_ rfl) rfl rfl rfl so0 (fun T v hh vm k1 C X hS Nk Rn q => ?_)
        obtain ⟨bF, k_bF, m277, o276, zsF, rfl, hvL, hvZ, A_o52, Kc, E_o276, F_o276_a, F_o276_k, Od, A_bF, ne_o52_o276, sz_o276', g_o276, ne_bF_o52⟩ := q
        have Rc := Rc.call Rn Nk
        have Kp := Kp.trans Kc (allS (Or.inr sz_o52) all0)
        have E_o46 := E_o46.keep Kc
        have F_o46_n := F_o46_n.keep Kc (ninS ne_o46_o52 nin0)
        have A_o237 := A_o237.keep Kc (ninS (Ne.symm ne_o52_o237) nin0)
        refine rc (st' := [(.ref o276)]) rfl ?_
        refine s_astore 511 C X (l' := #[iv x0, iv x1, iv x2, iv x3, iv yF, iv yF_5, iv yF_9, iv yF_13, iv yF_17, iv yF_21, iv yF_25, iv nv27, iv pr28, rv o29, rv o32, rv o46, iv i0, iv y174, iv y179, iv y184, iv y189, iv y194, iv y194, iv y199, iv y204, iv y209, iv y174, iv y216, iv y223, iv y230, iv y235, rv o237, iv mF_271, rv o276, un]) at_509 rfl rfl ?_
        refine s_aload 513 C X at_511 rfl rfl ?_
        refine s_callV 516 [] [] 0 C X at_513 (mW 104 rfl) (mW 105 rfl) (nF C (mW 107 rfl)) (mW 107 rfl) (mW 106 rfl) (mW 7 rfl) (mW 108 rfl) E_o46 (rm_a21 l Z a0 hw o46 _ n0 X.sz F_o46_n) (lenOf pd___I rfl) rfl rfl rfl (fun T v hh X q => ?_)
        obtain ⟨rfl, Kc⟩ := q
        have Rc := Rc.keep Kc so0
        have Kp := Kp.trans Kc all0
        have A_o237 := A_o237.keep Kc nin0
        have E_o276 := E_o276.keep Kc
        have F_o276_a := F_o276_a.keep Kc nin0
        have F_o276_k := F_o276_k.keep Kc nin0
        have Od := Od.keep Kc all0
        have A_bF := A_bF.keep Kc nin0
        refine rc (st' := [(.int i1)]) rfl ?_
        refine s_iload 518 C X at_516 rfl ?_
        refine s_iconst 519 C X at_518 kc_iconst_1 ?_
        refine s_iadd 520 C X at_519 ?_
        refine rc (st' := [(.int i1), (.int i1)]) (by rw [kf_0]) ?_
        refine s_icmp_ne 602 523 C X at_520 (fun c => absurd (by decide : i1 = i1) c) (fun _ => ?_)
        refine s_aload 525 C X at_523 rfl rfl ?_
        refine s_callV 528 [] [] 0 C X at_525 (mW 109 rfl) (mW 110 rfl) (nF C (mW 112 rfl)) (mW 112 rfl) (mW 111 rfl) (mW 32 rfl) (mW 113 rfl) E_o276 (rm_a23 l Z a0 hw cs bF k_bF m277 o276 zsF _ n0 X.sz S_cs E_o276 F_o276_a F_o276_k Od A_bF hv_cs) (lenOf pd___I rfl) rfl rfl rfl (fun T v hh X q => ?_)
        obtain ⟨rfl, Kc, Od⟩ := q
        have Rc := Rc.keep Kc so0
        have Kp := Kp.trans Kc all0
        have A_o237 := A_o237.keep Kc nin0
        have E_o276 := E_o276.keep Kc
        have F_o276_a := F_o276_a.keep Kc nin0
        have F_o276_k := F_o276_k.keep Kc nin0
        have A_bF := A_bF.keep Kc nin0
        refine rc (st' := [(.int m277)]) rfl ?_
        refine s_iload 530 C X at_528 rfl ?_
        have MAIN : m277 = mF_271 ∧ m277.toInt = (col [yF, yF_5, yF_9, yF_13, yF_17] nv27.toNatClampNeg).length ∧ ∀ k, k < (col [yF, yF_5, yF_9, yF_13, yF_17] nv27.toNatClampNeg).length → esF_270.getD k 0 = (col [yF, yF_5, yF_9, yF_13, yF_17] nv27.toNatClampNeg).getD k 0 := own_mn0 D175 D180 D185 D190 D195 D200 D205 D217 D224 D231 D236 hvP hvP_257 hvP_262 hvP_267 hvP_272 hvL hv_nv27 e_es0 e_m0
        have hvmm : m277 = mF_271 := MAIN.1
        refine s_icmp_ne 602 533 C X at_530 (fun c => absurd MAIN.1 c) (fun c530_313 => ?_)
        refine s_aload 535 C X at_533 rfl rfl ?_
        refine s_aload 537 C X at_535 rfl rfl ?_
        refine s_iload 539 C X at_537 rfl ?_
        refine s_iconst 540 C X at_539 kc_iconst_0 ?_
        obtain ⟨ix321, e_ix321⟩ : ∃ zz_ : Int32, zz_ = i0 := ⟨_, rfl⟩
        refine rc (st' := [(.int ix321), (.int mF_271), (.ref o237), (.ref o276)]) (by subst e_ix321; rfl) ?_
        have hvx_ix321 : own_X5 ix321 := by rw [e_ix321]; exact ⟨by decide, by decide⟩
        refine s_callS 543 [(.ref o276), (.ref o237), (.int mF_271), (.int ix321)] [] 0 C X at_540 (mW 119 rfl) (mW 120 rfl) (mW 2 rfl) (mW 121 rfl) (rm_a29 l Z a0 hw cs fm o237 k_o237 esF_270 mF_271 bF k_bF m277 o276 zsF ix321 _ n0 X.sz S_cs S_fm A_o237 E_o276 F_o276_a F_o276_k A_bF Od hv_cs hv_fm hvmm hvx_ix321) (lenOf pd__Ljava_lang_String__CII_Z rfl) rfl rfl rfl (fun T v hh X q => ?_)
        obtain ⟨y336, rfl, D337, Od, Kc⟩ := q
        have Rc := Rc.keep Kc so0
        have Kp := Kp.trans Kc all0
        have A_o237 := A_o237.keep Kc nin0
        have E_o276 := E_o276.keep Kc
        have F_o276_a := F_o276_a.keep Kc nin0
        have F_o276_k := F_o276_k.keep Kc nin0
        have A_bF := A_bF.keep Kc nin0
        refine rc (st' := [(.int y336)]) rfl ?_
        have a_0 : ¬ y336 = i0 := own_aty hvC hvZ hvmm MAIN.2.1 (MAIN.2.2 0) (own_B5 hvB hvB_6 hvB_10 hvB_14 hvB_18) (by rw [e_ix321]; rfl) D337
        refine s_if_eq 602 546 C X at_543 (fun c => absurd c a_0) (fun c543_338 => ?_)
        refine s_aload 548 C X at_546 rfl rfl ?_
        refine s_aload 550 C X at_548 rfl rfl ?_
        refine s_iload 552 C X at_550 rfl ?_
        refine s_iconst 553 C X at_552 kc_iconst_1 ?_
        obtain ⟨ix339, e_ix339⟩ : ∃ zz_ : Int32, zz_ = i1 := ⟨_, rfl⟩
        refine rc (st' := [(.int ix339), (.int mF_271), (.ref o237), (.ref o276)]) (by subst e_ix339; rfl) ?_
        have hvx_ix339 : own_X5 ix339 := by rw [e_ix339]; exact ⟨by decide, by decide⟩
        refine s_callS 556 [(.ref o276), (.ref o237), (.int mF_271), (.int ix339)] [] 0 C X at_553 (mW 119 rfl) (mW 120 rfl) (mW 2 rfl) (mW 121 rfl) (rm_a29 l Z a0 hw cs fm o237 k_o237 esF_270 mF_271 bF k_bF m277 o276 zsF ix339 _ n0 X.sz S_cs S_fm A_o237 E_o276 F_o276_a F_o276_k A_bF Od hv_cs hv_fm hvmm hvx_ix339) (lenOf pd__Ljava_lang_String__CII_Z rfl) rfl rfl rfl (fun T v hh X q => ?_)
        obtain ⟨y336_356, rfl, D337_357, Od, Kc⟩ := q
        have Rc := Rc.keep Kc so0
        have Kp := Kp.trans Kc all0
        have A_o237 := A_o237.keep Kc nin0
        have E_o276 := E_o276.keep Kc
        have F_o276_a := F_o276_a.keep Kc nin0
        have F_o276_k := F_o276_k.keep Kc nin0
        have A_bF := A_bF.keep Kc nin0
        refine rc (st' := [(.int y336_356)]) rfl ?_
        have a_1 : ¬ y336_356 = i0 := own_aty hvC hvZ hvmm MAIN.2.1 (MAIN.2.2 1) (own_B5 hvB hvB_6 hvB_10 hvB_14 hvB_18) (by rw [e_ix339]; rfl) D337_357
        refine s_if_eq 602 559 C X at_556 (fun c => absurd c a_1) (fun c556_358 => ?_)
        refine s_aload 561 C X at_559 rfl rfl ?_
        refine s_aload 563 C X at_561 rfl rfl ?_
        refine s_iload 565 C X at_563 rfl ?_
        refine s_iconst 566 C X at_565 kc_iconst_2 ?_
        obtain ⟨ix359, e_ix359⟩ : ∃ zz_ : Int32, zz_ = i2 := ⟨_, rfl⟩
        refine rc (st' := [(.int ix359), (.int mF_271), (.ref o237), (.ref o276)]) (by subst e_ix359; rfl) ?_
        have hvx_ix359 : own_X5 ix359 := by rw [e_ix359]; exact ⟨by decide, by decide⟩
        refine s_callS 569 [(.ref o276), (.ref o237), (.int mF_271), (.int ix359)] [] 0 C X at_566 (mW 119 rfl) (mW 120 rfl) (mW 2 rfl) (mW 121 rfl) (rm_a29 l Z a0 hw cs fm o237 k_o237 esF_270 mF_271 bF k_bF m277 o276 zsF ix359 _ n0 X.sz S_cs S_fm A_o237 E_o276 F_o276_a F_o276_k A_bF Od hv_cs hv_fm hvmm hvx_ix359) (lenOf pd__Ljava_lang_String__CII_Z rfl) rfl rfl rfl (fun T v hh X q => ?_)
        obtain ⟨y336_376, rfl, D337_377, Od, Kc⟩ := q
        have Rc := Rc.keep Kc so0
        have Kp := Kp.trans Kc all0
        have A_o237 := A_o237.keep Kc nin0
        have E_o276 := E_o276.keep Kc
        have F_o276_a := F_o276_a.keep Kc nin0
        have F_o276_k := F_o276_k.keep Kc nin0
        have A_bF := A_bF.keep Kc nin0
        refine rc (st' := [(.int y336_376)]) rfl ?_
        have a_2 : ¬ y336_376 = i0 := own_aty hvC hvZ hvmm MAIN.2.1 (MAIN.2.2 2) (own_B5 hvB hvB_6 hvB_10 hvB_14 hvB_18) (by rw [e_ix359]; rfl) D337_377
        refine s_if_eq 602 572 C X at_569 (fun c => absurd c a_2) (fun c569_378 => ?_)
        refine s_aload 574 C X at_572 rfl rfl ?_
        refine s_aload 576 C X at_574 rfl rfl ?_
        refine s_iload 578 C X at_576 rfl ?_
        refine s_iconst 579 C X at_578 kc_iconst_3 ?_
        obtain ⟨ix379, e_ix379⟩ : ∃ zz_ : Int32, zz_ = i3 := ⟨_, rfl⟩
        refine rc (st' := [(.int ix379), (.int mF_271), (.ref o237), (.ref o276)]) (by subst e_ix379; rfl) ?_
        have hvx_ix379 : own_X5 ix379 := by rw [e_ix379]; exact ⟨by decide, by decide⟩
        refine s_callS 582 [(.ref o276), (.ref o237), (.int mF_271), (.int ix379)] [] 0 C X at_579 (mW 119 rfl) (mW 120 rfl) (mW 2 rfl) (mW 121 rfl) (rm_a29 l Z a0 hw cs fm o237 k_o237 esF_270 mF_271 bF k_bF m277 o276 zsF ix379 _ n0 X.sz S_cs S_fm A_o237 E_o276 F_o276_a F_o276_k A_bF Od hv_cs hv_fm hvmm hvx_ix379) (lenOf pd__Ljava_lang_String__CII_Z rfl) rfl rfl rfl (fun T v hh X q => ?_)
        obtain ⟨y336_396, rfl, D337_397, Od, Kc⟩ := q
        have Rc := Rc.keep Kc so0
        have Kp := Kp.trans Kc all0
        have A_o237 := A_o237.keep Kc nin0
        have E_o276 := E_o276.keep Kc
        have F_o276_a := F_o276_a.keep Kc nin0
        have F_o276_k := F_o276_k.keep Kc nin0
        have A_bF := A_bF.keep Kc nin0
        refine rc (st' := [(.int y336_396)]) rfl ?_
        have a_3 : ¬ y336_396 = i0 := own_aty hvC hvZ hvmm MAIN.2.1 (MAIN.2.2 3) (own_B5 hvB hvB_6 hvB_10 hvB_14 hvB_18) (by rw [e_ix379]; rfl) D337_397
        refine s_if_eq 602 585 C X at_582 (fun c => absurd c a_3) (fun c582_398 => ?_)
        refine s_aload 587 C X at_585 rfl rfl ?_
        refine s_aload 589 C X at_587 rfl rfl ?_
        refine s_iload 591 C X at_589 rfl ?_
        refine s_iconst 592 C X at_591 kc_iconst_4 ?_
        obtain ⟨ix399, e_ix399⟩ : ∃ zz_ : Int32, zz_ = i4 := ⟨_, rfl⟩
        refine rc (st' := [(.int ix399), (.int mF_271), (.ref o237), (.ref o276)]) (by subst e_ix399; rfl) ?_
        have hvx_ix399 : own_X5 ix399 := by rw [e_ix399]; exact ⟨by decide, by decide⟩
        refine s_callS 595 [(.ref o276), (.ref o237), (.int mF_271), (.int ix399)] [] 0 C X at_592 (mW 119 rfl) (mW 120 rfl) (mW 2 rfl) (mW 121 rfl) (rm_a29 l Z a0 hw cs fm o237 k_o237 esF_270 mF_271 bF k_bF m277 o276 zsF ix399 _ n0 X.sz S_cs S_fm A_o237 E_o276 F_o276_a F_o276_k A_bF Od hv_cs hv_fm hvmm hvx_ix399) (lenOf pd__Ljava_lang_String__CII_Z rfl) rfl rfl rfl (fun T v hh X q => ?_)
        obtain ⟨y336_416, rfl, D337_417, Od, Kc⟩ := q
        have Rc := Rc.keep Kc so0
        have Kp := Kp.trans Kc all0
        refine rc (st' := [(.int y336_416)]) rfl ?_
        have a_4 : ¬ y336_416 = i0 := own_aty hvC hvZ hvmm MAIN.2.1 (MAIN.2.2 4) (own_B5 hvB hvB_6 hvB_10 hvB_14 hvB_18) (by rw [e_ix399]; rfl) D337_417
        refine s_if_eq 602 598 C X at_595 (fun c => absurd c a_4) (fun c595_418 => ?_)
        refine s_iconst 599 C X at_598 kc_iconst_1 ?_
        refine s_goto 603 C X at_599 ?_
        refine s_istore 605 C X (l' := #[iv x0, iv x1, iv x2, iv x3, iv yF, iv yF_5, iv yF_9, iv yF_13, iv yF_17, iv yF_21, iv yF_25, iv nv27, iv pr28, rv o29, rv o32, rv o46, iv i0, iv y174, iv y179, iv y184, iv y189, iv y194, iv y194, iv y199, iv y204, iv y209, iv y174, iv y216, iv y223, iv y230, iv y235, rv o237, iv mF_271, rv o276, iv i1]) at_603 rfl ?_
        refine s_iload 607 C X at_605 rfl ?_
        refine s_if_eq 643 610 C X at_607 (fun c607_419 => ?_) (fun c => absurd c162_55 c)
        refine s_iload 645 C X at_643 rfl ?_
        refine s_if_eq 659 648 C X at_645 (fun c => absurd c (by decide)) (fun _ => ?_)
        refine s_iload 650 C X at_648 rfl ?_
        refine s_iload 652 C X at_650 rfl ?_
        refine s_icmp_ne 659 655 C X at_652 (fun c => absurd rfl c) (fun _ => ?_)
        refine s_iconst 656 C X at_655 kc_iconst_1 ?_
        refine s_goto 660 C X at_656 ?_
        refine s_nreturn C X at_660 rfl (by simp) rfl ?_ (FGH hG hS Rc C (own_EL hw))
        exact hQ _ _ rfl
      refine s_aload 167 C X at_165 rfl rfl ?_
      refine s_ldcH 169 4 C X hS Rc.2 (own_EL hw) Rc.1.1 at_167 (mW 142 rfl) (own_wS hw) (vs := [(.int i112)]) (z := i1) (by decide) ⟨by decide, rfl⟩ (by decide) rfl (fun T hh t61 b62 k_b62 vm k1 C X E hS Nk Rn E_t61 F_t61_k F_t61_a A_b62 nS => ?_)
      have Rc := Rc.call Rn Nk
      have Od := Od.ext E
      have Kp := Kp.ext E
      have A_o29 := A_o29.ext E
      have A_o32 := A_o32.ext E
      have E_o46 := E_o46.ext E
      have F_o46_q := F_o46_q.ext E
      have F_o46_u := F_o46_u.ext E
      have F_o46_l := F_o46_l.ext E
      have F_o46_c := F_o46_c.ext E
      have F_o46_s := F_o46_s.ext E
      have F_o46_g := F_o46_g.ext E
      have F_o46_v := F_o46_v.ext E
      have F_o46_n := F_o46_n.ext E
      have A_o47 := A_o47.ext E
      have A_o48 := A_o48.ext E
      have A_o49 := A_o49.ext E
      have A_o50 := A_o50.ext E
      have A_o51 := A_o51.ext E
      have A_o52 := A_o52.ext E
      have A_o53 := A_o53.ext E
      refine s_iconst 170 C X at_169 kc_iconst_m1 ?_
      refine s_hcallV 173 [(.ref t61), (.int im1)] [] 0 C X hS Rc.2 (own_EL hw) Rc.1.1 at_170 (mW 39 rfl) (mW 40 rfl) (nF C (mW 42 rfl)) (mW 42 rfl) (mW 41 rfl) (mW 7 rfl) (mW 43 rfl) E_o46 (rm_a3 l Z a0 hw o46 k_o47 k_o48 k_o49 k_o50 k_o51 o47 o48 o49 o50 o51 o52 o53 t61 _ n0 X.sz E_o46 F_o46_q F_o46_u F_o46_l F_o46_c F_o46_s F_o46_g F_o46_v F_o46_n A_o47 A_o48 A_o49 A_o50 A_o51 E_t61 g_o46 g_o47 g_o48 g_o49 g_o50 g_o51 ne_o46_o47 ne_o46_o48 ne_o47_o48 ne_o46_o49 ne_o47_o49 ne_o48_o49 ne_o46_o50 ne_o47_o50 ne_o48_o50 ne_o49_o50 ne_o46_o51 ne_o47_o51 ne_o48_o51 ne_o49_o51 ne_o50_o51 O_o47 O_o48 O_o49) (lenOf pd__Ljava_lang_String_I_V rfl) rfl rfl rfl so0 (fun T v hh vm k1 C X hS Nk Rn q => ?_)
      obtain ⟨b65, k_b65, t64, rfl, E_o46, F_o46_q, F_o46_u, F_o46_l, F_o46_c, F_o46_s, F_o46_g, F_o46_v, F_o46_n, A_o47, A_o48, A_o49, A_o50, A_o51, Kc, E_t64, F_t64_k, F_t64_a, A_b65, ne_o46_t64, ne_o46_b65, ne_o47_t64, ne_o47_b65, ne_o48_t64, ne_o48_b65, ne_o49_t64, ne_o49_b65, ne_o50_t64, ne_o50_b65, ne_o51_t64, ne_o51_b65⟩ := q
      have Rc := Rc.call Rn Nk
      have Od := Od.keep Kc (allS g_o46 (allS g_o47 (allS g_o48 (allS g_o49 (allS g_o50 (allS g_o51 all0))))))
      have Kp := Kp.trans Kc (allS (Or.inr sz_o46) (allS (Or.inr sz_o47) (allS (Or.inr sz_o48) (allS (Or.inr sz_o49) (allS (Or.inr sz_o50) (allS (Or.inr sz_o51) all0))))))
      have A_o29 := A_o29.keep Kc (ninS ne_o29_o46 (ninS ne_o29_o47 (ninS ne_o29_o48 (ninS ne_o29_o49 (ninS ne_o29_o50 (ninS ne_o29_o51 nin0))))))
      have A_o32 := A_o32.keep Kc (ninS ne_o32_o46 (ninS ne_o32_o47 (ninS ne_o32_o48 (ninS ne_o32_o49 (ninS ne_o32_o50 (ninS ne_o32_o51 nin0))))))
      have A_o52 := A_o52.keep Kc (ninS (Ne.symm ne_o46_o52) (ninS (Ne.symm ne_o47_o52) (ninS (Ne.symm ne_o48_o52) (ninS (Ne.symm ne_o49_o52) (ninS (Ne.symm ne_o50_o52) (ninS (Ne.symm ne_o51_o52) nin0))))))
      have A_o53 := A_o53.keep Kc (ninS (Ne.symm ne_o46_o53) (ninS (Ne.symm ne_o47_o53) (ninS (Ne.symm ne_o48_o53) (ninS (Ne.symm ne_o49_o53) (ninS (Ne.symm ne_o50_o53) (ninS (Ne.symm ne_o51_o53) nin0))))))
      refine rc (st' := []) rfl ?_
      refine s_aload 175 C X at_173 rfl rfl ?_
      refine s_aload 177 C X at_175 rfl rfl ?_
      refine s_iconst 178 C X at_177 kc_iconst_0 ?_
      refine s_aload 180 C X at_178 rfl rfl ?_
      refine s_arraylength 181 C X at_180 A_o32 ?_
      have Sw_o51 : Safe Z EL1 vm _ o51 := (Safe.arv C.2.1.alike A_o51 (by decide))
      have Sw_o53 : Safe Z EL1 vm _ o53 := (Safe.arv C.2.1.alike A_o53 (by decide))
      refine s_callV 184 [(.ref o32), (.int i0), (.int i0)] [] 0 C X at_181 (mW 48 rfl) (mW 49 rfl) (nF C (mW 51 rfl)) (mW 51 rfl) (mW 50 rfl) (mW 7 rfl) (mW 52 rfl) E_o46 (rm_a30 l Z a0 hw o32 o46 k_o32 k_o51 k_o53 o51 o53 _ n0 X.sz A_o32 A_o53 F_o46_s F_o46_v F_o46_n A_o51 ne_o32_o51 g_o51 ne_o32_o53 g_o53 ne_o46_o51 ne_o46_o53 ne_o51_o53) (lenOf pd___CII_V rfl) rfl rfl rfl (fun T v hh X q => ?_)
      obtain ⟨rfl, A_o51, Kc, A_o53⟩ := q
      have Hs : ∀ x ∈ [o51, o53], Safe Z EL1 vm _ x := (soS Sw_o51 (soS Sw_o53 so0))
      have Rc := Rc.keep Kc Hs
      have nn_o46 : o46 ∉ [o51, o53] := (ninS ne_o46_o51 (ninS ne_o46_o53 nin0))
      have Od := Od.keep Kc (allS g_o51 (allS g_o53 all0))
      have Kp := Kp.trans Kc (allS (Or.inr sz_o51) (allS (Or.inr sz_o53) all0))
      have A_o29 := A_o29.keep Kc (ninS ne_o29_o51 (ninS ne_o29_o53 nin0))
      have A_o32 := A_o32.keep Kc (ninS ne_o32_o51 (ninS ne_o32_o53 nin0))
      have A_o52 := A_o52.keep Kc (ninS (Ne.symm ne_o51_o52) (ninS ne_o52_o53 nin0))
      have E_o46 := E_o46.keep Kc
      have F_o46_q := F_o46_q.keep Kc nn_o46
      have F_o46_u := F_o46_u.keep Kc nn_o46
      have F_o46_l := F_o46_l.keep Kc nn_o46
      have F_o46_c := F_o46_c.keep Kc nn_o46
      have F_o46_s := F_o46_s.keep Kc nn_o46
      have F_o46_g := F_o46_g.keep Kc nn_o46
      have F_o46_v := F_o46_v.keep Kc nn_o46
      have F_o46_n := F_o46_n.keep Kc nn_o46
      have A_o47 := A_o47.keep Kc (ninS ne_o47_o51 (ninS ne_o47_o53 nin0))
      have A_o48 := A_o48.keep Kc (ninS ne_o48_o51 (ninS ne_o48_o53 nin0))
      have A_o49 := A_o49.keep Kc (ninS ne_o49_o51 (ninS ne_o49_o53 nin0))
      have A_o50 := A_o50.keep Kc (ninS ne_o50_o51 (ninS ne_o50_o53 nin0))
      refine rc (st' := []) rfl ?_
      refine s_iconst 185 C X at_184 kc_iconst_1 ?_
      refine s_istore 187 C X (l' := #[iv x0, iv x1, iv x2, iv x3, iv yF, iv yF_5, iv yF_9, iv yF_13, iv yF_17, iv yF_21, iv yF_25, iv nv27, iv pr28, rv o29, rv o32, rv o46, iv i1, un, un, un, un, un, un, un, un, un, un, un, un, un, un, un, un, un, un]) at_185 rfl ?_
      refine s_aload 189 C X at_187 rfl rfl ?_
      refine s_ldcH 191 4 C X hS Rc.2 (own_EL hw) Rc.1.1 at_189 (mW 31 rfl) (own_wS hw) (vs := [(.int i113)]) (z := i1) (by decide) ⟨by decide, rfl⟩ (by decide) rfl (fun T hh t81 b82 k_b82 vm k1 C X E hS Nk Rn E_t81 F_t81_k F_t81_a A_b82 nS => ?_)
      have Rc := Rc.call Rn Nk
      have Od := Od.ext E
      have Kp := Kp.ext E
      have A_o29 := A_o29.ext E
      have A_o32 := A_o32.ext E
      have A_o52 := A_o52.ext E
      have E_o46 := E_o46.ext E
      have F_o46_q := F_o46_q.ext E
      have F_o46_u := F_o46_u.ext E
      have F_o46_l := F_o46_l.ext E
      have F_o46_c := F_o46_c.ext E
      have F_o46_s := F_o46_s.ext E
      have F_o46_g := F_o46_g.ext E
      have F_o46_v := F_o46_v.ext E
      have F_o46_n := F_o46_n.ext E
      have A_o47 := A_o47.ext E
      have A_o48 := A_o48.ext E
      have A_o49 := A_o49.ext E
      have A_o50 := A_o50.ext E
      have A_o51 := A_o51.ext E
      have A_o53 := A_o53.ext E
      refine s_iconst 192 C X at_191 kc_iconst_m1 ?_
      refine s_hcallV 195 [(.ref t81), (.int im1)] [] 0 C X hS Rc.2 (own_EL hw) Rc.1.1 at_192 (mW 39 rfl) (mW 40 rfl) (nF C (mW 42 rfl)) (mW 42 rfl) (mW 41 rfl) (mW 7 rfl) (mW 43 rfl) E_o46 (rm_a31 l Z a0 hw o46 k_o47 k_o48 k_o49 k_o50 k_o51 o47 o48 o49 o50 o51 o52 o53 t61 t64 t81 _ n0 X.sz E_o46 F_o46_q F_o46_u F_o46_l F_o46_c F_o46_s F_o46_g F_o46_v F_o46_n A_o47 A_o48 A_o49 A_o50 A_o51 E_t81 g_o46 g_o47 g_o48 g_o49 g_o50 g_o51 ne_o46_o47 ne_o46_o48 ne_o47_o48 ne_o46_o49 ne_o47_o49 ne_o48_o49 ne_o46_o50 ne_o47_o50 ne_o48_o50 ne_o49_o50 ne_o46_o51 ne_o47_o51 ne_o48_o51 ne_o49_o51 ne_o50_o51 O_o47 O_o48 O_o49) (lenOf pd__Ljava_lang_String_I_V rfl) rfl rfl rfl so0 (fun T v hh vm k1 C X hS Nk Rn q => ?_)
      obtain ⟨b85, k_b85, t84, rfl, E_o46, F_o46_q, F_o46_u, F_o46_l, F_o46_c, F_o46_s, F_o46_g, F_o46_v, F_o46_n, A_o47, A_o48, A_o49, A_o50, A_o51, Kc, E_t84, F_t84_k, F_t84_a, A_b85, ne_o46_t84, ne_o46_b85, ne_o47_t84, ne_o47_b85, ne_o48_t84, ne_o48_b85, ne_o49_t84, ne_o49_b85, ne_o50_t84, ne_o50_b85, ne_o51_t84, ne_o51_b85⟩ := q
      have Rc := Rc.call Rn Nk
      have Od := Od.keep Kc (allS g_o46 (allS g_o47 (allS g_o48 (allS g_o49 (allS g_o50 (allS g_o51 all0))))))
      have Kp := Kp.trans Kc (allS (Or.inr sz_o46) (allS (Or.inr sz_o47) (allS (Or.inr sz_o48) (allS (Or.inr sz_o49) (allS (Or.inr sz_o50) (allS (Or.inr sz_o51) all0))))))
      have A_o29 := A_o29.keep Kc (ninS ne_o29_o46 (ninS ne_o29_o47 (ninS ne_o29_o48 (ninS ne_o29_o49 (ninS ne_o29_o50 (ninS ne_o29_o51 nin0))))))
      have A_o32 := A_o32.keep Kc (ninS ne_o32_o46 (ninS ne_o32_o47 (ninS ne_o32_o48 (ninS ne_o32_o49 (ninS ne_o32_o50 (ninS ne_o32_o51 nin0))))))
      have A_o52 := A_o52.keep Kc (ninS (Ne.symm ne_o46_o52) (ninS (Ne.symm ne_o47_o52) (ninS (Ne.symm ne_o48_o52) (ninS (Ne.symm ne_o49_o52) (ninS (Ne.symm ne_o50_o52) (ninS (Ne.symm ne_o51_o52) nin0))))))
      have A_o53 := A_o53.keep Kc (ninS (Ne.symm ne_o46_o53) (ninS (Ne.symm ne_o47_o53) (ninS (Ne.symm ne_o48_o53) (ninS (Ne.symm ne_o49_o53) (ninS (Ne.symm ne_o50_o53) (ninS (Ne.symm ne_o51_o53) nin0))))))
      refine rc (st' := []) rfl ?_
      refine s_aload 197 C X at_195 rfl rfl ?_
      refine s_aload 199 C X at_197 rfl rfl ?_
      refine s_iconst 200 C X at_199 kc_iconst_0 ?_
      refine s_iload 202 C X at_200 rfl ?_
      have Sw_o51 : Safe Z EL1 vm _ o51 := (Safe.arv C.2.1.alike A_o51 (by decide))
      have Sw_o53 : Safe Z EL1 vm _ o53 := (Safe.arv C.2.1.alike A_o53 (by decide))
      refine s_callV 205 [(.ref o29), (.int i0), (.int nv27)] [] 0 C X at_202 (mW 48 rfl) (mW 49 rfl) (nF C (mW 51 rfl)) (mW 51 rfl) (mW 50 rfl) (mW 7 rfl) (mW 52 rfl) E_o46 (rm_a32 l Z a0 hw yF yF_5 yF_9 yF_13 yF_17 nv27 o29 o46 k_o29 k_o51 k_o53 o51 o53 _ n0 X.sz A_o29 A_o53 F_o46_s F_o46_v F_o46_n A_o51 hv_nv27 ne_o29_o51 g_o51 ne_o29_o53 g_o53 ne_o46_o51 ne_o46_o53 ne_o51_o53) (lenOf pd___CII_V rfl) rfl rfl rfl (fun T v hh X q => ?_)
      obtain ⟨rfl, A_o51, Kc, A_o53⟩ := q
      have Hs : ∀ x ∈ [o51, o53], Safe Z EL1 vm _ x := (soS Sw_o51 (soS Sw_o53 so0))
      have Rc := Rc.keep Kc Hs
      have nn_o46 : o46 ∉ [o51, o53] := (ninS ne_o46_o51 (ninS ne_o46_o53 nin0))
      have Od := Od.keep Kc (allS g_o51 (allS g_o53 all0))
      have Kp := Kp.trans Kc (allS (Or.inr sz_o51) (allS (Or.inr sz_o53) all0))
      have A_o32 := A_o32.keep Kc (ninS ne_o32_o51 (ninS ne_o32_o53 nin0))
      have A_o52 := A_o52.keep Kc (ninS (Ne.symm ne_o51_o52) (ninS ne_o52_o53 nin0))
      have E_o46 := E_o46.keep Kc
      have F_o46_s := F_o46_s.keep Kc nn_o46
      have F_o46_g := F_o46_g.keep Kc nn_o46
      have F_o46_v := F_o46_v.keep Kc nn_o46
      have F_o46_n := F_o46_n.keep Kc nn_o46
      refine rc (st' := []) rfl ?_
      refine s_aload 207 C X at_205 rfl rfl ?_
      have Sw_o51 : Safe Z EL1 vm _ o51 := (Safe.arv C.2.1.alike A_o51 (by decide))
      have Sw_o53 : Safe Z EL1 vm _ o53 := (Safe.arv C.2.1.alike A_o53 (by decide))
      refine s_callV 210 [] [] 0 C X at_207 (mW 57 rfl) (mW 58 rfl) (nF C (mW 60 rfl)) (mW 60 rfl) (mW 59 rfl) (mW 7 rfl) (mW 61 rfl) E_o46 (rm_a33 l Z a0 hw yF yF_5 yF_9 yF_13 yF_17 nv27 o46 k_o51 k_o53 o51 o53 _ n0 X.sz F_o46_s F_o46_v F_o46_n A_o51 A_o53 hvB hvB_6 hvB_10 hvB_14 hvB_18 hv_nv27 g_o51 g_o53 ne_o46_o51 ne_o46_o53 ne_o51_o53) (lenOf pd___V rfl) rfl rfl rfl (fun T v hh X q => ?_)
      obtain ⟨tF, xsF, rfl, hvC, A_o51, A_o53, Kc⟩ := q
      have Hs : ∀ x ∈ [o51, o53], Safe Z EL1 vm _ x := (soS Sw_o51 (soS Sw_o53 so0))
      have Rc := Rc.keep Kc Hs
      have nn_o46 : o46 ∉ [o51, o53] := (ninS ne_o46_o51 (ninS ne_o46_o53 nin0))
      have Od := Od.keep Kc (allS g_o51 (allS g_o53 all0))
      have Kp := Kp.trans Kc (allS (Or.inr sz_o51) (allS (Or.inr sz_o53) all0))
      have A_o32 := A_o32.keep Kc (ninS ne_o32_o51 (ninS ne_o32_o53 nin0))
      have A_o52 := A_o52.keep Kc (ninS (Ne.symm ne_o51_o52) (ninS ne_o52_o53 nin0))
      have E_o46 := E_o46.keep Kc
      have F_o46_s := F_o46_s.keep Kc nn_o46
      have F_o46_g := F_o46_g.keep Kc nn_o46
      have F_o46_v := F_o46_v.keep Kc nn_o46
      have F_o46_n := F_o46_n.keep Kc nn_o46
      refine rc (st' := []) rfl ?_
      refine s_iconst 211 C X at_210 kc_iconst_0 ?_
      refine s_iload 213 C X at_211 rfl ?_
      refine s_iload 215 C X at_213 rfl ?_
      refine s_callS 218 [(.int i0), (.int nv27), (.int yF)] [] 0 C X at_215 (mW 62 rfl) (mW 63 rfl) (mW 2 rfl) (mW 64 rfl) (rm_a6 l Z a0 hw yF nv27 _ n0 X.sz ) (lenOf pd__IIC_Z rfl) rfl rfl rfl (fun T v hh X q => ?_)
      obtain ⟨y174, rfl, D175, Kc⟩ := q
      have Rc := Rc.keep Kc so0
      have Od := Od.keep Kc all0
      have Kp := Kp.trans Kc all0
      have A_o32 := A_o32.keep Kc nin0
      have A_o52 := A_o52.keep Kc nin0
      have E_o46 := E_o46.keep Kc
      have F_o46_s := F_o46_s.keep Kc nin0
      have F_o46_g := F_o46_g.keep Kc nin0
      have F_o46_v := F_o46_v.keep Kc nin0
      have F_o46_n := F_o46_n.keep Kc nin0
      have A_o51 := A_o51.keep Kc nin0
      have A_o53 := A_o53.keep Kc nin0
      refine rc (st' := [(.int y174)]) rfl ?_
      refine s_istore 220 C X (l' := #[iv x0, iv x1, iv x2, iv x3, iv yF, iv yF_5, iv yF_9, iv yF_13, iv yF_17, iv yF_21, iv yF_25, iv nv27, iv pr28, rv o29, rv o32, rv o46, iv i1, iv y174, un, un, un, un, un, un, un, un, un, un, un, un, un, un, un, un, un]) at_218 rfl ?_
      refine s_iconst 221 C X at_220 kc_iconst_1 ?_
      refine s_iload 223 C X at_221 rfl ?_
      refine s_iload 225 C X at_223 rfl ?_
      refine s_callS 228 [(.int i1), (.int nv27), (.int yF_5)] [] 0 C X at_225 (mW 62 rfl) (mW 63 rfl) (mW 2 rfl) (mW 64 rfl) (rm_a7 l Z a0 hw yF_5 nv27 _ n0 X.sz ) (lenOf pd__IIC_Z rfl) rfl rfl rfl (fun T v hh X q => ?_)
      obtain ⟨y179, rfl, D180, Kc⟩ := q
      have Rc := Rc.keep Kc so0
      have Od := Od.keep Kc all0
      have Kp := Kp.trans Kc all0
      have A_o32 := A_o32.keep Kc nin0
      have A_o52 := A_o52.keep Kc nin0
      have E_o46 := E_o46.keep Kc
      have F_o46_s := F_o46_s.keep Kc nin0
      have F_o46_g := F_o46_g.keep Kc nin0
      have F_o46_v := F_o46_v.keep Kc nin0
      have F_o46_n := F_o46_n.keep Kc nin0
      have A_o51 := A_o51.keep Kc nin0
      have A_o53 := A_o53.keep Kc nin0
      refine rc (st' := [(.int y179)]) rfl ?_
      refine s_istore 230 C X (l' := #[iv x0, iv x1, iv x2, iv x3, iv yF, iv yF_5, iv yF_9, iv yF_13, iv yF_17, iv yF_21, iv yF_25, iv nv27, iv pr28, rv o29, rv o32, rv o46, iv i1, iv y174, iv y179, un, un, un, un, un, un, un, un, un, un, un, un, un, un, un, un]) at_228 rfl ?_
      refine s_iconst 231 C X at_230 kc_iconst_2 ?_
      refine s_iload 233 C X at_231 rfl ?_
      refine s_iload 235 C X at_233 rfl ?_
      refine s_callS 238 [(.int i2), (.int nv27), (.int yF_9)] [] 0 C X at_235 (mW 62 rfl) (mW 63 rfl) (mW 2 rfl) (mW 64 rfl) (rm_a8 l Z a0 hw yF_9 nv27 _ n0 X.sz ) (lenOf pd__IIC_Z rfl) rfl rfl rfl (fun T v hh X q => ?_)
      obtain ⟨y184, rfl, D185, Kc⟩ := q
      have Rc := Rc.keep Kc so0
      have Od := Od.keep Kc all0
      have Kp := Kp.trans Kc all0
      have A_o32 := A_o32.keep Kc nin0
      have A_o52 := A_o52.keep Kc nin0
      have E_o46 := E_o46.keep Kc
      have F_o46_s := F_o46_s.keep Kc nin0
      have F_o46_g := F_o46_g.keep Kc nin0
      have F_o46_v := F_o46_v.keep Kc nin0
      have F_o46_n := F_o46_n.keep Kc nin0
      have A_o51 := A_o51.keep Kc nin0
      have A_o53 := A_o53.keep Kc nin0
      refine rc (st' := [(.int y184)]) rfl ?_
      refine s_istore 240 C X (l' := #[iv x0, iv x1, iv x2, iv x3, iv yF, iv yF_5, iv yF_9, iv yF_13, iv yF_17, iv yF_21, iv yF_25, iv nv27, iv pr28, rv o29, rv o32, rv o46, iv i1, iv y174, iv y179, iv y184, un, un, un, un, un, un, un, un, un, un, un, un, un, un, un]) at_238 rfl ?_
      refine s_iconst 241 C X at_240 kc_iconst_3 ?_
      refine s_iload 243 C X at_241 rfl ?_
      refine s_iload 245 C X at_243 rfl ?_
      refine s_callS 248 [(.int i3), (.int nv27), (.int yF_13)] [] 0 C X at_245 (mW 62 rfl) (mW 63 rfl) (mW 2 rfl) (mW 64 rfl) (rm_a9 l Z a0 hw yF_13 nv27 _ n0 X.sz ) (lenOf pd__IIC_Z rfl) rfl rfl rfl (fun T v hh X q => ?_)
      obtain ⟨y189, rfl, D190, Kc⟩ := q
      have Rc := Rc.keep Kc so0
      have Od := Od.keep Kc all0
      have Kp := Kp.trans Kc all0
      have A_o32 := A_o32.keep Kc nin0
      have A_o52 := A_o52.keep Kc nin0
      have E_o46 := E_o46.keep Kc
      have F_o46_s := F_o46_s.keep Kc nin0
      have F_o46_g := F_o46_g.keep Kc nin0
      have F_o46_v := F_o46_v.keep Kc nin0
      have F_o46_n := F_o46_n.keep Kc nin0
      have A_o51 := A_o51.keep Kc nin0
      have A_o53 := A_o53.keep Kc nin0
      refine rc (st' := [(.int y189)]) rfl ?_
      refine s_istore 250 C X (l' := #[iv x0, iv x1, iv x2, iv x3, iv yF, iv yF_5, iv yF_9, iv yF_13, iv yF_17, iv yF_21, iv yF_25, iv nv27, iv pr28, rv o29, rv o32, rv o46, iv i1, iv y174, iv y179, iv y184, iv y189, un, un, un, un, un, un, un, un, un, un, un, un, un, un]) at_248 rfl ?_
      refine s_iconst 251 C X at_250 kc_iconst_4 ?_
      refine s_iload 253 C X at_251 rfl ?_
      refine s_iload 255 C X at_253 rfl ?_
      refine s_callS 258 [(.int i4), (.int nv27), (.int yF_17)] [] 0 C X at_255 (mW 62 rfl) (mW 63 rfl) (mW 2 rfl) (mW 64 rfl) (rm_a10 l Z a0 hw yF_17 nv27 _ n0 X.sz ) (lenOf pd__IIC_Z rfl) rfl rfl rfl (fun T v hh X q => ?_)
      obtain ⟨y194, rfl, D195, Kc⟩ := q
      have Rc := Rc.keep Kc so0
      have Od := Od.keep Kc all0
      have Kp := Kp.trans Kc all0
      have A_o32 := A_o32.keep Kc nin0
      have A_o52 := A_o52.keep Kc nin0
      have E_o46 := E_o46.keep Kc
      have F_o46_s := F_o46_s.keep Kc nin0
      have F_o46_g := F_o46_g.keep Kc nin0
      have F_o46_v := F_o46_v.keep Kc nin0
      have F_o46_n := F_o46_n.keep Kc nin0
      have A_o51 := A_o51.keep Kc nin0
      have A_o53 := A_o53.keep Kc nin0
      refine rc (st' := [(.int y194)]) rfl ?_
      refine s_istore 260 C X (l' := #[iv x0, iv x1, iv x2, iv x3, iv yF, iv yF_5, iv yF_9, iv yF_13, iv yF_17, iv yF_21, iv yF_25, iv nv27, iv pr28, rv o29, rv o32, rv o46, iv i1, iv y174, iv y179, iv y184, iv y189, iv y194, un, un, un, un, un, un, un, un, un, un, un, un, un]) at_258 rfl ?_
      refine s_iload 262 C X at_260 rfl ?_
      refine s_istore 264 C X (l' := #[iv x0, iv x1, iv x2, iv x3, iv yF, iv yF_5, iv yF_9, iv yF_13, iv yF_17, iv yF_21, iv yF_25, iv nv27, iv pr28, rv o29, rv o32, rv o46, iv i1, iv y174, iv y179, iv y184, iv y189, iv y194, iv y194, un, un, un, un, un, un, un, un, un, un, un, un]) at_262 rfl ?_
      refine s_iload 266 C X at_264 rfl ?_
      suffices J200 : ∀ (y199 : Int32) (D200 : ((¬ ((y189).toInt = (0 : Int))) ∧ y199 = i1) ∨ (((y189).toInt = (0 : Int)) ∧ ((y194).toInt = (0 : Int)) ∧ y199 = i0) ∨ (((y189).toInt = (0 : Int)) ∧ (¬ ((y194).toInt = (0 : Int))) ∧ y199 = i1)), Run p e below n0 Q' G' m T 279 #[iv x0, iv x1, iv x2, iv x3, iv yF, iv yF_5, iv yF_9, iv yF_13, iv yF_17, iv yF_21, iv yF_25, iv nv27, iv pr28, rv o29, rv o32, rv o46, iv i1, iv y174, iv y179, iv y184, iv y189, iv y194, iv y194, un, un, un, un, un, un, un, un, un, un, un, un] [(.int y199)] by
        refine s_if_ne 274 269 C X at_266 (fun c266_196 => ?_) (fun c266_196 => ?_)
        · have t_c266_196 := ine c266_196
          refine s_iconst 275 C X at_274 kc_iconst_1 ?_
          refine s_goto 279 C X at_275 ?_
          exact J200 (i1) ((Or.inl ⟨t_c266_196, rfl⟩))
        have t_c266_196 := ieq c266_196
        refine s_iload 271 C X at_269 rfl ?_
        refine s_if_eq 278 274 C X at_271 (fun c271_197 => ?_) (fun c271_197 => ?_)
        · have t_c271_197 := ieq c271_197
          refine s_iconst 279 C X at_278 kc_iconst_0 ?_
          exact J200 (i0) (Or.inr (Or.inl ⟨t_c266_196, t_c271_197, rfl⟩))
        have t_c271_197 := ine c271_197
        refine s_iconst 275 C X at_274 kc_iconst_1 ?_
        refine s_goto 279 C X at_275 ?_
        exact J200 (i1) (Or.inr (Or.inr ⟨t_c266_196, t_c271_197, rfl⟩))
      intro y199 D200
      refine s_istore 281 C X (l' := #[iv x0, iv x1, iv x2, iv x3, iv yF, iv yF_5, iv yF_9, iv yF_13, iv yF_17, iv yF_21, iv yF_25, iv nv27, iv pr28, rv o29, rv o32, rv o46, iv i1, iv y174, iv y179, iv y184, iv y189, iv y194, iv y194, iv y199, un, un, un, un, un, un, un, un, un, un, un]) at_279 rfl ?_
      refine s_iload 283 C X at_281 rfl ?_
      suffices J205 : ∀ (y204 : Int32) (D205 : ((¬ ((y184).toInt = (0 : Int))) ∧ y204 = i1) ∨ (((y184).toInt = (0 : Int)) ∧ ((y199).toInt = (0 : Int)) ∧ y204 = i0) ∨ (((y184).toInt = (0 : Int)) ∧ (¬ ((y199).toInt = (0 : Int))) ∧ y204 = i1)), Run p e below n0 Q' G' m T 296 #[iv x0, iv x1, iv x2, iv x3, iv yF, iv yF_5, iv yF_9, iv yF_13, iv yF_17, iv yF_21, iv yF_25, iv nv27, iv pr28, rv o29, rv o32, rv o46, iv i1, iv y174, iv y179, iv y184, iv y189, iv y194, iv y194, iv y199, un, un, un, un, un, un, un, un, un, un, un] [(.int y204)] by
        refine s_if_ne 291 286 C X at_283 (fun c283_201 => ?_) (fun c283_201 => ?_)
        · have t_c283_201 := ine c283_201
          refine s_iconst 292 C X at_291 kc_iconst_1 ?_
          refine s_goto 296 C X at_292 ?_
          exact J205 (i1) ((Or.inl ⟨t_c283_201, rfl⟩))
        have t_c283_201 := ieq c283_201
        refine s_iload 288 C X at_286 rfl ?_
        refine s_if_eq 295 291 C X at_288 (fun c288_202 => ?_) (fun c288_202 => ?_)
        · have t_c288_202 := ieq c288_202
          refine s_iconst 296 C X at_295 kc_iconst_0 ?_
          exact J205 (i0) (Or.inr (Or.inl ⟨t_c283_201, t_c288_202, rfl⟩))
        have t_c288_202 := ine c288_202
        refine s_iconst 292 C X at_291 kc_iconst_1 ?_
        refine s_goto 296 C X at_292 ?_
        exact J205 (i1) (Or.inr (Or.inr ⟨t_c283_201, t_c288_202, rfl⟩))
      intro y204 D205
      refine s_istore 298 C X (l' := #[iv x0, iv x1, iv x2, iv x3, iv yF, iv yF_5, iv yF_9, iv yF_13, iv yF_17, iv yF_21, iv yF_25, iv nv27, iv pr28, rv o29, rv o32, rv o46, iv i1, iv y174, iv y179, iv y184, iv y189, iv y194, iv y194, iv y199, iv y204, un, un, un, un, un, un, un, un, un, un]) at_296 rfl ?_
      refine s_iload 300 C X at_298 rfl ?_
      suffices J210 : ∀ (y209 : Int32) (D210 : ((¬ ((y179).toInt = (0 : Int))) ∧ y209 = i1) ∨ (((y179).toInt = (0 : Int)) ∧ ((y204).toInt = (0 : Int)) ∧ y209 = i0) ∨ (((y179).toInt = (0 : Int)) ∧ (¬ ((y204).toInt = (0 : Int))) ∧ y209 = i1)), Run p e below n0 Q' G' m T 313 #[iv x0, iv x1, iv x2, iv x3, iv yF, iv yF_5, iv yF_9, iv yF_13, iv yF_17, iv yF_21, iv yF_25, iv nv27, iv pr28, rv o29, rv o32, rv o46, iv i1, iv y174, iv y179, iv y184, iv y189, iv y194, iv y194, iv y199, iv y204, un, un, un, un, un, un, un, un, un, un] [(.int y209)] by
        refine s_if_ne 308 303 C X at_300 (fun c300_206 => ?_) (fun c300_206 => ?_)
        · have t_c300_206 := ine c300_206
          refine s_iconst 309 C X at_308 kc_iconst_1 ?_
          refine s_goto 313 C X at_309 ?_
          exact J210 (i1) ((Or.inl ⟨t_c300_206, rfl⟩))
        have t_c300_206 := ieq c300_206
        refine s_iload 305 C X at_303 rfl ?_
        refine s_if_eq 312 308 C X at_305 (fun c305_207 => ?_) (fun c305_207 => ?_)
        · have t_c305_207 := ieq c305_207
          refine s_iconst 313 C X at_312 kc_iconst_0 ?_
          exact J210 (i0) (Or.inr (Or.inl ⟨t_c300_206, t_c305_207, rfl⟩))
        have t_c305_207 := ine c305_207
        refine s_iconst 309 C X at_308 kc_iconst_1 ?_
        refine s_goto 313 C X at_309 ?_
        exact J210 (i1) (Or.inr (Or.inr ⟨t_c300_206, t_c305_207, rfl⟩))
      intro y209 D210
      refine s_istore 315 C X (l' := #[iv x0, iv x1, iv x2, iv x3, iv yF, iv yF_5, iv yF_9, iv yF_13, iv yF_17, iv yF_21, iv yF_25, iv nv27, iv pr28, rv o29, rv o32, rv o46, iv i1, iv y174, iv y179, iv y184, iv y189, iv y194, iv y194, iv y199, iv y204, iv y209, un, un, un, un, un, un, un, un, un]) at_313 rfl ?_
      refine s_iload 317 C X at_315 rfl ?_
      refine s_istore 319 C X (l' := #[iv x0, iv x1, iv x2, iv x3, iv yF, iv yF_5, iv yF_9, iv yF_13, iv yF_17, iv yF_21, iv yF_25, iv nv27, iv pr28, rv o29, rv o32, rv o46, iv i1, iv y174, iv y179, iv y184, iv y189, iv y194, iv y194, iv y199, iv y204, iv y209, iv y174, un, un, un, un, un, un, un, un]) at_317 rfl ?_
      refine s_iconst 320 C X at_319 kc_iconst_1 ?_
      refine s_iload 322 C X at_320 rfl ?_
      suffices J217 : ∀ (y216 : Int32) (D217 : ((¬ ((1 : Int) < (nv27).toInt)) ∧ y216 = i0) ∨ (((1 : Int) < (nv27).toInt) ∧ (¬ ((yF_5).toInt = (32 : Int))) ∧ y216 = i1) ∨ (((1 : Int) < (nv27).toInt) ∧ ((yF_5).toInt = (32 : Int)) ∧ ((y174).toInt = (0 : Int)) ∧ y216 = i0) ∨ (((1 : Int) < (nv27).toInt) ∧ ((yF_5).toInt = (32 : Int)) ∧ (¬ ((y174).toInt = (0 : Int))) ∧ ((y204).toInt = (0 : Int)) ∧ y216 = i0) ∨ (((1 : Int) < (nv27).toInt) ∧ ((yF_5).toInt = (32 : Int)) ∧ (¬ ((y174).toInt = (0 : Int))) ∧ (¬ ((y204).toInt = (0 : Int))) ∧ y216 = i1)), Run p e below n0 Q' G' m T 347 #[iv x0, iv x1, iv x2, iv x3, iv yF, iv yF_5, iv yF_9, iv yF_13, iv yF_17, iv yF_21, iv yF_25, iv nv27, iv pr28, rv o29, rv o32, rv o46, iv i1, iv y174, iv y179, iv y184, iv y189, iv y194, iv y194, iv y199, iv y204, iv y209, iv y174, un, un, un, un, un, un, un, un] [(.int y216)] by
        refine s_icmp_ge 346 325 C X at_322 (fun c322_211 => ?_) (fun c322_211 => ?_)
        · have t_c322_211 := inl c322_211
          refine s_iconst 347 C X at_346 kc_iconst_0 ?_
          exact J217 (i0) ((Or.inl ⟨t_c322_211, rfl⟩))
        have t_c322_211 := ilt c322_211
        refine s_iload 327 C X at_325 rfl ?_
        refine s_bipush 329 C X at_327 kc_bipush_32 ?_
        refine s_icmp_ne 342 332 C X at_329 (fun c329_212 => ?_) (fun c329_212 => ?_)
        · have t_c329_212 := ine c329_212
          refine s_iconst 343 C X at_342 kc_iconst_1 ?_
          refine s_goto 347 C X at_343 ?_
          exact J217 (i1) (Or.inr (Or.inl ⟨t_c322_211, t_c329_212, rfl⟩))
        have t_c329_212 := ieq c329_212
        refine s_iload 334 C X at_332 rfl ?_
        refine s_if_eq 346 337 C X at_334 (fun c334_213 => ?_) (fun c334_213 => ?_)
        · have t_c334_213 := ieq c334_213
          refine s_iconst 347 C X at_346 kc_iconst_0 ?_
          exact J217 (i0) (Or.inr (Or.inr (Or.inl ⟨t_c322_211, t_c329_212, t_c334_213, rfl⟩)))
        have t_c334_213 := ine c334_213
        refine s_iload 339 C X at_337 rfl ?_
        refine s_if_eq 346 342 C X at_339 (fun c339_214 => ?_) (fun c339_214 => ?_)
        · have t_c339_214 := ieq c339_214
          refine s_iconst 347 C X at_346 kc_iconst_0 ?_
          exact J217 (i0) (Or.inr (Or.inr (Or.inr (Or.inl ⟨t_c322_211, t_c329_212, t_c334_213, t_c339_214, rfl⟩))))
        have t_c339_214 := ine c339_214
        refine s_iconst 343 C X at_342 kc_iconst_1 ?_
        refine s_goto 347 C X at_343 ?_
        exact J217 (i1) (Or.inr (Or.inr (Or.inr (Or.inr ⟨t_c322_211, t_c329_212, t_c334_213, t_c339_214, rfl⟩))))
      intro y216 D217
      refine s_istore 349 C X (l' := #[iv x0, iv x1, iv x2, iv x3, iv yF, iv yF_5, iv yF_9, iv yF_13, iv yF_17, iv yF_21, iv yF_25, iv nv27, iv pr28, rv o29, rv o32, rv o46, iv i1, iv y174, iv y179, iv y184, iv y189, iv y194, iv y194, iv y199, iv y204, iv y209, iv y174, iv y216, un, un, un, un, un, un, un]) at_347 rfl ?_
      refine s_iconst 350 C X at_349 kc_iconst_2 ?_
      refine s_iload 352 C X at_350 rfl ?_
      suffices J224 : ∀ (y223 : Int32) (D224 : ((¬ ((2 : Int) < (nv27).toInt)) ∧ y223 = i0) ∨ (((2 : Int) < (nv27).toInt) ∧ (¬ ((yF_9).toInt = (32 : Int))) ∧ y223 = i1) ∨ (((2 : Int) < (nv27).toInt) ∧ ((yF_9).toInt = (32 : Int)) ∧ ((y179).toInt = (0 : Int)) ∧ y223 = i0) ∨ (((2 : Int) < (nv27).toInt) ∧ ((yF_9).toInt = (32 : Int)) ∧ (¬ ((y179).toInt = (0 : Int))) ∧ ((y199).toInt = (0 : Int)) ∧ y223 = i0) ∨ (((2 : Int) < (nv27).toInt) ∧ ((yF_9).toInt = (32 : Int)) ∧ (¬ ((y179).toInt = (0 : Int))) ∧ (¬ ((y199).toInt = (0 : Int))) ∧ y223 = i1)), Run p e below n0 Q' G' m T 377 #[iv x0, iv x1, iv x2, iv x3, iv yF, iv yF_5, iv yF_9, iv yF_13, iv yF_17, iv yF_21, iv yF_25, iv nv27, iv pr28, rv o29, rv o32, rv o46, iv i1, iv y174, iv y179, iv y184, iv y189, iv y194, iv y194, iv y199, iv y204, iv y209, iv y174, iv y216, un, un, un, un, un, un, un] [(.int y223)] by
        refine s_icmp_ge 376 355 C X at_352 (fun c352_218 => ?_) (fun c352_218 => ?_)
        · have t_c352_218 := inl c352_218
          refine s_iconst 377 C X at_376 kc_iconst_0 ?_
          exact J224 (i0) ((Or.inl ⟨t_c352_218, rfl⟩))
        have t_c352_218 := ilt c352_218
        refine s_iload 357 C X at_355 rfl ?_
        refine s_bipush 359 C X at_357 kc_bipush_32 ?_
        refine s_icmp_ne 372 362 C X at_359 (fun c359_219 => ?_) (fun c359_219 => ?_)
        · have t_c359_219 := ine c359_219
          refine s_iconst 373 C X at_372 kc_iconst_1 ?_
          refine s_goto 377 C X at_373 ?_
          exact J224 (i1) (Or.inr (Or.inl ⟨t_c352_218, t_c359_219, rfl⟩))
        have t_c359_219 := ieq c359_219
        refine s_iload 364 C X at_362 rfl ?_
        refine s_if_eq 376 367 C X at_364 (fun c364_220 => ?_) (fun c364_220 => ?_)
        · have t_c364_220 := ieq c364_220
          refine s_iconst 377 C X at_376 kc_iconst_0 ?_
          exact J224 (i0) (Or.inr (Or.inr (Or.inl ⟨t_c352_218, t_c359_219, t_c364_220, rfl⟩)))
        have t_c364_220 := ine c364_220
        refine s_iload 369 C X at_367 rfl ?_
        refine s_if_eq 376 372 C X at_369 (fun c369_221 => ?_) (fun c369_221 => ?_)
        · have t_c369_221 := ieq c369_221
          refine s_iconst 377 C X at_376 kc_iconst_0 ?_
          exact J224 (i0) (Or.inr (Or.inr (Or.inr (Or.inl ⟨t_c352_218, t_c359_219, t_c364_220, t_c369_221, rfl⟩))))
        have t_c369_221 := ine c369_221
        refine s_iconst 373 C X at_372 kc_iconst_1 ?_
        refine s_goto 377 C X at_373 ?_
        exact J224 (i1) (Or.inr (Or.inr (Or.inr (Or.inr ⟨t_c352_218, t_c359_219, t_c364_220, t_c369_221, rfl⟩))))
      intro y223 D224
      refine s_istore 379 C X (l' := #[iv x0, iv x1, iv x2, iv x3, iv yF, iv yF_5, iv yF_9, iv yF_13, iv yF_17, iv yF_21, iv yF_25, iv nv27, iv pr28, rv o29, rv o32, rv o46, iv i1, iv y174, iv y179, iv y184, iv y189, iv y194, iv y194, iv y199, iv y204, iv y209, iv y174, iv y216, iv y223, un, un, un, un, un, un]) at_377 rfl ?_
      refine s_iconst 380 C X at_379 kc_iconst_3 ?_
      refine s_iload 382 C X at_380 rfl ?_
      suffices J231 : ∀ (y230 : Int32) (D231 : ((¬ ((3 : Int) < (nv27).toInt)) ∧ y230 = i0) ∨ (((3 : Int) < (nv27).toInt) ∧ (¬ ((yF_13).toInt = (32 : Int))) ∧ y230 = i1) ∨ (((3 : Int) < (nv27).toInt) ∧ ((yF_13).toInt = (32 : Int)) ∧ ((y184).toInt = (0 : Int)) ∧ y230 = i0) ∨ (((3 : Int) < (nv27).toInt) ∧ ((yF_13).toInt = (32 : Int)) ∧ (¬ ((y184).toInt = (0 : Int))) ∧ ((y194).toInt = (0 : Int)) ∧ y230 = i0) ∨ (((3 : Int) < (nv27).toInt) ∧ ((yF_13).toInt = (32 : Int)) ∧ (¬ ((y184).toInt = (0 : Int))) ∧ (¬ ((y194).toInt = (0 : Int))) ∧ y230 = i1)), Run p e below n0 Q' G' m T 407 #[iv x0, iv x1, iv x2, iv x3, iv yF, iv yF_5, iv yF_9, iv yF_13, iv yF_17, iv yF_21, iv yF_25, iv nv27, iv pr28, rv o29, rv o32, rv o46, iv i1, iv y174, iv y179, iv y184, iv y189, iv y194, iv y194, iv y199, iv y204, iv y209, iv y174, iv y216, iv y223, un, un, un, un, un, un] [(.int y230)] by
        refine s_icmp_ge 406 385 C X at_382 (fun c382_225 => ?_) (fun c382_225 => ?_)
        · have t_c382_225 := inl c382_225
          refine s_iconst 407 C X at_406 kc_iconst_0 ?_
          exact J231 (i0) ((Or.inl ⟨t_c382_225, rfl⟩))
        have t_c382_225 := ilt c382_225
        refine s_iload 387 C X at_385 rfl ?_
        refine s_bipush 389 C X at_387 kc_bipush_32 ?_
        refine s_icmp_ne 402 392 C X at_389 (fun c389_226 => ?_) (fun c389_226 => ?_)
        · have t_c389_226 := ine c389_226
          refine s_iconst 403 C X at_402 kc_iconst_1 ?_
          refine s_goto 407 C X at_403 ?_
          exact J231 (i1) (Or.inr (Or.inl ⟨t_c382_225, t_c389_226, rfl⟩))
        have t_c389_226 := ieq c389_226
        refine s_iload 394 C X at_392 rfl ?_
        refine s_if_eq 406 397 C X at_394 (fun c394_227 => ?_) (fun c394_227 => ?_)
        · have t_c394_227 := ieq c394_227
          refine s_iconst 407 C X at_406 kc_iconst_0 ?_
          exact J231 (i0) (Or.inr (Or.inr (Or.inl ⟨t_c382_225, t_c389_226, t_c394_227, rfl⟩)))
        have t_c394_227 := ine c394_227
        refine s_iload 399 C X at_397 rfl ?_
        refine s_if_eq 406 402 C X at_399 (fun c399_228 => ?_) (fun c399_228 => ?_)
        · have t_c399_228 := ieq c399_228
          refine s_iconst 407 C X at_406 kc_iconst_0 ?_
          exact J231 (i0) (Or.inr (Or.inr (Or.inr (Or.inl ⟨t_c382_225, t_c389_226, t_c394_227, t_c399_228, rfl⟩))))
        have t_c399_228 := ine c399_228
        refine s_iconst 403 C X at_402 kc_iconst_1 ?_
        refine s_goto 407 C X at_403 ?_
        exact J231 (i1) (Or.inr (Or.inr (Or.inr (Or.inr ⟨t_c382_225, t_c389_226, t_c394_227, t_c399_228, rfl⟩))))
      intro y230 D231
      refine s_istore 409 C X (l' := #[iv x0, iv x1, iv x2, iv x3, iv yF, iv yF_5, iv yF_9, iv yF_13, iv yF_17, iv yF_21, iv yF_25, iv nv27, iv pr28, rv o29, rv o32, rv o46, iv i1, iv y174, iv y179, iv y184, iv y189, iv y194, iv y194, iv y199, iv y204, iv y209, iv y174, iv y216, iv y223, iv y230, un, un, un, un, un]) at_407 rfl ?_
      refine s_iconst 410 C X at_409 kc_iconst_4 ?_
      refine s_iload 412 C X at_410 rfl ?_
      suffices J236 : ∀ (y235 : Int32) (D236 : ((¬ ((4 : Int) < (nv27).toInt)) ∧ y235 = i0) ∨ (((4 : Int) < (nv27).toInt) ∧ ((yF_17).toInt = (32 : Int)) ∧ y235 = i0) ∨ (((4 : Int) < (nv27).toInt) ∧ (¬ ((yF_17).toInt = (32 : Int))) ∧ y235 = i1)), Run p e below n0 Q' G' m T 427 #[iv x0, iv x1, iv x2, iv x3, iv yF, iv yF_5, iv yF_9, iv yF_13, iv yF_17, iv yF_21, iv yF_25, iv nv27, iv pr28, rv o29, rv o32, rv o46, iv i1, iv y174, iv y179, iv y184, iv y189, iv y194, iv y194, iv y199, iv y204, iv y209, iv y174, iv y216, iv y223, iv y230, un, un, un, un, un] [(.int y235)] by
        refine s_icmp_ge 426 415 C X at_412 (fun c412_232 => ?_) (fun c412_232 => ?_)
        · have t_c412_232 := inl c412_232
          refine s_iconst 427 C X at_426 kc_iconst_0 ?_
          exact J236 (i0) ((Or.inl ⟨t_c412_232, rfl⟩))
        have t_c412_232 := ilt c412_232
        refine s_iload 417 C X at_415 rfl ?_
        refine s_bipush 419 C X at_417 kc_bipush_32 ?_
        refine s_icmp_eq 426 422 C X at_419 (fun c419_233 => ?_) (fun c419_233 => ?_)
        · have t_c419_233 := ieq c419_233
          refine s_iconst 427 C X at_426 kc_iconst_0 ?_
          exact J236 (i0) (Or.inr (Or.inl ⟨t_c412_232, t_c419_233, rfl⟩))
        have t_c419_233 := ine c419_233
        refine s_iconst 423 C X at_422 kc_iconst_1 ?_
        refine s_goto 427 C X at_423 ?_
        exact J236 (i1) (Or.inr (Or.inr ⟨t_c412_232, t_c419_233, rfl⟩))
      intro y235 D236
      refine s_istore 429 C X (l' := #[iv x0, iv x1, iv x2, iv x3, iv yF, iv yF_5, iv yF_9, iv yF_13, iv yF_17, iv yF_21, iv yF_25, iv nv27, iv pr28, rv o29, rv o32, rv o46, iv i1, iv y174, iv y179, iv y184, iv y189, iv y194, iv y194, iv y199, iv y204, iv y209, iv y174, iv y216, iv y223, iv y230, iv y235, un, un, un, un]) at_427 rfl ?_
      refine s_iconst 430 C X at_429 kc_iconst_5 ?_
      refine s_newarray 432 5 C X at_430 (mW 4 rfl) (by decide) (by decide) (fun T hh o237 k_o237 hb_o237 X E A_o237 g_o237 => ?_)
      have H_o237 : Safe Z EL1 vm _ o237 := Safe.ext E Rc.1.1 (Safe.new (Nat.le_of_eq hb_o237))
      have Rc := Rc.ext E
      have sz_o237 : h0.size ≤ o237 := Nat.le_trans Kp.1 (Nat.le_of_eq hb_o237)
      have ne_o32_o237 : o32 ≠ o237 := Nat.ne_of_lt (Nat.lt_of_lt_of_le A_o32.lt (Nat.le_of_eq hb_o237))
      have ne_o52_o237 : o52 ≠ o237 := Nat.ne_of_lt (Nat.lt_of_lt_of_le A_o52.lt (Nat.le_of_eq hb_o237))
      have ne_o46_o237 : o46 ≠ o237 := Nat.ne_of_lt (Nat.lt_of_lt_of_le E_o46.lt (Nat.le_of_eq hb_o237))
      have ne_o51_o237 : o51 ≠ o237 := Nat.ne_of_lt (Nat.lt_of_lt_of_le A_o51.lt (Nat.le_of_eq hb_o237))
      have ne_o53_o237 : o53 ≠ o237 := Nat.ne_of_lt (Nat.lt_of_lt_of_le A_o53.lt (Nat.le_of_eq hb_o237))
      have Od := Od.ext E
      have Kp := Kp.ext E
      have A_o32 := A_o32.ext E
      have A_o52 := A_o52.ext E
      have E_o46 := E_o46.ext E
      have F_o46_s := F_o46_s.ext E
      have F_o46_g := F_o46_g.ext E
      have F_o46_v := F_o46_v.ext E
      have F_o46_n := F_o46_n.ext E
      have A_o51 := A_o51.ext E
      have A_o53 := A_o53.ext E
      have A_o237 : Arv Z _ o237 k_o237 .char i5 [(.int i0), (.int i0), (.int i0), (.int i0), (.int i0)] (.int i0) := A_o237.pad (pad_rep [] _ 5)
      refine s_astore 434 C X (l' := #[iv x0, iv x1, iv x2, iv x3, iv yF, iv yF_5, iv yF_9, iv yF_13, iv yF_17, iv yF_21, iv yF_25, iv nv27, iv pr28, rv o29, rv o32, rv o46, iv i1, iv y174, iv y179, iv y184, iv y189, iv y194, iv y194, iv y199, iv y204, iv y209, iv y174, iv y216, iv y223, iv y230, iv y235, rv o237, un, un, un]) at_432 rfl rfl ?_
      refine s_iconst 435 C X at_434 kc_iconst_0 ?_
      refine s_istore 437 C X (l' := #[iv x0, iv x1, iv x2, iv x3, iv yF, iv yF_5, iv yF_9, iv yF_13, iv yF_17, iv yF_21, iv yF_25, iv nv27, iv pr28, rv o29, rv o32, rv o46, iv i1, iv y174, iv y179, iv y184, iv y189, iv y194, iv y194, iv y199, iv y204, iv y209, iv y174, iv y216, iv y223, iv y230, iv y235, rv o237, iv i0, un, un]) at_435 rfl ?_
      obtain ⟨es0, e_es0⟩ : ∃ z : List Int32, z = [0, 0, 0, 0, 0] := ⟨_, rfl⟩
      have A_o237 : Arv Z hh o237 k_o237 .char i5 (Y es0) (.int i0) := by rw [e_es0]; exact A_o237
      refine s_aload 439 C X at_437 rfl rfl ?_
      refine s_iload 441 C X at_439 rfl ?_
      refine s_iload 443 C X at_441 rfl ?_
      refine s_iload 445 C X at_443 rfl ?_
      obtain ⟨m0, e_m0⟩ : ∃ z : Int32, z = i0 := ⟨_, rfl⟩
      refine rc (st' := [(.int yF), (.int y174), (.int m0), (.ref o237)]) (by rw [e_m0]) ?_
      have hvq : own_Q 4 es0 m0 := by rw [e_es0, e_m0]; exact ⟨rfl, by decide, by decide⟩
      have hq0 : own_Q 0 es0 m0 := by rw [e_es0, e_m0]; exact ⟨rfl, by decide, by decide⟩
      have Sw_o237 : Safe Z EL1 vm _ o237 := H_o237
      refine s_callS 448 [(.ref o237), (.int m0), (.int y174), (.int yF)] [] 0 C X at_445 (mW 65 rfl) (mW 66 rfl) (mW 2 rfl) (mW 67 rfl) (rm_a11 l Z a0 hw yF y174 o237 es0 m0 k_o237 _ n0 X.sz A_o237 hvB g_o237 hvq) (lenOf pd___CIZC_I rfl) rfl rfl rfl (fun T v hh X q => ?_)
      obtain ⟨esF, mF, rfl, hvP, A_o237, Kc⟩ := q
      have Hs : ∀ x ∈ [o237], Safe Z EL1 vm _ x := (soS Sw_o237 so0)
      have H_o237 := Safe.keep Kc Hs Rc.1.1 H_o237
      have Rc := Rc.keep Kc Hs
      have Od := Od.keep Kc (allS g_o237 all0)
      have Kp := Kp.trans Kc (allS (Or.inr sz_o237) all0)
      have A_o32 := A_o32.keep Kc (ninS ne_o32_o237 nin0)
      have A_o52 := A_o52.keep Kc (ninS ne_o52_o237 nin0)
      have E_o46 := E_o46.keep Kc
      have F_o46_s := F_o46_s.keep Kc (ninS ne_o46_o237 nin0)
      have F_o46_g := F_o46_g.keep Kc (ninS ne_o46_o237 nin0)
      have F_o46_v := F_o46_v.keep Kc (ninS ne_o46_o237 nin0)
      have F_o46_n := F_o46_n.keep Kc (ninS ne_o46_o237 nin0)
      have A_o51 := A_o51.keep Kc (ninS ne_o51_o237 nin0)
      have A_o53 := A_o53.keep Kc (ninS ne_o53_o237 nin0)
      refine rc (st' := [(.int mF)]) rfl ?_
      have hq1 : own_Q 1 esF mF := own_q2 hq0 (by decide) hvP
      refine s_istore 450 C X (l' := #[iv x0, iv x1, iv x2, iv x3, iv yF, iv yF_5, iv yF_9, iv yF_13, iv yF_17, iv yF_21, iv yF_25, iv nv27, iv pr28, rv o29, rv o32, rv o46, iv i1, iv y174, iv y179, iv y184, iv y189, iv y194, iv y194, iv y199, iv y204, iv y209, iv y174, iv y216, iv y223, iv y230, iv y235, rv o237, iv mF, un, un]) at_448 rfl ?_
      refine s_aload 452 C X at_450 rfl rfl ?_
      refine s_iload 454 C X at_452 rfl ?_
      refine s_iload 456 C X at_454 rfl ?_
      refine s_iload 458 C X at_456 rfl ?_
      have hvq : own_Q 4 esF mF := own_q4 hq1 (by decide)
      have Sw_o237 : Safe Z EL1 vm _ o237 := H_o237
      refine s_callS 461 [(.ref o237), (.int mF), (.int y216), (.int yF_5)] [] 0 C X at_458 (mW 65 rfl) (mW 66 rfl) (mW 2 rfl) (mW 67 rfl) (rm_a11 l Z a0 hw yF_5 y216 o237 esF mF k_o237 _ n0 X.sz A_o237 hvB_6 g_o237 hvq) (lenOf pd___CIZC_I rfl) rfl rfl rfl (fun T v hh X q => ?_)
      obtain ⟨esF_253, mF_254, rfl, hvP_257, A_o237, Kc⟩ := q
      have Hs : ∀ x ∈ [o237], Safe Z EL1 vm _ x := (soS Sw_o237 so0)
      have H_o237 := Safe.keep Kc Hs Rc.1.1 H_o237
      have Rc := Rc.keep Kc Hs
      have Od := Od.keep Kc (allS g_o237 all0)
      have Kp := Kp.trans Kc (allS (Or.inr sz_o237) all0)
      have A_o32 := A_o32.keep Kc (ninS ne_o32_o237 nin0)
      have A_o52 := A_o52.keep Kc (ninS ne_o52_o237 nin0)
      have E_o46 := E_o46.keep Kc
      have F_o46_s := F_o46_s.keep Kc (ninS ne_o46_o237 nin0)
      have F_o46_g := F_o46_g.keep Kc (ninS ne_o46_o237 nin0)
      have F_o46_v := F_o46_v.keep Kc (ninS ne_o46_o237 nin0)
      have F_o46_n := F_o46_n.keep Kc (ninS ne_o46_o237 nin0)
      have A_o51 := A_o51.keep Kc (ninS ne_o51_o237 nin0)
      have A_o53 := A_o53.keep Kc (ninS ne_o53_o237 nin0)
      refine rc (st' := [(.int mF_254)]) rfl ?_
      have hq2 : own_Q 2 esF_253 mF_254 := own_q2 hq1 (by decide) hvP_257
      refine s_istore 463 C X (l' := #[iv x0, iv x1, iv x2, iv x3, iv yF, iv yF_5, iv yF_9, iv yF_13, iv yF_17, iv yF_21, iv yF_25, iv nv27, iv pr28, rv o29, rv o32, rv o46, iv i1, iv y174, iv y179, iv y184, iv y189, iv y194, iv y194, iv y199, iv y204, iv y209, iv y174, iv y216, iv y223, iv y230, iv y235, rv o237, iv mF_254, un, un]) at_461 rfl ?_
      refine s_aload 465 C X at_463 rfl rfl ?_
      refine s_iload 467 C X at_465 rfl ?_
      refine s_iload 469 C X at_467 rfl ?_
      refine s_iload 471 C X at_469 rfl ?_
      have hvq : own_Q 4 esF_253 mF_254 := own_q4 hq2 (by decide)
      have Sw_o237 : Safe Z EL1 vm _ o237 := H_o237
      refine s_callS 474 [(.ref o237), (.int mF_254), (.int y223), (.int yF_9)] [] 0 C X at_471 (mW 65 rfl) (mW 66 rfl) (mW 2 rfl) (mW 67 rfl) (rm_a11 l Z a0 hw yF_9 y223 o237 esF_253 mF_254 k_o237 _ n0 X.sz A_o237 hvB_10 g_o237 hvq) (lenOf pd___CIZC_I rfl) rfl rfl rfl (fun T v hh X q => ?_)
      obtain ⟨esF_260, mF_261, rfl, hvP_262, A_o237, Kc⟩ := q
      have Hs : ∀ x ∈ [o237], Safe Z EL1 vm _ x := (soS Sw_o237 so0)
      have H_o237 := Safe.keep Kc Hs Rc.1.1 H_o237
      have Rc := Rc.keep Kc Hs
      have Od := Od.keep Kc (allS g_o237 all0)
      have Kp := Kp.trans Kc (allS (Or.inr sz_o237) all0)
      have A_o32 := A_o32.keep Kc (ninS ne_o32_o237 nin0)
      have A_o52 := A_o52.keep Kc (ninS ne_o52_o237 nin0)
      have E_o46 := E_o46.keep Kc
      have F_o46_s := F_o46_s.keep Kc (ninS ne_o46_o237 nin0)
      have F_o46_g := F_o46_g.keep Kc (ninS ne_o46_o237 nin0)
      have F_o46_v := F_o46_v.keep Kc (ninS ne_o46_o237 nin0)
      have F_o46_n := F_o46_n.keep Kc (ninS ne_o46_o237 nin0)
      have A_o51 := A_o51.keep Kc (ninS ne_o51_o237 nin0)
      have A_o53 := A_o53.keep Kc (ninS ne_o53_o237 nin0)
      refine rc (st' := [(.int mF_261)]) rfl ?_
      have hq3 : own_Q 3 esF_260 mF_261 := own_q2 hq2 (by decide) hvP_262
      refine s_istore 476 C X (l' := #[iv x0, iv x1, iv x2, iv x3, iv yF, iv yF_5, iv yF_9, iv yF_13, iv yF_17, iv yF_21, iv yF_25, iv nv27, iv pr28, rv o29, rv o32, rv o46, iv i1, iv y174, iv y179, iv y184, iv y189, iv y194, iv y194, iv y199, iv y204, iv y209, iv y174, iv y216, iv y223, iv y230, iv y235, rv o237, iv mF_261, un, un]) at_474 rfl ?_
      refine s_aload 478 C X at_476 rfl rfl ?_
      refine s_iload 480 C X at_478 rfl ?_
      refine s_iload 482 C X at_480 rfl ?_
      refine s_iload 484 C X at_482 rfl ?_
      have hvq : own_Q 4 esF_260 mF_261 := own_q4 hq3 (by decide)
      have Sw_o237 : Safe Z EL1 vm _ o237 := H_o237
      refine s_callS 487 [(.ref o237), (.int mF_261), (.int y230), (.int yF_13)] [] 0 C X at_484 (mW 65 rfl) (mW 66 rfl) (mW 2 rfl) (mW 67 rfl) (rm_a11 l Z a0 hw yF_13 y230 o237 esF_260 mF_261 k_o237 _ n0 X.sz A_o237 hvB_14 g_o237 hvq) (lenOf pd___CIZC_I rfl) rfl rfl rfl (fun T v hh X q => ?_)
      obtain ⟨esF_265, mF_266, rfl, hvP_267, A_o237, Kc⟩ := q
      have Hs : ∀ x ∈ [o237], Safe Z EL1 vm _ x := (soS Sw_o237 so0)
      have H_o237 := Safe.keep Kc Hs Rc.1.1 H_o237
      have Rc := Rc.keep Kc Hs
      have Od := Od.keep Kc (allS g_o237 all0)
      have Kp := Kp.trans Kc (allS (Or.inr sz_o237) all0)
      have A_o32 := A_o32.keep Kc (ninS ne_o32_o237 nin0)
      have A_o52 := A_o52.keep Kc (ninS ne_o52_o237 nin0)
      have E_o46 := E_o46.keep Kc
      have F_o46_s := F_o46_s.keep Kc (ninS ne_o46_o237 nin0)
      have F_o46_g := F_o46_g.keep Kc (ninS ne_o46_o237 nin0)
      have F_o46_v := F_o46_v.keep Kc (ninS ne_o46_o237 nin0)
      have F_o46_n := F_o46_n.keep Kc (ninS ne_o46_o237 nin0)
      have A_o51 := A_o51.keep Kc (ninS ne_o51_o237 nin0)
      have A_o53 := A_o53.keep Kc (ninS ne_o53_o237 nin0)
      refine rc (st' := [(.int mF_266)]) rfl ?_
      have hq4 : own_Q 4 esF_265 mF_266 := own_q2 hq3 (by decide) hvP_267
      refine s_istore 489 C X (l' := #[iv x0, iv x1, iv x2, iv x3, iv yF, iv yF_5, iv yF_9, iv yF_13, iv yF_17, iv yF_21, iv yF_25, iv nv27, iv pr28, rv o29, rv o32, rv o46, iv i1, iv y174, iv y179, iv y184, iv y189, iv y194, iv y194, iv y199, iv y204, iv y209, iv y174, iv y216, iv y223, iv y230, iv y235, rv o237, iv mF_266, un, un]) at_487 rfl ?_
      refine s_aload 491 C X at_489 rfl rfl ?_
      refine s_iload 493 C X at_491 rfl ?_
      refine s_iload 495 C X at_493 rfl ?_
      refine s_iload 497 C X at_495 rfl ?_
      have hvq : own_Q 4 esF_265 mF_266 := own_q4 hq4 (by decide)
      have Sw_o237 : Safe Z EL1 vm _ o237 := H_o237
      refine s_callS 500 [(.ref o237), (.int mF_266), (.int y235), (.int yF_17)] [] 0 C X at_497 (mW 65 rfl) (mW 66 rfl) (mW 2 rfl) (mW 67 rfl) (rm_a11 l Z a0 hw yF_17 y235 o237 esF_265 mF_266 k_o237 _ n0 X.sz A_o237 hvB_18 g_o237 hvq) (lenOf pd___CIZC_I rfl) rfl rfl rfl (fun T v hh X q => ?_)
      obtain ⟨esF_270, mF_271, rfl, hvP_272, A_o237, Kc⟩ := q
      have Hs : ∀ x ∈ [o237], Safe Z EL1 vm _ x := (soS Sw_o237 so0)
      have Rc := Rc.keep Kc Hs
      have Od := Od.keep Kc (allS g_o237 all0)
      have Kp := Kp.trans Kc (allS (Or.inr sz_o237) all0)
      have A_o32 := A_o32.keep Kc (ninS ne_o32_o237 nin0)
      have A_o52 := A_o52.keep Kc (ninS ne_o52_o237 nin0)
      have E_o46 := E_o46.keep Kc
      have F_o46_s := F_o46_s.keep Kc (ninS ne_o46_o237 nin0)
      have F_o46_g := F_o46_g.keep Kc (ninS ne_o46_o237 nin0)
      have F_o46_v := F_o46_v.keep Kc (ninS ne_o46_o237 nin0)
      have F_o46_n := F_o46_n.keep Kc (ninS ne_o46_o237 nin0)
      have A_o51 := A_o51.keep Kc (ninS ne_o51_o237 nin0)
      have A_o53 := A_o53.keep Kc (ninS ne_o53_o237 nin0)
      refine rc (st' := [(.int mF_271)]) rfl ?_
      have hq5 : own_Q 5 esF_270 mF_271 := own_q2 hq4 (by decide) hvP_272
      refine s_istore 502 C X (l' := #[iv x0, iv x1, iv x2, iv x3, iv yF, iv yF_5, iv yF_9, iv yF_13, iv yF_17, iv yF_21, iv yF_25, iv nv27, iv pr28, rv o29, rv o32, rv o46, iv i1, iv y174, iv y179, iv y184, iv y189, iv y194, iv y194, iv y199, iv y204, iv y209, iv y174, iv y216, iv y223, iv y230, iv y235, rv o237, iv mF_271, un, un]) at_500 rfl ?_
      refine s_aload 504 C X at_502 rfl rfl ?_
      refine s_iload 506 C X at_504 rfl ?_
      refine s_hcallV 509 [(.int i1)] [] 0 C X hS Rc.2 (own_EL hw) Rc.1.1 at_506 (mW 68 rfl) (mW 69 rfl) (nF C (mW 71 rfl)) (mW 71 rfl) (mW 70 rfl) (mW 7 rfl) (mW 72 rfl) E_o46 (rm_a34 l Z a0 hw cs fm yF yF_5 yF_9 yF_13 yF_17 nv27 o46 k_o51 k_o52 k_o53 o51 o52 o53 tF xsF _ n0 X.sz Od S_cs S_fm A_o52 F_o46_s F_o46_g F_o46_v A_o51 A_o53 hv_cs hv_fm hvB hvB_6 hvB_10 hvB_14 hvB_18 g_o52 ne_o46_o52 ne_o51_o52 ne_o52_o53 O_o52 hvC) (lenOf pd__I_Ljava_lang_String_ rfl) rfl rfl rfl so0 (fun T v hh vm k1 C X hS Nk Rn q => ?_)
      obtain ⟨bF, k_bF, m277, o276, zsF, rfl, hvL, hvZ, A_o52, Kc, E_o276, F_o276_a, F_o276_k, Od, A_bF, ne_o52_o276, sz_o276', g_o276, ne_bF_o52⟩ := q
      have Rc := Rc.call Rn Nk
      have Kp := Kp.trans Kc (allS (Or.inr sz_o52) all0)
      have A_o32 := A_o32.keep Kc (ninS ne_o32_o52 nin0)
      have E_o46 := E_o46.keep Kc
      have F_o46_s := F_o46_s.keep Kc (ninS ne_o46_o52 nin0)
      have F_o46_g := F_o46_g.keep Kc (ninS ne_o46_o52 nin0)
      have F_o46_v := F_o46_v.keep Kc (ninS ne_o46_o52 nin0)
      have F_o46_n := F_o46_n.keep Kc (ninS ne_o46_o52 nin0)
      have A_o51 := A_o51.keep Kc (ninS ne_o51_o52 nin0)
      have A_o53 := A_o53.keep Kc (ninS (Ne.symm ne_o52_o53) nin0)
      have A_o237 := A_o237.keep Kc (ninS (Ne.symm ne_o52_o237) nin0)
      refine rc (st' := [(.ref o276)]) rfl ?_
      refine s_astore 511 C X (l' := #[iv x0, iv x1, iv x2, iv x3, iv yF, iv yF_5, iv yF_9, iv yF_13, iv yF_17, iv yF_21, iv yF_25, iv nv27, iv pr28, rv o29, rv o32, rv o46, iv i1, iv y174, iv y179, iv y184, iv y189, iv y194, iv y194, iv y199, iv y204, iv y209, iv y174, iv y216, iv y223, iv y230, iv y235, rv o237, iv mF_271, rv o276, un]) at_509 rfl rfl ?_
      refine s_aload 513 C X at_511 rfl rfl ?_
      refine s_callV 516 [] [] 0 C X at_513 (mW 104 rfl) (mW 105 rfl) (nF C (mW 107 rfl)) (mW 107 rfl) (mW 106 rfl) (mW 7 rfl) (mW 108 rfl) E_o46 (rm_a35 l Z a0 hw o46 _ n0 X.sz F_o46_n) (lenOf pd___I rfl) rfl rfl rfl (fun T v hh X q => ?_)
      obtain ⟨rfl, Kc⟩ := q
      have Rc := Rc.keep Kc so0
      have Kp := Kp.trans Kc all0
      have A_o32 := A_o32.keep Kc nin0
      have E_o46 := E_o46.keep Kc
      have F_o46_s := F_o46_s.keep Kc nin0
      have F_o46_g := F_o46_g.keep Kc nin0
      have F_o46_v := F_o46_v.keep Kc nin0
      have A_o51 := A_o51.keep Kc nin0
      have A_o53 := A_o53.keep Kc nin0
      have A_o237 := A_o237.keep Kc nin0
      have A_o52 := A_o52.keep Kc nin0
      have E_o276 := E_o276.keep Kc
      have F_o276_a := F_o276_a.keep Kc nin0
      have F_o276_k := F_o276_k.keep Kc nin0
      have Od := Od.keep Kc all0
      have A_bF := A_bF.keep Kc nin0
      refine rc (st' := [(.int i2)]) rfl ?_
      refine s_iload 518 C X at_516 rfl ?_
      refine s_iconst 519 C X at_518 kc_iconst_1 ?_
      refine s_iadd 520 C X at_519 ?_
      refine rc (st' := [(.int i2), (.int i2)]) (by rw [kf_7]) ?_
      refine s_icmp_ne 602 523 C X at_520 (fun c => absurd (by decide : i2 = i2) c) (fun _ => ?_)
      refine s_aload 525 C X at_523 rfl rfl ?_
      refine s_callV 528 [] [] 0 C X at_525 (mW 109 rfl) (mW 110 rfl) (nF C (mW 112 rfl)) (mW 112 rfl) (mW 111 rfl) (mW 32 rfl) (mW 113 rfl) E_o276 (rm_a23 l Z a0 hw cs bF k_bF m277 o276 zsF _ n0 X.sz S_cs E_o276 F_o276_a F_o276_k Od A_bF hv_cs) (lenOf pd___I rfl) rfl rfl rfl (fun T v hh X q => ?_)
      obtain ⟨rfl, Kc, Od⟩ := q
      have Rc := Rc.keep Kc so0
      have Kp := Kp.trans Kc all0
      have A_o32 := A_o32.keep Kc nin0
      have E_o46 := E_o46.keep Kc
      have F_o46_s := F_o46_s.keep Kc nin0
      have F_o46_g := F_o46_g.keep Kc nin0
      have F_o46_v := F_o46_v.keep Kc nin0
      have A_o51 := A_o51.keep Kc nin0
      have A_o53 := A_o53.keep Kc nin0
      have A_o237 := A_o237.keep Kc nin0
      have A_o52 := A_o52.keep Kc nin0
      have E_o276 := E_o276.keep Kc
      have F_o276_a := F_o276_a.keep Kc nin0
      have F_o276_k := F_o276_k.keep Kc nin0
      have A_bF := A_bF.keep Kc nin0
      refine rc (st' := [(.int m277)]) rfl ?_
      refine s_iload 530 C X at_528 rfl ?_
      have MAIN : m277 = mF_271 ∧ m277.toInt = (col [yF, yF_5, yF_9, yF_13, yF_17] nv27.toNatClampNeg).length ∧ ∀ k, k < (col [yF, yF_5, yF_9, yF_13, yF_17] nv27.toNatClampNeg).length → esF_270.getD k 0 = (col [yF, yF_5, yF_9, yF_13, yF_17] nv27.toNatClampNeg).getD k 0 := own_mn0 D175 D180 D185 D190 D195 D200 D205 D217 D224 D231 D236 hvP hvP_257 hvP_262 hvP_267 hvP_272 hvL hv_nv27 e_es0 e_m0
      have hvmm : m277 = mF_271 := MAIN.1
      refine s_icmp_ne 602 533 C X at_530 (fun c => absurd MAIN.1 c) (fun c530_313 => ?_)
      refine s_aload 535 C X at_533 rfl rfl ?_
      refine s_aload 537 C X at_535 rfl rfl ?_
      refine s_iload 539 C X at_537 rfl ?_
      refine s_iconst 540 C X at_539 kc_iconst_0 ?_
      obtain ⟨ix321, e_ix321⟩ : ∃ zz_ : Int32, zz_ = i0 := ⟨_, rfl⟩
      refine rc (st' := [(.int ix321), (.int mF_271), (.ref o237), (.ref o276)]) (by subst e_ix321; rfl) ?_
      have hvx_ix321 : own_X5 ix321 := by rw [e_ix321]; exact ⟨by decide, by decide⟩
      refine s_callS 543 [(.ref o276), (.ref o237), (.int mF_271), (.int ix321)] [] 0 C X at_540 (mW 119 rfl) (mW 120 rfl) (mW 2 rfl) (mW 121 rfl) (rm_a29 l Z a0 hw cs fm o237 k_o237 esF_270 mF_271 bF k_bF m277 o276 zsF ix321 _ n0 X.sz S_cs S_fm A_o237 E_o276 F_o276_a F_o276_k A_bF Od hv_cs hv_fm hvmm hvx_ix321) (lenOf pd__Ljava_lang_String__CII_Z rfl) rfl rfl rfl (fun T v hh X q => ?_)
      obtain ⟨y336, rfl, D337, Od, Kc⟩ := q
      have Rc := Rc.keep Kc so0
      have Kp := Kp.trans Kc all0
      have A_o32 := A_o32.keep Kc nin0
      have E_o46 := E_o46.keep Kc
      have F_o46_s := F_o46_s.keep Kc nin0
      have F_o46_g := F_o46_g.keep Kc nin0
      have F_o46_v := F_o46_v.keep Kc nin0
      have A_o51 := A_o51.keep Kc nin0
      have A_o53 := A_o53.keep Kc nin0
      have A_o237 := A_o237.keep Kc nin0
      have A_o52 := A_o52.keep Kc nin0
      have E_o276 := E_o276.keep Kc
      have F_o276_a := F_o276_a.keep Kc nin0
      have F_o276_k := F_o276_k.keep Kc nin0
      have A_bF := A_bF.keep Kc nin0
      refine rc (st' := [(.int y336)]) rfl ?_
      have a_0 : ¬ y336 = i0 := own_aty hvC hvZ hvmm MAIN.2.1 (MAIN.2.2 0) (own_B5 hvB hvB_6 hvB_10 hvB_14 hvB_18) (by rw [e_ix321]; rfl) D337
      refine s_if_eq 602 546 C X at_543 (fun c => absurd c a_0) (fun c543_338 => ?_)
      refine s_aload 548 C X at_546 rfl rfl ?_
      refine s_aload 550 C X at_548 rfl rfl ?_
      refine s_iload 552 C X at_550 rfl ?_
      refine s_iconst 553 C X at_552 kc_iconst_1 ?_
      obtain ⟨ix339, e_ix339⟩ : ∃ zz_ : Int32, zz_ = i1 := ⟨_, rfl⟩
      refine rc (st' := [(.int ix339), (.int mF_271), (.ref o237), (.ref o276)]) (by subst e_ix339; rfl) ?_
      have hvx_ix339 : own_X5 ix339 := by rw [e_ix339]; exact ⟨by decide, by decide⟩
      refine s_callS 556 [(.ref o276), (.ref o237), (.int mF_271), (.int ix339)] [] 0 C X at_553 (mW 119 rfl) (mW 120 rfl) (mW 2 rfl) (mW 121 rfl) (rm_a29 l Z a0 hw cs fm o237 k_o237 esF_270 mF_271 bF k_bF m277 o276 zsF ix339 _ n0 X.sz S_cs S_fm A_o237 E_o276 F_o276_a F_o276_k A_bF Od hv_cs hv_fm hvmm hvx_ix339) (lenOf pd__Ljava_lang_String__CII_Z rfl) rfl rfl rfl (fun T v hh X q => ?_)
      obtain ⟨y336_356, rfl, D337_357, Od, Kc⟩ := q
      have Rc := Rc.keep Kc so0
      have Kp := Kp.trans Kc all0
      have A_o32 := A_o32.keep Kc nin0
      have E_o46 := E_o46.keep Kc
      have F_o46_s := F_o46_s.keep Kc nin0
      have F_o46_g := F_o46_g.keep Kc nin0
      have F_o46_v := F_o46_v.keep Kc nin0
      have A_o51 := A_o51.keep Kc nin0
      have A_o53 := A_o53.keep Kc nin0
      have A_o237 := A_o237.keep Kc nin0
      have A_o52 := A_o52.keep Kc nin0
      have E_o276 := E_o276.keep Kc
      have F_o276_a := F_o276_a.keep Kc nin0
      have F_o276_k := F_o276_k.keep Kc nin0
      have A_bF := A_bF.keep Kc nin0
      refine rc (st' := [(.int y336_356)]) rfl ?_
      have a_1 : ¬ y336_356 = i0 := own_aty hvC hvZ hvmm MAIN.2.1 (MAIN.2.2 1) (own_B5 hvB hvB_6 hvB_10 hvB_14 hvB_18) (by rw [e_ix339]; rfl) D337_357
      refine s_if_eq 602 559 C X at_556 (fun c => absurd c a_1) (fun c556_358 => ?_)
      refine s_aload 561 C X at_559 rfl rfl ?_
      refine s_aload 563 C X at_561 rfl rfl ?_
      refine s_iload 565 C X at_563 rfl ?_
      refine s_iconst 566 C X at_565 kc_iconst_2 ?_
      obtain ⟨ix359, e_ix359⟩ : ∃ zz_ : Int32, zz_ = i2 := ⟨_, rfl⟩
      refine rc (st' := [(.int ix359), (.int mF_271), (.ref o237), (.ref o276)]) (by subst e_ix359; rfl) ?_
      have hvx_ix359 : own_X5 ix359 := by rw [e_ix359]; exact ⟨by decide, by decide⟩
      refine s_callS 569 [(.ref o276), (.ref o237), (.int mF_271), (.int ix359)] [] 0 C X at_566 (mW 119 rfl) (mW 120 rfl) (mW 2 rfl) (mW 121 rfl) (rm_a29 l Z a0 hw cs fm o237 k_o237 esF_270 mF_271 bF k_bF m277 o276 zsF ix359 _ n0 X.sz S_cs S_fm A_o237 E_o276 F_o276_a F_o276_k A_bF Od hv_cs hv_fm hvmm hvx_ix359) (lenOf pd__Ljava_lang_String__CII_Z rfl) rfl rfl rfl (fun T v hh X q => ?_)
      obtain ⟨y336_376, rfl, D337_377, Od, Kc⟩ := q
      have Rc := Rc.keep Kc so0
      have Kp := Kp.trans Kc all0
      have A_o32 := A_o32.keep Kc nin0
      have E_o46 := E_o46.keep Kc
      have F_o46_s := F_o46_s.keep Kc nin0
      have F_o46_g := F_o46_g.keep Kc nin0
      have F_o46_v := F_o46_v.keep Kc nin0
      have A_o51 := A_o51.keep Kc nin0
      have A_o53 := A_o53.keep Kc nin0
      have A_o237 := A_o237.keep Kc nin0
      have A_o52 := A_o52.keep Kc nin0
      have E_o276 := E_o276.keep Kc
      have F_o276_a := F_o276_a.keep Kc nin0
      have F_o276_k := F_o276_k.keep Kc nin0
      have A_bF := A_bF.keep Kc nin0
      refine rc (st' := [(.int y336_376)]) rfl ?_
      have a_2 : ¬ y336_376 = i0 := own_aty hvC hvZ hvmm MAIN.2.1 (MAIN.2.2 2) (own_B5 hvB hvB_6 hvB_10 hvB_14 hvB_18) (by rw [e_ix359]; rfl) D337_377
      refine s_if_eq 602 572 C X at_569 (fun c => absurd c a_2) (fun c569_378 => ?_)
      refine s_aload 574 C X at_572 rfl rfl ?_
      refine s_aload 576 C X at_574 rfl rfl ?_
      refine s_iload 578 C X at_576 rfl ?_
      refine s_iconst 579 C X at_578 kc_iconst_3 ?_
      obtain ⟨ix379, e_ix379⟩ : ∃ zz_ : Int32, zz_ = i3 := ⟨_, rfl⟩
      refine rc (st' := [(.int ix379), (.int mF_271), (.ref o237), (.ref o276)]) (by subst e_ix379; rfl) ?_
      have hvx_ix379 : own_X5 ix379 := by rw [e_ix379]; exact ⟨by decide, by decide⟩
      refine s_callS 582 [(.ref o276), (.ref o237), (.int mF_271), (.int ix379)] [] 0 C X at_579 (mW 119 rfl) (mW 120 rfl) (mW 2 rfl) (mW 121 rfl) (rm_a29 l Z a0 hw cs fm o237 k_o237 esF_270 mF_271 bF k_bF m277 o276 zsF ix379 _ n0 X.sz S_cs S_fm A_o237 E_o276 F_o276_a F_o276_k A_bF Od hv_cs hv_fm hvmm hvx_ix379) (lenOf pd__Ljava_lang_String__CII_Z rfl) rfl rfl rfl (fun T v hh X q => ?_)
      obtain ⟨y336_396, rfl, D337_397, Od, Kc⟩ := q
      have Rc := Rc.keep Kc so0
      have Kp := Kp.trans Kc all0
      have A_o32 := A_o32.keep Kc nin0
      have E_o46 := E_o46.keep Kc
      have F_o46_s := F_o46_s.keep Kc nin0
      have F_o46_g := F_o46_g.keep Kc nin0
      have F_o46_v := F_o46_v.keep Kc nin0
      have A_o51 := A_o51.keep Kc nin0
      have A_o53 := A_o53.keep Kc nin0
      have A_o237 := A_o237.keep Kc nin0
      have A_o52 := A_o52.keep Kc nin0
      have E_o276 := E_o276.keep Kc
      have F_o276_a := F_o276_a.keep Kc nin0
      have F_o276_k := F_o276_k.keep Kc nin0
      have A_bF := A_bF.keep Kc nin0
      refine rc (st' := [(.int y336_396)]) rfl ?_
      have a_3 : ¬ y336_396 = i0 := own_aty hvC hvZ hvmm MAIN.2.1 (MAIN.2.2 3) (own_B5 hvB hvB_6 hvB_10 hvB_14 hvB_18) (by rw [e_ix379]; rfl) D337_397
      refine s_if_eq 602 585 C X at_582 (fun c => absurd c a_3) (fun c582_398 => ?_)
      refine s_aload 587 C X at_585 rfl rfl ?_
      refine s_aload 589 C X at_587 rfl rfl ?_
      refine s_iload 591 C X at_589 rfl ?_
      refine s_iconst 592 C X at_591 kc_iconst_4 ?_
      obtain ⟨ix399, e_ix399⟩ : ∃ zz_ : Int32, zz_ = i4 := ⟨_, rfl⟩
      refine rc (st' := [(.int ix399), (.int mF_271), (.ref o237), (.ref o276)]) (by subst e_ix399; rfl) ?_
      have hvx_ix399 : own_X5 ix399 := by rw [e_ix399]; exact ⟨by decide, by decide⟩
      refine s_callS 595 [(.ref o276), (.ref o237), (.int mF_271), (.int ix399)] [] 0 C X at_592 (mW 119 rfl) (mW 120 rfl) (mW 2 rfl) (mW 121 rfl) (rm_a29 l Z a0 hw cs fm o237 k_o237 esF_270 mF_271 bF k_bF m277 o276 zsF ix399 _ n0 X.sz S_cs S_fm A_o237 E_o276 F_o276_a F_o276_k A_bF Od hv_cs hv_fm hvmm hvx_ix399) (lenOf pd__Ljava_lang_String__CII_Z rfl) rfl rfl rfl (fun T v hh X q => ?_)
      obtain ⟨y336_416, rfl, D337_417, Od, Kc⟩ := q
      have Rc := Rc.keep Kc so0
      have Kp := Kp.trans Kc all0
      have A_o32 := A_o32.keep Kc nin0
      have E_o46 := E_o46.keep Kc
      have F_o46_s := F_o46_s.keep Kc nin0
      have F_o46_g := F_o46_g.keep Kc nin0
      have F_o46_v := F_o46_v.keep Kc nin0
      have A_o51 := A_o51.keep Kc nin0
      have A_o53 := A_o53.keep Kc nin0
      have A_o52 := A_o52.keep Kc nin0
      refine rc (st' := [(.int y336_416)]) rfl ?_
      have a_4 : ¬ y336_416 = i0 := own_aty hvC hvZ hvmm MAIN.2.1 (MAIN.2.2 4) (own_B5 hvB hvB_6 hvB_10 hvB_14 hvB_18) (by rw [e_ix399]; rfl) D337_417
      refine s_if_eq 602 598 C X at_595 (fun c => absurd c a_4) (fun c595_418 => ?_)
      refine s_iconst 599 C X at_598 kc_iconst_1 ?_
      refine s_goto 603 C X at_599 ?_
      refine s_istore 605 C X (l' := #[iv x0, iv x1, iv x2, iv x3, iv yF, iv yF_5, iv yF_9, iv yF_13, iv yF_17, iv yF_21, iv yF_25, iv nv27, iv pr28, rv o29, rv o32, rv o46, iv i1, iv y174, iv y179, iv y184, iv y189, iv y194, iv y194, iv y199, iv y204, iv y209, iv y174, iv y216, iv y223, iv y230, iv y235, rv o237, iv mF_271, rv o276, iv i1]) at_603 rfl ?_
      refine s_iload 607 C X at_605 rfl ?_
      refine s_if_eq 643 610 C X at_607 (fun c => absurd c c162_55) (fun c607_419 => ?_)
      refine s_iload 612 C X at_610 rfl ?_
      refine s_if_eq 640 615 C X at_612 (fun c => absurd c (by decide)) (fun _ => ?_)
      refine s_aload 617 C X at_615 rfl rfl ?_
      refine s_iconst 618 C X at_617 kc_iconst_0 ?_
      refine s_hcallV 621 [(.int i0)] [] 0 C X hS Rc.2 (own_EL hw) Rc.1.1 at_618 (mW 68 rfl) (mW 69 rfl) (nF C (mW 71 rfl)) (mW 71 rfl) (mW 70 rfl) (mW 7 rfl) (mW 72 rfl) E_o46 (rm_a41 l Z a0 hw fm o46 k_o51 k_o52 k_o53 o51 o52 o53 tF xsF o276 _ n0 X.sz S_fm F_o46_s F_o46_g F_o46_v A_o51 A_o53 A_o52 Od hv_fm g_o52 ne_o46_o52 ne_o51_o52 ne_o52_o53 O_o52) (lenOf pd__I_Ljava_lang_String_ rfl) rfl rfl rfl so0 (fun T v hh vm k1 C X hS Nk Rn q => ?_)
      obtain ⟨b429, k_b429, o421, rfl, A_o52, Kc, Od, E_o421, F_o421_a, F_o421_k, A_b429, ne_o52_o421, sz_o421', g_o421, ne_o421_b429, ne_b429_o52⟩ := q
      have Rc := Rc.call Rn Nk
      have Kp := Kp.trans Kc (allS (Or.inr sz_o52) all0)
      have A_o32 := A_o32.keep Kc (ninS ne_o32_o52 nin0)
      refine rc (st' := [(.ref o421)]) rfl ?_
      refine s_new 624 C X at_621 (mW 143 rfl) (mW 33 rfl) (mW 32 rfl) (fun T hh o435 hb_o435 X E E_o435 D g_o435 => ?_)
      have H_o435 : Safe Z EL1 vm _ o435 := Safe.ext E Rc.1.1 (Safe.new (Nat.le_of_eq hb_o435))
      have Rc := Rc.ext E
      have sz_o435 : h0.size ≤ o435 := Nat.le_trans Kp.1 (Nat.le_of_eq hb_o435)
      have ne_o32_o435 : o32 ≠ o435 := Nat.ne_of_lt (Nat.lt_of_lt_of_le A_o32.lt (Nat.le_of_eq hb_o435))
      have ne_o421_o435 : o421 ≠ o435 := Nat.ne_of_lt (Nat.lt_of_lt_of_le E_o421.lt (Nat.le_of_eq hb_o435))
      have ne_b429_o435 : b429 ≠ o435 := Nat.ne_of_lt (Nat.lt_of_lt_of_le A_b429.lt (Nat.le_of_eq hb_o435))
      have Kp := Kp.ext E
      have A_o32 := A_o32.ext E
      have Od := Od.ext E
      have E_o421 := E_o421.ext E
      have F_o421_a := F_o421_a.ext E
      have F_o421_k := F_o421_k.ext E
      have A_b429 := A_b429.ext E
      have F_o435_a : Fld Z _ o435 cS "value" "[B" .null := D (Or.inr (hw _ (mW 35 rfl))) (ty := (.array .byte)) (by decide)
      have F_o435_k : Fld Z _ o435 cS "coder" "B" (.int i0) := D (Or.inr (hw _ (mW 36 rfl))) (ty := .byte) (by decide)
      refine s_dup 625 C X at_624 rfl ?_
      refine s_aload 627 C X at_625 rfl rfl ?_
      refine s_hcallC 630 [(.ref o32)] [(.ref o435), (.ref o421)] 2 C X hS Rc.2 (own_EL hw) Rc.1.1 at_627 rfl (mW 144 rfl) (mW 145 rfl) (mW 32 rfl) (mW 146 rfl) (rm_a42 l Z a0 hw o32 k_o32 o435 _ n0 X.sz A_o32 E_o435 F_o435_a F_o435_k ne_o32_o435 g_o435) (lenOf pd___C_V rfl) rfl rfl rfl (soS ⟨E_o435.lt, H_o435⟩ so0) (fun T v hh vm k1 C X hS Nk Rn q => ?_)
      obtain ⟨b429_442, k_b429_442, rfl, Kc, E_o435, F_o435_a, F_o435_k, A_b429_442, ne_o435_b429_442⟩ := q
      have Rc := Rc.call Rn Nk
      have Kp := Kp.trans Kc (allS (Or.inr sz_o435) all0)
      have Od := Od.keep Kc (allS g_o435 all0)
      have E_o421 := E_o421.keep Kc
      have F_o421_a := F_o421_a.keep Kc (ninS ne_o421_o435 nin0)
      have F_o421_k := F_o421_k.keep Kc (ninS ne_o421_o435 nin0)
      have A_b429 := A_b429.keep Kc (ninS ne_b429_o435 nin0)
      refine rc (st' := [(.ref o435), (.ref o421)]) rfl ?_
      refine s_callV 633 [(.ref o435)] [] 0 C X at_630 (mW 147 rfl) (mW 148 rfl) (nF C (mW 150 rfl)) (mW 150 rfl) (mW 149 rfl) (mW 32 rfl) (mW 151 rfl) E_o421 (rm_a44 l Z a0 hw cs b429 k_b429 o421 o435 b429_442 k_b429_442 _ n0 X.sz S_cs Od F_o421_a F_o421_k A_b429 E_o435 F_o435_a F_o435_k A_b429_442 hv_cs ne_o421_o435) (lenOf pd__Ljava_lang_Object__Z rfl) rfl rfl rfl (fun T v hh X q => ?_)
      obtain ⟨rfl, Od, Kc⟩ := q
      have Rc := Rc.keep Kc so0
      have Kp := Kp.trans Kc all0
      refine rc (st' := [(.int i1)]) rfl ?_
      refine s_if_eq 640 636 C X at_633 (fun c => absurd c (by decide)) (fun _ => ?_)
      refine s_iconst 637 C X at_636 kc_iconst_1 ?_
      refine s_goto 641 C X at_637 ?_
      refine s_istore 643 C X (l' := #[iv x0, iv x1, iv x2, iv x3, iv yF, iv yF_5, iv yF_9, iv yF_13, iv yF_17, iv yF_21, iv yF_25, iv nv27, iv pr28, rv o29, rv o32, rv o46, iv i1, iv y174, iv y179, iv y184, iv y189, iv y194, iv y194, iv y199, iv y204, iv y209, iv y174, iv y216, iv y223, iv y230, iv y235, rv o237, iv mF_271, rv o276, iv i1]) at_641 rfl ?_
      refine s_iload 645 C X at_643 rfl ?_
      refine s_if_eq 659 648 C X at_645 (fun c => absurd c (by decide)) (fun _ => ?_)
      refine s_iload 650 C X at_648 rfl ?_
      refine s_iload 652 C X at_650 rfl ?_
      refine s_icmp_ne 659 655 C X at_652 (fun c => absurd rfl c) (fun _ => ?_)
      refine s_iconst 656 C X at_655 kc_iconst_1 ?_
      refine s_goto 660 C X at_656 ?_
      refine s_nreturn C X at_660 rfl (by simp) rfl ?_ (FGH hG hS Rc C (own_EL hw))
      exact hQ _ _ rfl
    refine s_iconst 126 C X at_125 kc_iconst_2 ?_
    refine s_newarray 128 2 C X at_126 (mW 4 rfl) (by decide) (by decide) (fun T hh o457 k_o457 hb_o457 X E A_o457 g_o457 => ?_)
    have H_o457 : Safe Z EL1 vm _ o457 := Safe.ext E Rc.1.1 (Safe.new (Nat.le_of_eq hb_o457))
    have Rc := Rc.ext E
    have sz_o457 : h0.size ≤ o457 := Nat.le_trans Kp.1 (Nat.le_of_eq hb_o457)
    have ne_o29_o457 : o29 ≠ o457 := Nat.ne_of_lt (Nat.lt_of_lt_of_le A_o29.lt (Nat.le_of_eq hb_o457))
    have Od := Od.ext E
    have Kp := Kp.ext E
    have A_o29 := A_o29.ext E
    have A_o457 : Arv Z _ o457 k_o457 .char i2 [(.int i0), (.int i0)] (.int i0) := A_o457.pad (pad_rep [] _ 2)
    refine s_dup 129 C X at_128 rfl ?_
    refine s_iconst 130 C X at_129 kc_iconst_0 ?_
    refine s_iload 132 C X at_130 rfl ?_
    have Sf : Safe Z EL1 vm _ o457 := H_o457
    refine s_castore 133 0 C X at_132 A_o457 g_o457 ⟨by decide, by decide⟩ rfl (Nat.le_of_ble_eq_true rfl) (fun T hh X W A_o457 => ?_)
    have A_o457 : Arv Z _ o457 k_o457 .char i2 [(.int (nar .char yF_21)), (.int i0)] (.int i0) := A_o457
    have H_o457 := Safe.wr W Sf Rc.1.1 H_o457
    have Rc := Rc.wr W Sf
    have Od := Od.wr W g_o457
    have Kp := Kp.wr W (Or.inr sz_o457)
    have A_o29 := A_o29.other W ne_o29_o457
    rw [own_nc hvB_22] at A_o457
    refine s_dup 134 C X at_133 rfl ?_
    refine s_iconst 135 C X at_134 kc_iconst_1 ?_
    refine s_iload 137 C X at_135 rfl ?_
    have Sf : Safe Z EL1 vm _ o457 := H_o457
    refine s_castore 138 1 C X at_137 A_o457 g_o457 ⟨by decide, by decide⟩ rfl (Nat.le_of_ble_eq_true rfl) (fun T hh X W A_o457 => ?_)
    have A_o457 : Arv Z _ o457 k_o457 .char i2 [(.int yF_21), (.int (nar .char yF_25))] (.int i0) := A_o457
    have Rc := Rc.wr W Sf
    have Od := Od.wr W g_o457
    have Kp := Kp.wr W (Or.inr sz_o457)
    have A_o29 := A_o29.other W ne_o29_o457
    rw [own_nc hvB_26] at A_o457
    refine s_astore 140 C X (l' := #[iv x0, iv x1, iv x2, iv x3, iv yF, iv yF_5, iv yF_9, iv yF_13, iv yF_17, iv yF_21, iv yF_25, iv nv27, iv pr28, rv o29, rv o457, un, un, un, un, un, un, un, un, un, un, un, un, un, un, un, un, un, un, un, un]) at_138 rfl rfl ?_
    refine s_goto 148 C X at_140 ?_
    refine s_new 151 C X at_148 (mW 5 rfl) (mW 6 rfl) (mW 7 rfl) (fun T hh o46 hb_o46 X E E_o46 D g_o46 => ?_)
    have H_o46 : Safe Z EL1 vm _ o46 := Safe.ext E Rc.1.1 (Safe.new (Nat.le_of_eq hb_o46))
    have Rc := Rc.ext E
    have sz_o46 : h0.size ≤ o46 := Nat.le_trans Kp.1 (Nat.le_of_eq hb_o46)
    have ne_o29_o46 : o29 ≠ o46 := Nat.ne_of_lt (Nat.lt_of_lt_of_le A_o29.lt (Nat.le_of_eq hb_o46))
    have ne_o457_o46 : o457 ≠ o46 := Nat.ne_of_lt (Nat.lt_of_lt_of_le A_o457.lt (Nat.le_of_eq hb_o46))
    have Od := Od.ext E
    have Kp := Kp.ext E
    have A_o29 := A_o29.ext E
    have A_o457 := A_o457.ext E
    have F_o46_q : Fld Z _ o46 cE fq cG .null := D (Or.inl (hw _ (mW 17 rfl))) (ty := (.array (.object cS))) (by decide)
    have F_o46_u : Fld Z _ o46 cE fu cG .null := D (Or.inl (hw _ (mW 19 rfl))) (ty := (.array (.object cS))) (by decide)
    have F_o46_l : Fld Z _ o46 cE fl cG .null := D (Or.inl (hw _ (mW 21 rfl))) (ty := (.array (.object cS))) (by decide)
    have F_o46_c : Fld Z _ o46 cE fc "[I" .null := D (Or.inl (hw _ (mW 24 rfl))) (ty := (.array .int)) (by decide)
    have F_o46_s : Fld Z _ o46 cE fs "[I" .null := D (Or.inl (hw _ (mW 26 rfl))) (ty := (.array .int)) (by decide)
    have F_o46_g : Fld Z _ o46 cE fg cG .null := D (Or.inl (hw _ (mW 28 rfl))) (ty := (.array (.object cS))) (by decide)
    have F_o46_v : Fld Z _ o46 cE fv "[C" .null := D (Or.inl (hw _ (mW 30 rfl))) (ty := (.array .char)) (by decide)
    have F_o46_n : Fld Z _ o46 cE "length" "I" (.int i0) := D (Or.inl (hw _ (mW 45 rfl))) (ty := .int) (by decide)
    refine s_dup 152 C X at_151 rfl ?_
    have Sw_o46 : Safe Z EL1 vm _ o46 := H_o46
    refine s_callC 155 [] [(.ref o46)] 1 C X at_152 rfl (mW 8 rfl) (mW 9 rfl) (mW 7 rfl) (mW 10 rfl) (rm_a2 l Z a0 hw o46 _ n0 X.sz E_o46 F_o46_q F_o46_u F_o46_l F_o46_c F_o46_s F_o46_g F_o46_v F_o46_n g_o46) (lenOf pd___V rfl) rfl rfl rfl (fun T v hh X q => ?_)
    obtain ⟨k_o47, k_o48, k_o49, k_o50, k_o51, k_o52, k_o53, o47, o48, o49, o50, o51, o52, o53, rfl, E_o46, F_o46_q, F_o46_u, F_o46_l, F_o46_c, F_o46_s, F_o46_g, F_o46_v, F_o46_n, Kc, A_o47, A_o48, A_o49, A_o50, A_o51, A_o52, A_o53, ne_o46_o47, sz_o47', g_o47, ne_o46_o48, sz_o48', ne_o47_o48, g_o48, ne_o46_o49, sz_o49', ne_o47_o49, ne_o48_o49, g_o49, ne_o46_o50, sz_o50', ne_o47_o50, ne_o48_o50, ne_o49_o50, g_o50, ne_o46_o51, sz_o51', ne_o47_o51, ne_o48_o51, ne_o49_o51, ne_o50_o51, g_o51, ne_o46_o52, sz_o52', ne_o47_o52, ne_o48_o52, ne_o49_o52, ne_o50_o52, ne_o51_o52, g_o52, ne_o46_o53, sz_o53', ne_o47_o53, ne_o48_o53, ne_o49_o53, ne_o50_o53, ne_o51_o53, ne_o52_o53, g_o53, O_o47, O_o48, O_o49, O_o52⟩ := q
    have ne_o29_o47 : o29 ≠ o47 := Nat.ne_of_lt (Nat.lt_of_lt_of_le A_o29.lt sz_o47')
    have ne_o457_o47 : o457 ≠ o47 := Nat.ne_of_lt (Nat.lt_of_lt_of_le A_o457.lt sz_o47')
    have sz_o47 : h0.size ≤ o47 := Nat.le_trans Kp.1 sz_o47'
    have ne_o29_o48 : o29 ≠ o48 := Nat.ne_of_lt (Nat.lt_of_lt_of_le A_o29.lt sz_o48')
    have ne_o457_o48 : o457 ≠ o48 := Nat.ne_of_lt (Nat.lt_of_lt_of_le A_o457.lt sz_o48')
    have sz_o48 : h0.size ≤ o48 := Nat.le_trans Kp.1 sz_o48'
    have ne_o29_o49 : o29 ≠ o49 := Nat.ne_of_lt (Nat.lt_of_lt_of_le A_o29.lt sz_o49')
    have ne_o457_o49 : o457 ≠ o49 := Nat.ne_of_lt (Nat.lt_of_lt_of_le A_o457.lt sz_o49')
    have sz_o49 : h0.size ≤ o49 := Nat.le_trans Kp.1 sz_o49'
    have ne_o29_o50 : o29 ≠ o50 := Nat.ne_of_lt (Nat.lt_of_lt_of_le A_o29.lt sz_o50')
    have ne_o457_o50 : o457 ≠ o50 := Nat.ne_of_lt (Nat.lt_of_lt_of_le A_o457.lt sz_o50')
    have sz_o50 : h0.size ≤ o50 := Nat.le_trans Kp.1 sz_o50'
    have ne_o29_o51 : o29 ≠ o51 := Nat.ne_of_lt (Nat.lt_of_lt_of_le A_o29.lt sz_o51')
    have ne_o457_o51 : o457 ≠ o51 := Nat.ne_of_lt (Nat.lt_of_lt_of_le A_o457.lt sz_o51')
    have sz_o51 : h0.size ≤ o51 := Nat.le_trans Kp.1 sz_o51'
    have ne_o457_o52 : o457 ≠ o52 := Nat.ne_of_lt (Nat.lt_of_lt_of_le A_o457.lt sz_o52')
    have sz_o52 : h0.size ≤ o52 := Nat.le_trans Kp.1 sz_o52'
    have ne_o29_o53 : o29 ≠ o53 := Nat.ne_of_lt (Nat.lt_of_lt_of_le A_o29.lt sz_o53')
    have ne_o457_o53 : o457 ≠ o53 := Nat.ne_of_lt (Nat.lt_of_lt_of_le A_o457.lt sz_o53')
    have sz_o53 : h0.size ≤ o53 := Nat.le_trans Kp.1 sz_o53'
    have Hs : ∀ x ∈ [o46], Safe Z EL1 vm _ x := (soS Sw_o46 so0)
    have Rc := Rc.keep Kc Hs
    have Od := Od.keep Kc (allS g_o46 all0)
    have Kp := Kp.trans Kc (allS (Or.inr sz_o46) all0)
    have A_o29 := A_o29.keep Kc (ninS ne_o29_o46 nin0)
    have A_o457 := A_o457.keep Kc (ninS ne_o457_o46 nin0)
    refine rc (st' := [(.ref o46)]) rfl ?_
    refine s_astore 157 C X (l' := #[iv x0, iv x1, iv x2, iv x3, iv yF, iv yF_5, iv yF_9, iv yF_13, iv yF_17, iv yF_21, iv yF_25, iv nv27, iv pr28, rv o29, rv o457, rv o46, un, un, un, un, un, un, un, un, un, un, un, un, un, un, un, un, un, un, un]) at_155 rfl rfl ?_
    refine s_iconst 158 C X at_157 kc_iconst_0 ?_
    refine s_istore 160 C X (l' := #[iv x0, iv x1, iv x2, iv x3, iv yF, iv yF_5, iv yF_9, iv yF_13, iv yF_17, iv yF_21, iv yF_25, iv nv27, iv pr28, rv o29, rv o457, rv o46, iv i0, un, un, un, un, un, un, un, un, un, un, un, un, un, un, un, un, un, un]) at_158 rfl ?_
    refine s_iload 162 C X at_160 rfl ?_
    refine s_if_eq 187 165 C X at_162 (fun c => absurd (c.symm.trans c122_31) (by decide)) (fun c162_55 => ?_)
    refine s_aload 167 C X at_165 rfl rfl ?_
    refine s_ldcH 169 4 C X hS Rc.2 (own_EL hw) Rc.1.1 at_167 (mW 142 rfl) (own_wS hw) (vs := [(.int i112)]) (z := i1) (by decide) ⟨by decide, rfl⟩ (by decide) rfl (fun T hh t61 b62 k_b62 vm k1 C X E hS Nk Rn E_t61 F_t61_k F_t61_a A_b62 nS => ?_)
    have Rc := Rc.call Rn Nk
    have Od := Od.ext E
    have Kp := Kp.ext E
    have A_o29 := A_o29.ext E
    have A_o457 := A_o457.ext E
    have E_o46 := E_o46.ext E
    have F_o46_q := F_o46_q.ext E
    have F_o46_u := F_o46_u.ext E
    have F_o46_l := F_o46_l.ext E
    have F_o46_c := F_o46_c.ext E
    have F_o46_s := F_o46_s.ext E
    have F_o46_g := F_o46_g.ext E
    have F_o46_v := F_o46_v.ext E
    have F_o46_n := F_o46_n.ext E
    have A_o47 := A_o47.ext E
    have A_o48 := A_o48.ext E
    have A_o49 := A_o49.ext E
    have A_o50 := A_o50.ext E
    have A_o51 := A_o51.ext E
    have A_o52 := A_o52.ext E
    have A_o53 := A_o53.ext E
    refine s_iconst 170 C X at_169 kc_iconst_m1 ?_
    refine s_hcallV 173 [(.ref t61), (.int im1)] [] 0 C X hS Rc.2 (own_EL hw) Rc.1.1 at_170 (mW 39 rfl) (mW 40 rfl) (nF C (mW 42 rfl)) (mW 42 rfl) (mW 41 rfl) (mW 7 rfl) (mW 43 rfl) E_o46 (rm_a3 l Z a0 hw o46 k_o47 k_o48 k_o49 k_o50 k_o51 o47 o48 o49 o50 o51 o52 o53 t61 _ n0 X.sz E_o46 F_o46_q F_o46_u F_o46_l F_o46_c F_o46_s F_o46_g F_o46_v F_o46_n A_o47 A_o48 A_o49 A_o50 A_o51 E_t61 g_o46 g_o47 g_o48 g_o49 g_o50 g_o51 ne_o46_o47 ne_o46_o48 ne_o47_o48 ne_o46_o49 ne_o47_o49 ne_o48_o49 ne_o46_o50 ne_o47_o50 ne_o48_o50 ne_o49_o50 ne_o46_o51 ne_o47_o51 ne_o48_o51 ne_o49_o51 ne_o50_o51 O_o47 O_o48 O_o49) (lenOf pd__Ljava_lang_String_I_V rfl) rfl rfl rfl so0 (fun T v hh vm k1 C X hS Nk Rn q => ?_)
    obtain ⟨b65, k_b65, t64, rfl, E_o46, F_o46_q, F_o46_u, F_o46_l, F_o46_c, F_o46_s, F_o46_g, F_o46_v, F_o46_n, A_o47, A_o48, A_o49, A_o50, A_o51, Kc, E_t64, F_t64_k, F_t64_a, A_b65, ne_o46_t64, ne_o46_b65, ne_o47_t64, ne_o47_b65, ne_o48_t64, ne_o48_b65, ne_o49_t64, ne_o49_b65, ne_o50_t64, ne_o50_b65, ne_o51_t64, ne_o51_b65⟩ := q
    have Rc := Rc.call Rn Nk
    have Od := Od.keep Kc (allS g_o46 (allS g_o47 (allS g_o48 (allS g_o49 (allS g_o50 (allS g_o51 all0))))))
    have Kp := Kp.trans Kc (allS (Or.inr sz_o46) (allS (Or.inr sz_o47) (allS (Or.inr sz_o48) (allS (Or.inr sz_o49) (allS (Or.inr sz_o50) (allS (Or.inr sz_o51) all0))))))
    have A_o29 := A_o29.keep Kc (ninS ne_o29_o46 (ninS ne_o29_o47 (ninS ne_o29_o48 (ninS ne_o29_o49 (ninS ne_o29_o50 (ninS ne_o29_o51 nin0))))))
    have A_o457 := A_o457.keep Kc (ninS ne_o457_o46 (ninS ne_o457_o47 (ninS ne_o457_o48 (ninS ne_o457_o49 (ninS ne_o457_o50 (ninS ne_o457_o51 nin0))))))
    have A_o52 := A_o52.keep Kc (ninS (Ne.symm ne_o46_o52) (ninS (Ne.symm ne_o47_o52) (ninS (Ne.symm ne_o48_o52) (ninS (Ne.symm ne_o49_o52) (ninS (Ne.symm ne_o50_o52) (ninS (Ne.symm ne_o51_o52) nin0))))))
    have A_o53 := A_o53.keep Kc (ninS (Ne.symm ne_o46_o53) (ninS (Ne.symm ne_o47_o53) (ninS (Ne.symm ne_o48_o53) (ninS (Ne.symm ne_o49_o53) (ninS (Ne.symm ne_o50_o53) (ninS (Ne.symm ne_o51_o53) nin0))))))
    refine rc (st' := []) rfl ?_
    refine s_aload 175 C X at_173 rfl rfl ?_
    refine s_aload 177 C X at_175 rfl rfl ?_
    refine s_iconst 178 C X at_177 kc_iconst_0 ?_
    refine s_aload 180 C X at_178 rfl rfl ?_
    refine s_arraylength 181 C X at_180 A_o457 ?_
    have Sw_o51 : Safe Z EL1 vm _ o51 := (Safe.arv C.2.1.alike A_o51 (by decide))
    have Sw_o53 : Safe Z EL1 vm _ o53 := (Safe.arv C.2.1.alike A_o53 (by decide))
    refine s_callV 184 [(.ref o457), (.int i0), (.int i2)] [] 0 C X at_181 (mW 48 rfl) (mW 49 rfl) (nF C (mW 51 rfl)) (mW 51 rfl) (mW 50 rfl) (mW 7 rfl) (mW 52 rfl) E_o46 (rm_a45 l Z a0 hw yF_21 yF_25 o457 o46 k_o457 k_o51 k_o53 o51 o53 _ n0 X.sz A_o457 A_o53 F_o46_s F_o46_v F_o46_n A_o51 ne_o457_o51 g_o51 ne_o457_o53 g_o53 ne_o46_o51 ne_o46_o53 ne_o51_o53) (lenOf pd___CII_V rfl) rfl rfl rfl (fun T v hh X q => ?_)
    obtain ⟨rfl, A_o51, Kc, A_o53⟩ := q
    have Hs : ∀ x ∈ [o51, o53], Safe Z EL1 vm _ x := (soS Sw_o51 (soS Sw_o53 so0))
    have Rc := Rc.keep Kc Hs
    have nn_o46 : o46 ∉ [o51, o53] := (ninS ne_o46_o51 (ninS ne_o46_o53 nin0))
    have Od := Od.keep Kc (allS g_o51 (allS g_o53 all0))
    have Kp := Kp.trans Kc (allS (Or.inr sz_o51) (allS (Or.inr sz_o53) all0))
    have A_o29 := A_o29.keep Kc (ninS ne_o29_o51 (ninS ne_o29_o53 nin0))
    have A_o457 := A_o457.keep Kc (ninS ne_o457_o51 (ninS ne_o457_o53 nin0))
    have A_o52 := A_o52.keep Kc (ninS (Ne.symm ne_o51_o52) (ninS ne_o52_o53 nin0))
    have E_o46 := E_o46.keep Kc
    have F_o46_q := F_o46_q.keep Kc nn_o46
    have F_o46_u := F_o46_u.keep Kc nn_o46
    have F_o46_l := F_o46_l.keep Kc nn_o46
    have F_o46_c := F_o46_c.keep Kc nn_o46
    have F_o46_s := F_o46_s.keep Kc nn_o46
    have F_o46_g := F_o46_g.keep Kc nn_o46
    have F_o46_v := F_o46_v.keep Kc nn_o46
    have F_o46_n := F_o46_n.keep Kc nn_o46
    have A_o47 := A_o47.keep Kc (ninS ne_o47_o51 (ninS ne_o47_o53 nin0))
    have A_o48 := A_o48.keep Kc (ninS ne_o48_o51 (ninS ne_o48_o53 nin0))
    have A_o49 := A_o49.keep Kc (ninS ne_o49_o51 (ninS ne_o49_o53 nin0))
    have A_o50 := A_o50.keep Kc (ninS ne_o50_o51 (ninS ne_o50_o53 nin0))
    refine rc (st' := []) rfl ?_
    refine s_iconst 185 C X at_184 kc_iconst_1 ?_
    refine s_istore 187 C X (l' := #[iv x0, iv x1, iv x2, iv x3, iv yF, iv yF_5, iv yF_9, iv yF_13, iv yF_17, iv yF_21, iv yF_25, iv nv27, iv pr28, rv o29, rv o457, rv o46, iv i1, un, un, un, un, un, un, un, un, un, un, un, un, un, un, un, un, un, un]) at_185 rfl ?_
    refine s_aload 189 C X at_187 rfl rfl ?_
    refine s_ldcH 191 4 C X hS Rc.2 (own_EL hw) Rc.1.1 at_189 (mW 31 rfl) (own_wS hw) (vs := [(.int i113)]) (z := i1) (by decide) ⟨by decide, rfl⟩ (by decide) rfl (fun T hh t81 b82 k_b82 vm k1 C X E hS Nk Rn E_t81 F_t81_k F_t81_a A_b82 nS => ?_)
    have Rc := Rc.call Rn Nk
    have Od := Od.ext E
    have Kp := Kp.ext E
    have A_o29 := A_o29.ext E
    have A_o457 := A_o457.ext E
    have A_o52 := A_o52.ext E
    have E_o46 := E_o46.ext E
    have F_o46_q := F_o46_q.ext E
    have F_o46_u := F_o46_u.ext E
    have F_o46_l := F_o46_l.ext E
    have F_o46_c := F_o46_c.ext E
    have F_o46_s := F_o46_s.ext E
    have F_o46_g := F_o46_g.ext E
    have F_o46_v := F_o46_v.ext E
    have F_o46_n := F_o46_n.ext E
    have A_o47 := A_o47.ext E
    have A_o48 := A_o48.ext E
    have A_o49 := A_o49.ext E
    have A_o50 := A_o50.ext E
    have A_o51 := A_o51.ext E
    have A_o53 := A_o53.ext E
    refine s_iconst 192 C X at_191 kc_iconst_m1 ?_
    refine s_hcallV 195 [(.ref t81), (.int im1)] [] 0 C X hS Rc.2 (own_EL hw) Rc.1.1 at_192 (mW 39 rfl) (mW 40 rfl) (nF C (mW 42 rfl)) (mW 42 rfl) (mW 41 rfl) (mW 7 rfl) (mW 43 rfl) E_o46 (rm_a46 l Z a0 hw o46 k_o47 k_o48 k_o49 k_o50 k_o51 o47 o48 o49 o50 o51 o52 o53 t61 t64 t81 _ n0 X.sz E_o46 F_o46_q F_o46_u F_o46_l F_o46_c F_o46_s F_o46_g F_o46_v F_o46_n A_o47 A_o48 A_o49 A_o50 A_o51 E_t81 g_o46 g_o47 g_o48 g_o49 g_o50 g_o51 ne_o46_o47 ne_o46_o48 ne_o47_o48 ne_o46_o49 ne_o47_o49 ne_o48_o49 ne_o46_o50 ne_o47_o50 ne_o48_o50 ne_o49_o50 ne_o46_o51 ne_o47_o51 ne_o48_o51 ne_o49_o51 ne_o50_o51 O_o47 O_o48 O_o49) (lenOf pd__Ljava_lang_String_I_V rfl) rfl rfl rfl so0 (fun T v hh vm k1 C X hS Nk Rn q => ?_)
    obtain ⟨b85, k_b85, t84, rfl, E_o46, F_o46_q, F_o46_u, F_o46_l, F_o46_c, F_o46_s, F_o46_g, F_o46_v, F_o46_n, A_o47, A_o48, A_o49, A_o50, A_o51, Kc, E_t84, F_t84_k, F_t84_a, A_b85, ne_o46_t84, ne_o46_b85, ne_o47_t84, ne_o47_b85, ne_o48_t84, ne_o48_b85, ne_o49_t84, ne_o49_b85, ne_o50_t84, ne_o50_b85, ne_o51_t84, ne_o51_b85⟩ := q
    have Rc := Rc.call Rn Nk
    have Od := Od.keep Kc (allS g_o46 (allS g_o47 (allS g_o48 (allS g_o49 (allS g_o50 (allS g_o51 all0))))))
    have Kp := Kp.trans Kc (allS (Or.inr sz_o46) (allS (Or.inr sz_o47) (allS (Or.inr sz_o48) (allS (Or.inr sz_o49) (allS (Or.inr sz_o50) (allS (Or.inr sz_o51) all0))))))
    have A_o29 := A_o29.keep Kc (ninS ne_o29_o46 (ninS ne_o29_o47 (ninS ne_o29_o48 (ninS ne_o29_o49 (ninS ne_o29_o50 (ninS ne_o29_o51 nin0))))))
    have A_o457 := A_o457.keep Kc (ninS ne_o457_o46 (ninS ne_o457_o47 (ninS ne_o457_o48 (ninS ne_o457_o49 (ninS ne_o457_o50 (ninS ne_o457_o51 nin0))))))
    have A_o52 := A_o52.keep Kc (ninS (Ne.symm ne_o46_o52) (ninS (Ne.symm ne_o47_o52) (ninS (Ne.symm ne_o48_o52) (ninS (Ne.symm ne_o49_o52) (ninS (Ne.symm ne_o50_o52) (ninS (Ne.symm ne_o51_o52) nin0))))))
    have A_o53 := A_o53.keep Kc (ninS (Ne.symm ne_o46_o53) (ninS (Ne.symm ne_o47_o53) (ninS (Ne.symm ne_o48_o53) (ninS (Ne.symm ne_o49_o53) (ninS (Ne.symm ne_o50_o53) (ninS (Ne.symm ne_o51_o53) nin0))))))
    refine rc (st' := []) rfl ?_
    refine s_aload 197 C X at_195 rfl rfl ?_
    refine s_aload 199 C X at_197 rfl rfl ?_
    refine s_iconst 200 C X at_199 kc_iconst_0 ?_
    refine s_iload 202 C X at_200 rfl ?_
    have Sw_o51 : Safe Z EL1 vm _ o51 := (Safe.arv C.2.1.alike A_o51 (by decide))
    have Sw_o53 : Safe Z EL1 vm _ o53 := (Safe.arv C.2.1.alike A_o53 (by decide))
    refine s_callV 205 [(.ref o29), (.int i0), (.int nv27)] [] 0 C X at_202 (mW 48 rfl) (mW 49 rfl) (nF C (mW 51 rfl)) (mW 51 rfl) (mW 50 rfl) (mW 7 rfl) (mW 52 rfl) E_o46 (rm_a47 l Z a0 hw yF yF_5 yF_9 yF_13 yF_17 yF_21 yF_25 nv27 o29 o46 k_o29 k_o51 k_o53 o51 o53 _ n0 X.sz A_o29 A_o53 F_o46_s F_o46_v F_o46_n A_o51 hv_nv27 ne_o29_o51 g_o51 ne_o29_o53 g_o53 ne_o46_o51 ne_o46_o53 ne_o51_o53) (lenOf pd___CII_V rfl) rfl rfl rfl (fun T v hh X q => ?_)
    obtain ⟨rfl, A_o51, Kc, A_o53⟩ := q
    have Hs : ∀ x ∈ [o51, o53], Safe Z EL1 vm _ x := (soS Sw_o51 (soS Sw_o53 so0))
    have Rc := Rc.keep Kc Hs
    have nn_o46 : o46 ∉ [o51, o53] := (ninS ne_o46_o51 (ninS ne_o46_o53 nin0))
    have Od := Od.keep Kc (allS g_o51 (allS g_o53 all0))
    have Kp := Kp.trans Kc (allS (Or.inr sz_o51) (allS (Or.inr sz_o53) all0))
    have A_o457 := A_o457.keep Kc (ninS ne_o457_o51 (ninS ne_o457_o53 nin0))
    have A_o52 := A_o52.keep Kc (ninS (Ne.symm ne_o51_o52) (ninS ne_o52_o53 nin0))
    have E_o46 := E_o46.keep Kc
    have F_o46_s := F_o46_s.keep Kc nn_o46
    have F_o46_g := F_o46_g.keep Kc nn_o46
    have F_o46_v := F_o46_v.keep Kc nn_o46
    have F_o46_n := F_o46_n.keep Kc nn_o46
    refine rc (st' := []) rfl ?_
    refine s_aload 207 C X at_205 rfl rfl ?_
    have Sw_o51 : Safe Z EL1 vm _ o51 := (Safe.arv C.2.1.alike A_o51 (by decide))
    have Sw_o53 : Safe Z EL1 vm _ o53 := (Safe.arv C.2.1.alike A_o53 (by decide))
    refine s_callV 210 [] [] 0 C X at_207 (mW 57 rfl) (mW 58 rfl) (nF C (mW 60 rfl)) (mW 60 rfl) (mW 59 rfl) (mW 7 rfl) (mW 61 rfl) E_o46 (rm_a48 l Z a0 hw yF yF_5 yF_9 yF_13 yF_17 yF_21 yF_25 nv27 o46 k_o51 k_o53 o51 o53 _ n0 X.sz F_o46_s F_o46_v F_o46_n A_o51 A_o53 hvB hvB_6 hvB_10 hvB_14 hvB_18 hv_nv27 g_o51 g_o53 ne_o46_o51 ne_o46_o53 ne_o51_o53) (lenOf pd___V rfl) rfl rfl rfl (fun T v hh X q => ?_)
    obtain ⟨tF, xsF, rfl, hvC, A_o51, A_o53, Kc⟩ := q
    have Hs : ∀ x ∈ [o51, o53], Safe Z EL1 vm _ x := (soS Sw_o51 (soS Sw_o53 so0))
    have Rc := Rc.keep Kc Hs
    have nn_o46 : o46 ∉ [o51, o53] := (ninS ne_o46_o51 (ninS ne_o46_o53 nin0))
    have Od := Od.keep Kc (allS g_o51 (allS g_o53 all0))
    have Kp := Kp.trans Kc (allS (Or.inr sz_o51) (allS (Or.inr sz_o53) all0))
    have A_o457 := A_o457.keep Kc (ninS ne_o457_o51 (ninS ne_o457_o53 nin0))
    have A_o52 := A_o52.keep Kc (ninS (Ne.symm ne_o51_o52) (ninS ne_o52_o53 nin0))
    have E_o46 := E_o46.keep Kc
    have F_o46_s := F_o46_s.keep Kc nn_o46
    have F_o46_g := F_o46_g.keep Kc nn_o46
    have F_o46_v := F_o46_v.keep Kc nn_o46
    have F_o46_n := F_o46_n.keep Kc nn_o46
    refine rc (st' := []) rfl ?_
    refine s_iconst 211 C X at_210 kc_iconst_0 ?_
    refine s_iload 213 C X at_211 rfl ?_
    refine s_iload 215 C X at_213 rfl ?_
    refine s_callS 218 [(.int i0), (.int nv27), (.int yF)] [] 0 C X at_215 (mW 62 rfl) (mW 63 rfl) (mW 2 rfl) (mW 64 rfl) (rm_a6 l Z a0 hw yF nv27 _ n0 X.sz ) (lenOf pd__IIC_Z rfl) rfl rfl rfl (fun T v hh X q => ?_)
    obtain ⟨y174, rfl, D175, Kc⟩ := q
    have Rc := Rc.keep Kc so0
    have Od := Od.keep Kc all0
    have Kp := Kp.trans Kc all0
    have A_o457 := A_o457.keep Kc nin0
    have A_o52 := A_o52.keep Kc nin0
    have E_o46 := E_o46.keep Kc
    have F_o46_s := F_o46_s.keep Kc nin0
    have F_o46_g := F_o46_g.keep Kc nin0
    have F_o46_v := F_o46_v.keep Kc nin0
    have F_o46_n := F_o46_n.keep Kc nin0
    have A_o51 := A_o51.keep Kc nin0
    have A_o53 := A_o53.keep Kc nin0
    refine rc (st' := [(.int y174)]) rfl ?_
    refine s_istore 220 C X (l' := #[iv x0, iv x1, iv x2, iv x3, iv yF, iv yF_5, iv yF_9, iv yF_13, iv yF_17, iv yF_21, iv yF_25, iv nv27, iv pr28, rv o29, rv o457, rv o46, iv i1, iv y174, un, un, un, un, un, un, un, un, un, un, un, un, un, un, un, un, un]) at_218 rfl ?_
    refine s_iconst 221 C X at_220 kc_iconst_1 ?_
    refine s_iload 223 C X at_221 rfl ?_
    refine s_iload 225 C X at_223 rfl ?_
    refine s_callS 228 [(.int i1), (.int nv27), (.int yF_5)] [] 0 C X at_225 (mW 62 rfl) (mW 63 rfl) (mW 2 rfl) (mW 64 rfl) (rm_a7 l Z a0 hw yF_5 nv27 _ n0 X.sz ) (lenOf pd__IIC_Z rfl) rfl rfl rfl (fun T v hh X q => ?_)
    obtain ⟨y179, rfl, D180, Kc⟩ := q
    have Rc := Rc.keep Kc so0
    have Od := Od.keep Kc all0
    have Kp := Kp.trans Kc all0
    have A_o457 := A_o457.keep Kc nin0
    have A_o52 := A_o52.keep Kc nin0
    have E_o46 := E_o46.keep Kc
    have F_o46_s := F_o46_s.keep Kc nin0
    have F_o46_g := F_o46_g.keep Kc nin0
    have F_o46_v := F_o46_v.keep Kc nin0
    have F_o46_n := F_o46_n.keep Kc nin0
    have A_o51 := A_o51.keep Kc nin0
    have A_o53 := A_o53.keep Kc nin0
    refine rc (st' := [(.int y179)]) rfl ?_
    refine s_istore 230 C X (l' := #[iv x0, iv x1, iv x2, iv x3, iv yF, iv yF_5, iv yF_9, iv yF_13, iv yF_17, iv yF_21, iv yF_25, iv nv27, iv pr28, rv o29, rv o457, rv o46, iv i1, iv y174, iv y179, un, un, un, un, un, un, un, un, un, un, un, un, un, un, un, un]) at_228 rfl ?_
    refine s_iconst 231 C X at_230 kc_iconst_2 ?_
    refine s_iload 233 C X at_231 rfl ?_
    refine s_iload 235 C X at_233 rfl ?_
    refine s_callS 238 [(.int i2), (.int nv27), (.int yF_9)] [] 0 C X at_235 (mW 62 rfl) (mW 63 rfl) (mW 2 rfl) (mW 64 rfl) (rm_a8 l Z a0 hw yF_9 nv27 _ n0 X.sz ) (lenOf pd__IIC_Z rfl) rfl rfl rfl (fun T v hh X q => ?_)
    obtain ⟨y184, rfl, D185, Kc⟩ := q
    have Rc := Rc.keep Kc so0
    have Od := Od.keep Kc all0
    have Kp := Kp.trans Kc all0
    have A_o457 := A_o457.keep Kc nin0
    have A_o52 := A_o52.keep Kc nin0
    have E_o46 := E_o46.keep Kc
    have F_o46_s := F_o46_s.keep Kc nin0
    have F_o46_g := F_o46_g.keep Kc nin0
    have F_o46_v := F_o46_v.keep Kc nin0
    have F_o46_n := F_o46_n.keep Kc nin0
    have A_o51 := A_o51.keep Kc nin0
    have A_o53 := A_o53.keep Kc nin0
    refine rc (st' := [(.int y184)]) rfl ?_
    refine s_istore 240 C X (l' := #[iv x0, iv x1, iv x2, iv x3, iv yF, iv yF_5, iv yF_9, iv yF_13, iv yF_17, iv yF_21, iv yF_25, iv nv27, iv pr28, rv o29, rv o457, rv o46, iv i1, iv y174, iv y179, iv y184, un, un, un, un, un, un, un, un, un, un, un, un, un, un, un]) at_238 rfl ?_
    refine s_iconst 241 C X at_240 kc_iconst_3 ?_
    refine s_iload 243 C X at_241 rfl ?_
    refine s_iload 245 C X at_243 rfl ?_
    refine s_callS 248 [(.int i3), (.int nv27), (.int yF_13)] [] 0 C X at_245 (mW 62 rfl) (mW 63 rfl) (mW 2 rfl) (mW 64 rfl) (rm_a9 l Z a0 hw yF_13 nv27 _ n0 X.sz ) (lenOf pd__IIC_Z rfl) rfl rfl rfl (fun T v hh X q => ?_)
    obtain ⟨y189, rfl, D190, Kc⟩ := q
    have Rc := Rc.keep Kc so0
    have Od := Od.keep Kc all0
    have Kp := Kp.trans Kc all0
    have A_o457 := A_o457.keep Kc nin0
    have A_o52 := A_o52.keep Kc nin0
    have E_o46 := E_o46.keep Kc
    have F_o46_s := F_o46_s.keep Kc nin0
    have F_o46_g := F_o46_g.keep Kc nin0
    have F_o46_v := F_o46_v.keep Kc nin0
    have F_o46_n := F_o46_n.keep Kc nin0
    have A_o51 := A_o51.keep Kc nin0
    have A_o53 := A_o53.keep Kc nin0
    refine rc (st' := [(.int y189)]) rfl ?_
    refine s_istore 250 C X (l' := #[iv x0, iv x1, iv x2, iv x3, iv yF, iv yF_5, iv yF_9, iv yF_13, iv yF_17, iv yF_21, iv yF_25, iv nv27, iv pr28, rv o29, rv o457, rv o46, iv i1, iv y174, iv y179, iv y184, iv y189, un, un, un, un, un, un, un, un, un, un, un, un, un, un]) at_248 rfl ?_
    refine s_iconst 251 C X at_250 kc_iconst_4 ?_
    refine s_iload 253 C X at_251 rfl ?_
    refine s_iload 255 C X at_253 rfl ?_
    refine s_callS 258 [(.int i4), (.int nv27), (.int yF_17)] [] 0 C X at_255 (mW 62 rfl) (mW 63 rfl) (mW 2 rfl) (mW 64 rfl) (rm_a10 l Z a0 hw yF_17 nv27 _ n0 X.sz ) (lenOf pd__IIC_Z rfl) rfl rfl rfl (fun T v hh X q => ?_)
    obtain ⟨y194, rfl, D195, Kc⟩ := q
    have Rc := Rc.keep Kc so0
    have Od := Od.keep Kc all0
    have Kp := Kp.trans Kc all0
    have A_o457 := A_o457.keep Kc nin0
    have A_o52 := A_o52.keep Kc nin0
    have E_o46 := E_o46.keep Kc
    have F_o46_s := F_o46_s.keep Kc nin0
    have F_o46_g := F_o46_g.keep Kc nin0
    have F_o46_v := F_o46_v.keep Kc nin0
    have F_o46_n := F_o46_n.keep Kc nin0
    have A_o51 := A_o51.keep Kc nin0
    have A_o53 := A_o53.keep Kc nin0
    refine rc (st' := [(.int y194)]) rfl ?_
    refine s_istore 260 C X (l' := #[iv x0, iv x1, iv x2, iv x3, iv yF, iv yF_5, iv yF_9, iv yF_13, iv yF_17, iv yF_21, iv yF_25, iv nv27, iv pr28, rv o29, rv o457, rv o46, iv i1, iv y174, iv y179, iv y184, iv y189, iv y194, un, un, un, un, un, un, un, un, un, un, un, un, un]) at_258 rfl ?_
    refine s_iload 262 C X at_260 rfl ?_
    refine s_istore 264 C X (l' := #[iv x0, iv x1, iv x2, iv x3, iv yF, iv yF_5, iv yF_9, iv yF_13, iv yF_17, iv yF_21, iv yF_25, iv nv27, iv pr28, rv o29, rv o457, rv o46, iv i1, iv y174, iv y179, iv y184, iv y189, iv y194, iv y194, un, un, un, un, un, un, un, un, un, un, un, un]) at_262 rfl ?_
    refine s_iload 266 C X at_264 rfl ?_
    suffices J200 : ∀ (y199 : Int32) (D200 : ((¬ ((y189).toInt = (0 : Int))) ∧ y199 = i1) ∨ (((y189).toInt = (0 : Int)) ∧ ((y194).toInt = (0 : Int)) ∧ y199 = i0) ∨ (((y189).toInt = (0 : Int)) ∧ (¬ ((y194).toInt = (0 : Int))) ∧ y199 = i1)), Run p e below n0 Q' G' m T 279 #[iv x0, iv x1, iv x2, iv x3, iv yF, iv yF_5, iv yF_9, iv yF_13, iv yF_17, iv yF_21, iv yF_25, iv nv27, iv pr28, rv o29, rv o457, rv o46, iv i1, iv y174, iv y179, iv y184, iv y189, iv y194, iv y194, un, un, un, un, un, un, un, un, un, un, un, un] [(.int y199)] by
      refine s_if_ne 274 269 C X at_266 (fun c266_196 => ?_) (fun c266_196 => ?_)
      · have t_c266_196 := ine c266_196
        refine s_iconst 275 C X at_274 kc_iconst_1 ?_
        refine s_goto 279 C X at_275 ?_
        exact J200 (i1) ((Or.inl ⟨t_c266_196, rfl⟩))
      have t_c266_196 := ieq c266_196
      refine s_iload 271 C X at_269 rfl ?_
      refine s_if_eq 278 274 C X at_271 (fun c271_197 => ?_) (fun c271_197 => ?_)
      · have t_c271_197 := ieq c271_197
        refine s_iconst 279 C X at_278 kc_iconst_0 ?_
        exact J200 (i0) (Or.inr (Or.inl ⟨t_c266_196, t_c271_197, rfl⟩))
      have t_c271_197 := ine c271_197
      refine s_iconst 275 C X at_274 kc_iconst_1 ?_
      refine s_goto 279 C X at_275 ?_
      exact J200 (i1) (Or.inr (Or.inr ⟨t_c266_196, t_c271_197, rfl⟩))
    intro y199 D200
    refine s_istore 281 C X (l' := #[iv x0, iv x1, iv x2, iv x3, iv yF, iv yF_5, iv yF_9, iv yF_13, iv yF_17, iv yF_21, iv yF_25, iv nv27, iv pr28, rv o29, rv o457, rv o46, iv i1, iv y174, iv y179, iv y184, iv y189, iv y194, iv y194, iv y199, un, un, un, un, un, un, un, un, un, un, un]) at_279 rfl ?_
    refine s_iload 283 C X at_281 rfl ?_
    suffices J205 : ∀ (y204 : Int32) (D205 : ((¬ ((y184).toInt = (0 : Int))) ∧ y204 = i1) ∨ (((y184).toInt = (0 : Int)) ∧ ((y199).toInt = (0 : Int)) ∧ y204 = i0) ∨ (((y184).toInt = (0 : Int)) ∧ (¬ ((y199).toInt = (0 : Int))) ∧ y204 = i1)), Run p e below n0 Q' G' m T 296 #[iv x0, iv x1, iv x2, iv x3, iv yF, iv yF_5, iv yF_9, iv yF_13, iv yF_17, iv yF_21, iv yF_25, iv nv27, iv pr28, rv o29, rv o457, rv o46, iv i1, iv y174, iv y179, iv y184, iv y189, iv y194, iv y194, iv y199, un, un, un, un, un, un, un, un, un, un, un] [(.int y204)] by
      refine s_if_ne 291 286 C X at_283 (fun c283_201 => ?_) (fun c283_201 => ?_)
      · have t_c283_201 := ine c283_201
        refine s_iconst 292 C X at_291 kc_iconst_1 ?_
        refine s_goto 296 C X at_292 ?_
        exact J205 (i1) ((Or.inl ⟨t_c283_201, rfl⟩))
      have t_c283_201 := ieq c283_201
      refine s_iload 288 C X at_286 rfl ?_
      refine s_if_eq 295 291 C X at_288 (fun c288_202 => ?_) (fun c288_202 => ?_)
      · have t_c288_202 := ieq c288_202
        refine s_iconst 296 C X at_295 kc_iconst_0 ?_
        exact J205 (i0) (Or.inr (Or.inl ⟨t_c283_201, t_c288_202, rfl⟩))
      have t_c288_202 := ine c288_202
      refine s_iconst 292 C X at_291 kc_iconst_1 ?_
      refine s_goto 296 C X at_292 ?_
      exact J205 (i1) (Or.inr (Or.inr ⟨t_c283_201, t_c288_202, rfl⟩))
    intro y204 D205
    refine s_istore 298 C X (l' := #[iv x0, iv x1, iv x2, iv x3, iv yF, iv yF_5, iv yF_9, iv yF_13, iv yF_17, iv yF_21, iv yF_25, iv nv27, iv pr28, rv o29, rv o457, rv o46, iv i1, iv y174, iv y179, iv y184, iv y189, iv y194, iv y194, iv y199, iv y204, un, un, un, un, un, un, un, un, un, un]) at_296 rfl ?_
    refine s_iload 300 C X at_298 rfl ?_
    suffices J210 : ∀ (y209 : Int32) (D210 : ((¬ ((y179).toInt = (0 : Int))) ∧ y209 = i1) ∨ (((y179).toInt = (0 : Int)) ∧ ((y204).toInt = (0 : Int)) ∧ y209 = i0) ∨ (((y179).toInt = (0 : Int)) ∧ (¬ ((y204).toInt = (0 : Int))) ∧ y209 = i1)), Run p e below n0 Q' G' m T 313 #[iv x0, iv x1, iv x2, iv x3, iv yF, iv yF_5, iv yF_9, iv yF_13, iv yF_17, iv yF_21, iv yF_25, iv nv27, iv pr28, rv o29, rv o457, rv o46, iv i1, iv y174, iv y179, iv y184, iv y189, iv y194, iv y194, iv y199, iv y204, un, un, un, un, un, un, un, un, un, un] [(.int y209)] by
      refine s_if_ne 308 303 C X at_300 (fun c300_206 => ?_) (fun c300_206 => ?_)
      · have t_c300_206 := ine c300_206
        refine s_iconst 309 C X at_308 kc_iconst_1 ?_
        refine s_goto 313 C X at_309 ?_
        exact J210 (i1) ((Or.inl ⟨t_c300_206, rfl⟩))
      have t_c300_206 := ieq c300_206
      refine s_iload 305 C X at_303 rfl ?_
      refine s_if_eq 312 308 C X at_305 (fun c305_207 => ?_) (fun c305_207 => ?_)
      · have t_c305_207 := ieq c305_207
        refine s_iconst 313 C X at_312 kc_iconst_0 ?_
        exact J210 (i0) (Or.inr (Or.inl ⟨t_c300_206, t_c305_207, rfl⟩))
      have t_c305_207 := ine c305_207
      refine s_iconst 309 C X at_308 kc_iconst_1 ?_
      refine s_goto 313 C X at_309 ?_
      exact J210 (i1) (Or.inr (Or.inr ⟨t_c300_206, t_c305_207, rfl⟩))
    intro y209 D210
    refine s_istore 315 C X (l' := #[iv x0, iv x1, iv x2, iv x3, iv yF, iv yF_5, iv yF_9, iv yF_13, iv yF_17, iv yF_21, iv yF_25, iv nv27, iv pr28, rv o29, rv o457, rv o46, iv i1, iv y174, iv y179, iv y184, iv y189, iv y194, iv y194, iv y199, iv y204, iv y209, un, un, un, un, un, un, un, un, un]) at_313 rfl ?_
    refine s_iload 317 C X at_315 rfl ?_
    refine s_istore 319 C X (l' := #[iv x0, iv x1, iv x2, iv x3, iv yF, iv yF_5, iv yF_9, iv yF_13, iv yF_17, iv yF_21, iv yF_25, iv nv27, iv pr28, rv o29, rv o457, rv o46, iv i1, iv y174, iv y179, iv y184, iv y189, iv y194, iv y194, iv y199, iv y204, iv y209, iv y174, un, un, un, un, un, un, un, un]) at_317 rfl ?_
    refine s_iconst 320 C X at_319 kc_iconst_1 ?_
    refine s_iload 322 C X at_320 rfl ?_
    suffices J217 : ∀ (y216 : Int32) (D217 : ((¬ ((1 : Int) < (nv27).toInt)) ∧ y216 = i0) ∨ (((1 : Int) < (nv27).toInt) ∧ (¬ ((yF_5).toInt = (32 : Int))) ∧ y216 = i1) ∨ (((1 : Int) < (nv27).toInt) ∧ ((yF_5).toInt = (32 : Int)) ∧ ((y174).toInt = (0 : Int)) ∧ y216 = i0) ∨ (((1 : Int) < (nv27).toInt) ∧ ((yF_5).toInt = (32 : Int)) ∧ (¬ ((y174).toInt = (0 : Int))) ∧ ((y204).toInt = (0 : Int)) ∧ y216 = i0) ∨ (((1 : Int) < (nv27).toInt) ∧ ((yF_5).toInt = (32 : Int)) ∧ (¬ ((y174).toInt = (0 : Int))) ∧ (¬ ((y204).toInt = (0 : Int))) ∧ y216 = i1)), Run p e below n0 Q' G' m T 347 #[iv x0, iv x1, iv x2, iv x3, iv yF, iv yF_5, iv yF_9, iv yF_13, iv yF_17, iv yF_21, iv yF_25, iv nv27, iv pr28, rv o29, rv o457, rv o46, iv i1, iv y174, iv y179, iv y184, iv y189, iv y194, iv y194, iv y199, iv y204, iv y209, iv y174, un, un, un, un, un, un, un, un] [(.int y216)] by
      refine s_icmp_ge 346 325 C X at_322 (fun c322_211 => ?_) (fun c322_211 => ?_)
      · have t_c322_211 := inl c322_211
        refine s_iconst 347 C X at_346 kc_iconst_0 ?_
        exact J217 (i0) ((Or.inl ⟨t_c322_211, rfl⟩))
      have t_c322_211 := ilt c322_211
      refine s_iload 327 C X at_325 rfl ?_
      refine s_bipush 329 C X at_327 kc_bipush_32 ?_
      refine s_icmp_ne 342 332 C X at_329 (fun c329_212 => ?_) (fun c329_212 => ?_)
      · have t_c329_212 := ine c329_212
        refine s_iconst 343 C X at_342 kc_iconst_1 ?_
        refine s_goto 347 C X at_343 ?_
        exact J217 (i1) (Or.inr (Or.inl ⟨t_c322_211, t_c329_212, rfl⟩))
      have t_c329_212 := ieq c329_212
      refine s_iload 334 C X at_332 rfl ?_
      refine s_if_eq 346 337 C X at_334 (fun c334_213 => ?_) (fun c334_213 => ?_)
      · have t_c334_213 := ieq c334_213
        refine s_iconst 347 C X at_346 kc_iconst_0 ?_
        exact J217 (i0) (Or.inr (Or.inr (Or.inl ⟨t_c322_211, t_c329_212, t_c334_213, rfl⟩)))
      have t_c334_213 := ine c334_213
      refine s_iload 339 C X at_337 rfl ?_
      refine s_if_eq 346 342 C X at_339 (fun c339_214 => ?_) (fun c339_214 => ?_)
      · have t_c339_214 := ieq c339_214
        refine s_iconst 347 C X at_346 kc_iconst_0 ?_
        exact J217 (i0) (Or.inr (Or.inr (Or.inr (Or.inl ⟨t_c322_211, t_c329_212, t_c334_213, t_c339_214, rfl⟩))))
      have t_c339_214 := ine c339_214
      refine s_iconst 343 C X at_342 kc_iconst_1 ?_
      refine s_goto 347 C X at_343 ?_
      exact J217 (i1) (Or.inr (Or.inr (Or.inr (Or.inr ⟨t_c322_211, t_c329_212, t_c334_213, t_c339_214, rfl⟩))))
    intro y216 D217
    refine s_istore 349 C X (l' := #[iv x0, iv x1, iv x2, iv x3, iv yF, iv yF_5, iv yF_9, iv yF_13, iv yF_17, iv yF_21, iv yF_25, iv nv27, iv pr28, rv o29, rv o457, rv o46, iv i1, iv y174, iv y179, iv y184, iv y189, iv y194, iv y194, iv y199, iv y204, iv y209, iv y174, iv y216, un, un, un, un, un, un, un]) at_347 rfl ?_
    refine s_iconst 350 C X at_349 kc_iconst_2 ?_
    refine s_iload 352 C X at_350 rfl ?_
    suffices J224 : ∀ (y223 : Int32) (D224 : ((¬ ((2 : Int) < (nv27).toInt)) ∧ y223 = i0) ∨ (((2 : Int) < (nv27).toInt) ∧ (¬ ((yF_9).toInt = (32 : Int))) ∧ y223 = i1) ∨ (((2 : Int) < (nv27).toInt) ∧ ((yF_9).toInt = (32 : Int)) ∧ ((y179).toInt = (0 : Int)) ∧ y223 = i0) ∨ (((2 : Int) < (nv27).toInt) ∧ ((yF_9).toInt = (32 : Int)) ∧ (¬ ((y179).toInt = (0 : Int))) ∧ ((y199).toInt = (0 : Int)) ∧ y223 = i0) ∨ (((2 : Int) < (nv27).toInt) ∧ ((yF_9).toInt = (32 : Int)) ∧ (¬ ((y179).toInt = (0 : Int))) ∧ (¬ ((y199).toInt = (0 : Int))) ∧ y223 = i1)), Run p e below n0 Q' G' m T 377 #[iv x0, iv x1, iv x2, iv x3, iv yF, iv yF_5, iv yF_9, iv yF_13, iv yF_17, iv yF_21, iv yF_25, iv nv27, iv pr28, rv o29, rv o457, rv o46, iv i1, iv y174, iv y179, iv y184, iv y189, iv y194, iv y194, iv y199, iv y204, iv y209, iv y174, iv y216, un, un, un, un, un, un, un] [(.int y223)] by
      refine s_icmp_ge 376 355 C X at_352 (fun c352_218 => ?_) (fun c352_218 => ?_)
      · have t_c352_218 := inl c352_218
        refine s_iconst 377 C X at_376 kc_iconst_0 ?_
        exact J224 (i0) ((Or.inl ⟨t_c352_218, rfl⟩))
      have t_c352_218 := ilt c352_218
      refine s_iload 357 C X at_355 rfl ?_
      refine s_bipush 359 C X at_357 kc_bipush_32 ?_
      refine s_icmp_ne 372 362 C X at_359 (fun c359_219 => ?_) (fun c359_219 => ?_)
      · have t_c359_219 := ine c359_219
        refine s_iconst 373 C X at_372 kc_iconst_1 ?_
        refine s_goto 377 C X at_373 ?_
        exact J224 (i1) (Or.inr (Or.inl ⟨t_c352_218, t_c359_219, rfl⟩))
      have t_c359_219 := ieq c359_219
      refine s_iload 364 C X at_362 rfl ?_
      refine s_if_eq 376 367 C X at_364 (fun c364_220 => ?_) (fun c364_220 => ?_)
      · have t_c364_220 := ieq c364_220
        refine s_iconst 377 C X at_376 kc_iconst_0 ?_
        exact J224 (i0) (Or.inr (Or.inr (Or.inl ⟨t_c352_218, t_c359_219, t_c364_220, rfl⟩)))
      have t_c364_220 := ine c364_220
      refine s_iload 369 C X at_367 rfl ?_
      refine s_if_eq 376 372 C X at_369 (fun c369_221 => ?_) (fun c369_221 => ?_)
      · have t_c369_221 := ieq c369_221
        refine s_iconst 377 C X at_376 kc_iconst_0 ?_
        exact J224 (i0) (Or.inr (Or.inr (Or.inr (Or.inl ⟨t_c352_218, t_c359_219, t_c364_220, t_c369_221, rfl⟩))))
      have t_c369_221 := ine c369_221
      refine s_iconst 373 C X at_372 kc_iconst_1 ?_
      refine s_goto 377 C X at_373 ?_
      exact J224 (i1) (Or.inr (Or.inr (Or.inr (Or.inr ⟨t_c352_218, t_c359_219, t_c364_220, t_c369_221, rfl⟩))))
    intro y223 D224
    refine s_istore 379 C X (l' := #[iv x0, iv x1, iv x2, iv x3, iv yF, iv yF_5, iv yF_9, iv yF_13, iv yF_17, iv yF_21, iv yF_25, iv nv27, iv pr28, rv o29, rv o457, rv o46, iv i1, iv y174, iv y179, iv y184, iv y189, iv y194, iv y194, iv y199, iv y204, iv y209, iv y174, iv y216, iv y223, un, un, un, un, un, un]) at_377 rfl ?_
    refine s_iconst 380 C X at_379 kc_iconst_3 ?_
    refine s_iload 382 C X at_380 rfl ?_
    suffices J231 : ∀ (y230 : Int32) (D231 : ((¬ ((3 : Int) < (nv27).toInt)) ∧ y230 = i0) ∨ (((3 : Int) < (nv27).toInt) ∧ (¬ ((yF_13).toInt = (32 : Int))) ∧ y230 = i1) ∨ (((3 : Int) < (nv27).toInt) ∧ ((yF_13).toInt = (32 : Int)) ∧ ((y184).toInt = (0 : Int)) ∧ y230 = i0) ∨ (((3 : Int) < (nv27).toInt) ∧ ((yF_13).toInt = (32 : Int)) ∧ (¬ ((y184).toInt = (0 : Int))) ∧ ((y194).toInt = (0 : Int)) ∧ y230 = i0) ∨ (((3 : Int) < (nv27).toInt) ∧ ((yF_13).toInt = (32 : Int)) ∧ (¬ ((y184).toInt = (0 : Int))) ∧ (¬ ((y194).toInt = (0 : Int))) ∧ y230 = i1)), Run p e below n0 Q' G' m T 407 #[iv x0, iv x1, iv x2, iv x3, iv yF, iv yF_5, iv yF_9, iv yF_13, iv yF_17, iv yF_21, iv yF_25, iv nv27, iv pr28, rv o29, rv o457, rv o46, iv i1, iv y174, iv y179, iv y184, iv y189, iv y194, iv y194, iv y199, iv y204, iv y209, iv y174, iv y216, iv y223, un, un, un, un, un, un] [(.int y230)] by
      refine s_icmp_ge 406 385 C X at_382 (fun c382_225 => ?_) (fun c382_225 => ?_)
      · have t_c382_225 := inl c382_225
        refine s_iconst 407 C X at_406 kc_iconst_0 ?_
        exact J231 (i0) ((Or.inl ⟨t_c382_225, rfl⟩))
      have t_c382_225 := ilt c382_225
      refine s_iload 387 C X at_385 rfl ?_
      refine s_bipush 389 C X at_387 kc_bipush_32 ?_
      refine s_icmp_ne 402 392 C X at_389 (fun c389_226 => ?_) (fun c389_226 => ?_)
      · have t_c389_226 := ine c389_226
        refine s_iconst 403 C X at_402 kc_iconst_1 ?_
        refine s_goto 407 C X at_403 ?_
        exact J231 (i1) (Or.inr (Or.inl ⟨t_c382_225, t_c389_226, rfl⟩))
      have t_c389_226 := ieq c389_226
      refine s_iload 394 C X at_392 rfl ?_
      refine s_if_eq 406 397 C X at_394 (fun c394_227 => ?_) (fun c394_227 => ?_)
      · have t_c394_227 := ieq c394_227
        refine s_iconst 407 C X at_406 kc_iconst_0 ?_
        exact J231 (i0) (Or.inr (Or.inr (Or.inl ⟨t_c382_225, t_c389_226, t_c394_227, rfl⟩)))
      have t_c394_227 := ine c394_227
      refine s_iload 399 C X at_397 rfl ?_
      refine s_if_eq 406 402 C X at_399 (fun c399_228 => ?_) (fun c399_228 => ?_)
      · have t_c399_228 := ieq c399_228
        refine s_iconst 407 C X at_406 kc_iconst_0 ?_
        exact J231 (i0) (Or.inr (Or.inr (Or.inr (Or.inl ⟨t_c382_225, t_c389_226, t_c394_227, t_c399_228, rfl⟩))))
      have t_c399_228 := ine c399_228
      refine s_iconst 403 C X at_402 kc_iconst_1 ?_
      refine s_goto 407 C X at_403 ?_
      exact J231 (i1) (Or.inr (Or.inr (Or.inr (Or.inr ⟨t_c382_225, t_c389_226, t_c394_227, t_c399_228, rfl⟩))))
    intro y230 D231
    refine s_istore 409 C X (l' := #[iv x0, iv x1, iv x2, iv x3, iv yF, iv yF_5, iv yF_9, iv yF_13, iv yF_17, iv yF_21, iv yF_25, iv nv27, iv pr28, rv o29, rv o457, rv o46, iv i1, iv y174, iv y179, iv y184, iv y189, iv y194, iv y194, iv y199, iv y204, iv y209, iv y174, iv y216, iv y223, iv y230, un, un, un, un, un]) at_407 rfl ?_
    refine s_iconst 410 C X at_409 kc_iconst_4 ?_
    refine s_iload 412 C X at_410 rfl ?_
    suffices J236 : ∀ (y235 : Int32) (D236 : ((¬ ((4 : Int) < (nv27).toInt)) ∧ y235 = i0) ∨ (((4 : Int) < (nv27).toInt) ∧ ((yF_17).toInt = (32 : Int)) ∧ y235 = i0) ∨ (((4 : Int) < (nv27).toInt) ∧ (¬ ((yF_17).toInt = (32 : Int))) ∧ y235 = i1)), Run p e below n0 Q' G' m T 427 #[iv x0, iv x1, iv x2, iv x3, iv yF, iv yF_5, iv yF_9, iv yF_13, iv yF_17, iv yF_21, iv yF_25, iv nv27, iv pr28, rv o29, rv o457, rv o46, iv i1, iv y174, iv y179, iv y184, iv y189, iv y194, iv y194, iv y199, iv y204, iv y209, iv y174, iv y216, iv y223, iv y230, un, un, un, un, un] [(.int y235)] by
      refine s_icmp_ge 426 415 C X at_412 (fun c412_232 => ?_) (fun c412_232 => ?_)
      · have t_c412_232 := inl c412_232
        refine s_iconst 427 C X at_426 kc_iconst_0 ?_
        exact J236 (i0) ((Or.inl ⟨t_c412_232, rfl⟩))
      have t_c412_232 := ilt c412_232
      refine s_iload 417 C X at_415 rfl ?_
      refine s_bipush 419 C X at_417 kc_bipush_32 ?_
      refine s_icmp_eq 426 422 C X at_419 (fun c419_233 => ?_) (fun c419_233 => ?_)
      · have t_c419_233 := ieq c419_233
        refine s_iconst 427 C X at_426 kc_iconst_0 ?_
        exact J236 (i0) (Or.inr (Or.inl ⟨t_c412_232, t_c419_233, rfl⟩))
      have t_c419_233 := ine c419_233
      refine s_iconst 423 C X at_422 kc_iconst_1 ?_
      refine s_goto 427 C X at_423 ?_
      exact J236 (i1) (Or.inr (Or.inr ⟨t_c412_232, t_c419_233, rfl⟩))
    intro y235 D236
    refine s_istore 429 C X (l' := #[iv x0, iv x1, iv x2, iv x3, iv yF, iv yF_5, iv yF_9, iv yF_13, iv yF_17, iv yF_21, iv yF_25, iv nv27, iv pr28, rv o29, rv o457, rv o46, iv i1, iv y174, iv y179, iv y184, iv y189, iv y194, iv y194, iv y199, iv y204, iv y209, iv y174, iv y216, iv y223, iv y230, iv y235, un, un, un, un]) at_427 rfl ?_
    refine s_iconst 430 C X at_429 kc_iconst_5 ?_
    refine s_newarray 432 5 C X at_430 (mW 4 rfl) (by decide) (by decide) (fun T hh o237 k_o237 hb_o237 X E A_o237 g_o237 => ?_)
    have H_o237 : Safe Z EL1 vm _ o237 := Safe.ext E Rc.1.1 (Safe.new (Nat.le_of_eq hb_o237))
    have Rc := Rc.ext E
    have sz_o237 : h0.size ≤ o237 := Nat.le_trans Kp.1 (Nat.le_of_eq hb_o237)
    have ne_o457_o237 : o457 ≠ o237 := Nat.ne_of_lt (Nat.lt_of_lt_of_le A_o457.lt (Nat.le_of_eq hb_o237))
    have ne_o52_o237 : o52 ≠ o237 := Nat.ne_of_lt (Nat.lt_of_lt_of_le A_o52.lt (Nat.le_of_eq hb_o237))
    have ne_o46_o237 : o46 ≠ o237 := Nat.ne_of_lt (Nat.lt_of_lt_of_le E_o46.lt (Nat.le_of_eq hb_o237))
    have ne_o51_o237 : o51 ≠ o237 := Nat.ne_of_lt (Nat.lt_of_lt_of_le A_o51.lt (Nat.le_of_eq hb_o237))
    have ne_o53_o237 : o53 ≠ o237 := Nat.ne_of_lt (Nat.lt_of_lt_of_le A_o53.lt (Nat.le_of_eq hb_o237))
    have Od := Od.ext E
    have Kp := Kp.ext E
    have A_o457 := A_o457.ext E
    have A_o52 := A_o52.ext E
    have E_o46 := E_o46.ext E
    have F_o46_s := F_o46_s.ext E
    have F_o46_g := F_o46_g.ext E
    have F_o46_v := F_o46_v.ext E
    have F_o46_n := F_o46_n.ext E
    have A_o51 := A_o51.ext E
    have A_o53 := A_o53.ext E
    have A_o237 : Arv Z _ o237 k_o237 .char i5 [(.int i0), (.int i0), (.int i0), (.int i0), (.int i0)] (.int i0) := A_o237.pad (pad_rep [] _ 5)
    refine s_astore 434 C X (l' := #[iv x0, iv x1, iv x2, iv x3, iv yF, iv yF_5, iv yF_9, iv yF_13, iv yF_17, iv yF_21, iv yF_25, iv nv27, iv pr28, rv o29, rv o457, rv o46, iv i1, iv y174, iv y179, iv y184, iv y189, iv y194, iv y194, iv y199, iv y204, iv y209, iv y174, iv y216, iv y223, iv y230, iv y235, rv o237, un, un, un]) at_432 rfl rfl ?_
    refine s_iconst 435 C X at_434 kc_iconst_0 ?_
    refine s_istore 437 C X (l' := #[iv x0, iv x1, iv x2, iv x3, iv yF, iv yF_5, iv yF_9, iv yF_13, iv yF_17, iv yF_21, iv yF_25, iv nv27, iv pr28, rv o29, rv o457, rv o46, iv i1, iv y174, iv y179, iv y184, iv y189, iv y194, iv y194, iv y199, iv y204, iv y209, iv y174, iv y216, iv y223, iv y230, iv y235, rv o237, iv i0, un, un]) at_435 rfl ?_
    obtain ⟨es0, e_es0⟩ : ∃ z : List Int32, z = [0, 0, 0, 0, 0] := ⟨_, rfl⟩
    have A_o237 : Arv Z hh o237 k_o237 .char i5 (Y es0) (.int i0) := by rw [e_es0]; exact A_o237
    refine s_aload 439 C X at_437 rfl rfl ?_
    refine s_iload 441 C X at_439 rfl ?_
    refine s_iload 443 C X at_441 rfl ?_
    refine s_iload 445 C X at_443 rfl ?_
    obtain ⟨m0, e_m0⟩ : ∃ z : Int32, z = i0 := ⟨_, rfl⟩
    refine rc (st' := [(.int yF), (.int y174), (.int m0), (.ref o237)]) (by rw [e_m0]) ?_
    have hvq : own_Q 4 es0 m0 := by rw [e_es0, e_m0]; exact ⟨rfl, by decide, by decide⟩
    have hq0 : own_Q 0 es0 m0 := by rw [e_es0, e_m0]; exact ⟨rfl, by decide, by decide⟩
    have Sw_o237 : Safe Z EL1 vm _ o237 := H_o237
    refine s_callS 448 [(.ref o237), (.int m0), (.int y174), (.int yF)] [] 0 C X at_445 (mW 65 rfl) (mW 66 rfl) (mW 2 rfl) (mW 67 rfl) (rm_a11 l Z a0 hw yF y174 o237 es0 m0 k_o237 _ n0 X.sz A_o237 hvB g_o237 hvq) (lenOf pd___CIZC_I rfl) rfl rfl rfl (fun T v hh X q => ?_)
    obtain ⟨esF, mF, rfl, hvP, A_o237, Kc⟩ := q
    have Hs : ∀ x ∈ [o237], Safe Z EL1 vm _ x := (soS Sw_o237 so0)
    have H_o237 := Safe.keep Kc Hs Rc.1.1 H_o237
    have Rc := Rc.keep Kc Hs
    have Od := Od.keep Kc (allS g_o237 all0)
    have Kp := Kp.trans Kc (allS (Or.inr sz_o237) all0)
    have A_o457 := A_o457.keep Kc (ninS ne_o457_o237 nin0)
    have A_o52 := A_o52.keep Kc (ninS ne_o52_o237 nin0)
    have E_o46 := E_o46.keep Kc
    have F_o46_s := F_o46_s.keep Kc (ninS ne_o46_o237 nin0)
    have F_o46_g := F_o46_g.keep Kc (ninS ne_o46_o237 nin0)
    have F_o46_v := F_o46_v.keep Kc (ninS ne_o46_o237 nin0)
    have F_o46_n := F_o46_n.keep Kc (ninS ne_o46_o237 nin0)
    have A_o51 := A_o51.keep Kc (ninS ne_o51_o237 nin0)
    have A_o53 := A_o53.keep Kc (ninS ne_o53_o237 nin0)
    refine rc (st' := [(.int mF)]) rfl ?_
    have hq1 : own_Q 1 esF mF := own_q2 hq0 (by decide) hvP
    refine s_istore 450 C X (l' := #[iv x0, iv x1, iv x2, iv x3, iv yF, iv yF_5, iv yF_9, iv yF_13, iv yF_17, iv yF_21, iv yF_25, iv nv27, iv pr28, rv o29, rv o457, rv o46, iv i1, iv y174, iv y179, iv y184, iv y189, iv y194, iv y194, iv y199, iv y204, iv y209, iv y174, iv y216, iv y223, iv y230, iv y235, rv o237, iv mF, un, un]) at_448 rfl ?_
    refine s_aload 452 C X at_450 rfl rfl ?_
    refine s_iload 454 C X at_452 rfl ?_
    refine s_iload 456 C X at_454 rfl ?_
    refine s_iload 458 C X at_456 rfl ?_
    have hvq : own_Q 4 esF mF := own_q4 hq1 (by decide)
    have Sw_o237 : Safe Z EL1 vm _ o237 := H_o237
    refine s_callS 461 [(.ref o237), (.int mF), (.int y216), (.int yF_5)] [] 0 C X at_458 (mW 65 rfl) (mW 66 rfl) (mW 2 rfl) (mW 67 rfl) (rm_a11 l Z a0 hw yF_5 y216 o237 esF mF k_o237 _ n0 X.sz A_o237 hvB_6 g_o237 hvq) (lenOf pd___CIZC_I rfl) rfl rfl rfl (fun T v hh X q => ?_)
    obtain ⟨esF_253, mF_254, rfl, hvP_257, A_o237, Kc⟩ := q
    have Hs : ∀ x ∈ [o237], Safe Z EL1 vm _ x := (soS Sw_o237 so0)
    have H_o237 := Safe.keep Kc Hs Rc.1.1 H_o237
    have Rc := Rc.keep Kc Hs
    have Od := Od.keep Kc (allS g_o237 all0)
    have Kp := Kp.trans Kc (allS (Or.inr sz_o237) all0)
    have A_o457 := A_o457.keep Kc (ninS ne_o457_o237 nin0)
    have A_o52 := A_o52.keep Kc (ninS ne_o52_o237 nin0)
    have E_o46 := E_o46.keep Kc
    have F_o46_s := F_o46_s.keep Kc (ninS ne_o46_o237 nin0)
    have F_o46_g := F_o46_g.keep Kc (ninS ne_o46_o237 nin0)
    have F_o46_v := F_o46_v.keep Kc (ninS ne_o46_o237 nin0)
    have F_o46_n := F_o46_n.keep Kc (ninS ne_o46_o237 nin0)
    have A_o51 := A_o51.keep Kc (ninS ne_o51_o237 nin0)
    have A_o53 := A_o53.keep Kc (ninS ne_o53_o237 nin0)
    refine rc (st' := [(.int mF_254)]) rfl ?_
    have hq2 : own_Q 2 esF_253 mF_254 := own_q2 hq1 (by decide) hvP_257
    refine s_istore 463 C X (l' := #[iv x0, iv x1, iv x2, iv x3, iv yF, iv yF_5, iv yF_9, iv yF_13, iv yF_17, iv yF_21, iv yF_25, iv nv27, iv pr28, rv o29, rv o457, rv o46, iv i1, iv y174, iv y179, iv y184, iv y189, iv y194, iv y194, iv y199, iv y204, iv y209, iv y174, iv y216, iv y223, iv y230, iv y235, rv o237, iv mF_254, un, un]) at_461 rfl ?_
    refine s_aload 465 C X at_463 rfl rfl ?_
    refine s_iload 467 C X at_465 rfl ?_
    refine s_iload 469 C X at_467 rfl ?_
    refine s_iload 471 C X at_469 rfl ?_
    have hvq : own_Q 4 esF_253 mF_254 := own_q4 hq2 (by decide)
    have Sw_o237 : Safe Z EL1 vm _ o237 := H_o237
    refine s_callS 474 [(.ref o237), (.int mF_254), (.int y223), (.int yF_9)] [] 0 C X at_471 (mW 65 rfl) (mW 66 rfl) (mW 2 rfl) (mW 67 rfl) (rm_a11 l Z a0 hw yF_9 y223 o237 esF_253 mF_254 k_o237 _ n0 X.sz A_o237 hvB_10 g_o237 hvq) (lenOf pd___CIZC_I rfl) rfl rfl rfl (fun T v hh X q => ?_)
    obtain ⟨esF_260, mF_261, rfl, hvP_262, A_o237, Kc⟩ := q
    have Hs : ∀ x ∈ [o237], Safe Z EL1 vm _ x := (soS Sw_o237 so0)
    have H_o237 := Safe.keep Kc Hs Rc.1.1 H_o237
    have Rc := Rc.keep Kc Hs
    have Od := Od.keep Kc (allS g_o237 all0)
    have Kp := Kp.trans Kc (allS (Or.inr sz_o237) all0)
    have A_o457 := A_o457.keep Kc (ninS ne_o457_o237 nin0)
    have A_o52 := A_o52.keep Kc (ninS ne_o52_o237 nin0)
    have E_o46 := E_o46.keep Kc
    have F_o46_s := F_o46_s.keep Kc (ninS ne_o46_o237 nin0)
    have F_o46_g := F_o46_g.keep Kc (ninS ne_o46_o237 nin0)
    have F_o46_v := F_o46_v.keep Kc (ninS ne_o46_o237 nin0)
    have F_o46_n := F_o46_n.keep Kc (ninS ne_o46_o237 nin0)
    have A_o51 := A_o51.keep Kc (ninS ne_o51_o237 nin0)
    have A_o53 := A_o53.keep Kc (ninS ne_o53_o237 nin0)
    refine rc (st' := [(.int mF_261)]) rfl ?_
    have hq3 : own_Q 3 esF_260 mF_261 := own_q2 hq2 (by decide) hvP_262
    refine s_istore 476 C X (l' := #[iv x0, iv x1, iv x2, iv x3, iv yF, iv yF_5, iv yF_9, iv yF_13, iv yF_17, iv yF_21, iv yF_25, iv nv27, iv pr28, rv o29, rv o457, rv o46, iv i1, iv y174, iv y179, iv y184, iv y189, iv y194, iv y194, iv y199, iv y204, iv y209, iv y174, iv y216, iv y223, iv y230, iv y235, rv o237, iv mF_261, un, un]) at_474 rfl ?_
    refine s_aload 478 C X at_476 rfl rfl ?_
    refine s_iload 480 C X at_478 rfl ?_
    refine s_iload 482 C X at_480 rfl ?_
    refine s_iload 484 C X at_482 rfl ?_
    have hvq : own_Q 4 esF_260 mF_261 := own_q4 hq3 (by decide)
    have Sw_o237 : Safe Z EL1 vm _ o237 := H_o237
    refine s_callS 487 [(.ref o237), (.int mF_261), (.int y230), (.int yF_13)] [] 0 C X at_484 (mW 65 rfl) (mW 66 rfl) (mW 2 rfl) (mW 67 rfl) (rm_a11 l Z a0 hw yF_13 y230 o237 esF_260 mF_261 k_o237 _ n0 X.sz A_o237 hvB_14 g_o237 hvq) (lenOf pd___CIZC_I rfl) rfl rfl rfl (fun T v hh X q => ?_)
    obtain ⟨esF_265, mF_266, rfl, hvP_267, A_o237, Kc⟩ := q
    have Hs : ∀ x ∈ [o237], Safe Z EL1 vm _ x := (soS Sw_o237 so0)
    have H_o237 := Safe.keep Kc Hs Rc.1.1 H_o237
    have Rc := Rc.keep Kc Hs
    have Od := Od.keep Kc (allS g_o237 all0)
    have Kp := Kp.trans Kc (allS (Or.inr sz_o237) all0)
    have A_o457 := A_o457.keep Kc (ninS ne_o457_o237 nin0)
    have A_o52 := A_o52.keep Kc (ninS ne_o52_o237 nin0)
    have E_o46 := E_o46.keep Kc
    have F_o46_s := F_o46_s.keep Kc (ninS ne_o46_o237 nin0)
    have F_o46_g := F_o46_g.keep Kc (ninS ne_o46_o237 nin0)
    have F_o46_v := F_o46_v.keep Kc (ninS ne_o46_o237 nin0)
    have F_o46_n := F_o46_n.keep Kc (ninS ne_o46_o237 nin0)
    have A_o51 := A_o51.keep Kc (ninS ne_o51_o237 nin0)
    have A_o53 := A_o53.keep Kc (ninS ne_o53_o237 nin0)
    refine rc (st' := [(.int mF_266)]) rfl ?_
    have hq4 : own_Q 4 esF_265 mF_266 := own_q2 hq3 (by decide) hvP_267
    refine s_istore 489 C X (l' := #[iv x0, iv x1, iv x2, iv x3, iv yF, iv yF_5, iv yF_9, iv yF_13, iv yF_17, iv yF_21, iv yF_25, iv nv27, iv pr28, rv o29, rv o457, rv o46, iv i1, iv y174, iv y179, iv y184, iv y189, iv y194, iv y194, iv y199, iv y204, iv y209, iv y174, iv y216, iv y223, iv y230, iv y235, rv o237, iv mF_266, un, un]) at_487 rfl ?_
    refine s_aload 491 C X at_489 rfl rfl ?_
    refine s_iload 493 C X at_491 rfl ?_
    refine s_iload 495 C X at_493 rfl ?_
    refine s_iload 497 C X at_495 rfl ?_
    have hvq : own_Q 4 esF_265 mF_266 := own_q4 hq4 (by decide)
    have Sw_o237 : Safe Z EL1 vm _ o237 := H_o237
    refine s_callS 500 [(.ref o237), (.int mF_266), (.int y235), (.int yF_17)] [] 0 C X at_497 (mW 65 rfl) (mW 66 rfl) (mW 2 rfl) (mW 67 rfl) (rm_a11 l Z a0 hw yF_17 y235 o237 esF_265 mF_266 k_o237 _ n0 X.sz A_o237 hvB_18 g_o237 hvq) (lenOf pd___CIZC_I rfl) rfl rfl rfl (fun T v hh X q => ?_)
    obtain ⟨esF_270, mF_271, rfl, hvP_272, A_o237, Kc⟩ := q
    have Hs : ∀ x ∈ [o237], Safe Z EL1 vm _ x := (soS Sw_o237 so0)
    have Rc := Rc.keep Kc Hs
    have Od := Od.keep Kc (allS g_o237 all0)
    have Kp := Kp.trans Kc (allS (Or.inr sz_o237) all0)
    have A_o457 := A_o457.keep Kc (ninS ne_o457_o237 nin0)
    have A_o52 := A_o52.keep Kc (ninS ne_o52_o237 nin0)
    have E_o46 := E_o46.keep Kc
    have F_o46_s := F_o46_s.keep Kc (ninS ne_o46_o237 nin0)
    have F_o46_g := F_o46_g.keep Kc (ninS ne_o46_o237 nin0)
    have F_o46_v := F_o46_v.keep Kc (ninS ne_o46_o237 nin0)
    have F_o46_n := F_o46_n.keep Kc (ninS ne_o46_o237 nin0)
    have A_o51 := A_o51.keep Kc (ninS ne_o51_o237 nin0)
    have A_o53 := A_o53.keep Kc (ninS ne_o53_o237 nin0)
    refine rc (st' := [(.int mF_271)]) rfl ?_
    have hq5 : own_Q 5 esF_270 mF_271 := own_q2 hq4 (by decide) hvP_272
    refine s_istore 502 C X (l' := #[iv x0, iv x1, iv x2, iv x3, iv yF, iv yF_5, iv yF_9, iv yF_13, iv yF_17, iv yF_21, iv yF_25, iv nv27, iv pr28, rv o29, rv o457, rv o46, iv i1, iv y174, iv y179, iv y184, iv y189, iv y194, iv y194, iv y199, iv y204, iv y209, iv y174, iv y216, iv y223, iv y230, iv y235, rv o237, iv mF_271, un, un]) at_500 rfl ?_
    refine s_aload 504 C X at_502 rfl rfl ?_
    refine s_iload 506 C X at_504 rfl ?_
    refine s_hcallV 509 [(.int i1)] [] 0 C X hS Rc.2 (own_EL hw) Rc.1.1 at_506 (mW 68 rfl) (mW 69 rfl) (nF C (mW 71 rfl)) (mW 71 rfl) (mW 70 rfl) (mW 7 rfl) (mW 72 rfl) E_o46 (rm_a56 l Z a0 hw cs fm yF yF_5 yF_9 yF_13 yF_17 yF_21 yF_25 nv27 o46 k_o51 k_o52 k_o53 o51 o52 o53 tF xsF _ n0 X.sz Od S_cs S_fm A_o52 F_o46_s F_o46_g F_o46_v A_o51 A_o53 hv_cs hv_fm hvB hvB_6 hvB_10 hvB_14 hvB_18 g_o52 ne_o46_o52 ne_o51_o52 ne_o52_o53 O_o52 hvC) (lenOf pd__I_Ljava_lang_String_ rfl) rfl rfl rfl so0 (fun T v hh vm k1 C X hS Nk Rn q => ?_)
    obtain ⟨bF, k_bF, m277, o276, zsF, rfl, hvL, hvZ, A_o52, Kc, E_o276, F_o276_a, F_o276_k, Od, A_bF, ne_o52_o276, sz_o276', g_o276, ne_bF_o52⟩ := q
    have Rc := Rc.call Rn Nk
    have Kp := Kp.trans Kc (allS (Or.inr sz_o52) all0)
    have A_o457 := A_o457.keep Kc (ninS ne_o457_o52 nin0)
    have E_o46 := E_o46.keep Kc
    have F_o46_s := F_o46_s.keep Kc (ninS ne_o46_o52 nin0)
    have F_o46_g := F_o46_g.keep Kc (ninS ne_o46_o52 nin0)
    have F_o46_v := F_o46_v.keep Kc (ninS ne_o46_o52 nin0)
    have F_o46_n := F_o46_n.keep Kc (ninS ne_o46_o52 nin0)
    have A_o51 := A_o51.keep Kc (ninS ne_o51_o52 nin0)
    have A_o53 := A_o53.keep Kc (ninS (Ne.symm ne_o52_o53) nin0)
    have A_o237 := A_o237.keep Kc (ninS (Ne.symm ne_o52_o237) nin0)
    refine rc (st' := [(.ref o276)]) rfl ?_
    refine s_astore 511 C X (l' := #[iv x0, iv x1, iv x2, iv x3, iv yF, iv yF_5, iv yF_9, iv yF_13, iv yF_17, iv yF_21, iv yF_25, iv nv27, iv pr28, rv o29, rv o457, rv o46, iv i1, iv y174, iv y179, iv y184, iv y189, iv y194, iv y194, iv y199, iv y204, iv y209, iv y174, iv y216, iv y223, iv y230, iv y235, rv o237, iv mF_271, rv o276, un]) at_509 rfl rfl ?_
    refine s_aload 513 C X at_511 rfl rfl ?_
    refine s_callV 516 [] [] 0 C X at_513 (mW 104 rfl) (mW 105 rfl) (nF C (mW 107 rfl)) (mW 107 rfl) (mW 106 rfl) (mW 7 rfl) (mW 108 rfl) E_o46 (rm_a35 l Z a0 hw o46 _ n0 X.sz F_o46_n) (lenOf pd___I rfl) rfl rfl rfl (fun T v hh X q => ?_)
    obtain ⟨rfl, Kc⟩ := q
    have Rc := Rc.keep Kc so0
    have Kp := Kp.trans Kc all0
    have A_o457 := A_o457.keep Kc nin0
    have E_o46 := E_o46.keep Kc
    have F_o46_s := F_o46_s.keep Kc nin0
    have F_o46_g := F_o46_g.keep Kc nin0
    have F_o46_v := F_o46_v.keep Kc nin0
    have A_o51 := A_o51.keep Kc nin0
    have A_o53 := A_o53.keep Kc nin0
    have A_o237 := A_o237.keep Kc nin0
    have A_o52 := A_o52.keep Kc nin0
    have E_o276 := E_o276.keep Kc
    have F_o276_a := F_o276_a.keep Kc nin0
    have F_o276_k := F_o276_k.keep Kc nin0
    have Od := Od.keep Kc all0
    have A_bF := A_bF.keep Kc nin0
    refine rc (st' := [(.int i2)]) rfl ?_
    refine s_iload 518 C X at_516 rfl ?_
    refine s_iconst 519 C X at_518 kc_iconst_1 ?_
    refine s_iadd 520 C X at_519 ?_
    refine rc (st' := [(.int i2), (.int i2)]) (by rw [kf_7]) ?_
    refine s_icmp_ne 602 523 C X at_520 (fun c => absurd (by decide : i2 = i2) c) (fun _ => ?_)
    refine s_aload 525 C X at_523 rfl rfl ?_
    refine s_callV 528 [] [] 0 C X at_525 (mW 109 rfl) (mW 110 rfl) (nF C (mW 112 rfl)) (mW 112 rfl) (mW 111 rfl) (mW 32 rfl) (mW 113 rfl) E_o276 (rm_a23 l Z a0 hw cs bF k_bF m277 o276 zsF _ n0 X.sz S_cs E_o276 F_o276_a F_o276_k Od A_bF hv_cs) (lenOf pd___I rfl) rfl rfl rfl (fun T v hh X q => ?_)
    obtain ⟨rfl, Kc, Od⟩ := q
    have Rc := Rc.keep Kc so0
    have Kp := Kp.trans Kc all0
    have A_o457 := A_o457.keep Kc nin0
    have E_o46 := E_o46.keep Kc
    have F_o46_s := F_o46_s.keep Kc nin0
    have F_o46_g := F_o46_g.keep Kc nin0
    have F_o46_v := F_o46_v.keep Kc nin0
    have A_o51 := A_o51.keep Kc nin0
    have A_o53 := A_o53.keep Kc nin0
    have A_o237 := A_o237.keep Kc nin0
    have A_o52 := A_o52.keep Kc nin0
    have E_o276 := E_o276.keep Kc
    have F_o276_a := F_o276_a.keep Kc nin0
    have F_o276_k := F_o276_k.keep Kc nin0
    have A_bF := A_bF.keep Kc nin0
    refine rc (st' := [(.int m277)]) rfl ?_
    refine s_iload 530 C X at_528 rfl ?_
    have MAIN : m277 = mF_271 ∧ m277.toInt = (col [yF, yF_5, yF_9, yF_13, yF_17] nv27.toNatClampNeg).length ∧ ∀ k, k < (col [yF, yF_5, yF_9, yF_13, yF_17] nv27.toNatClampNeg).length → esF_270.getD k 0 = (col [yF, yF_5, yF_9, yF_13, yF_17] nv27.toNatClampNeg).getD k 0 := own_mn0 D175 D180 D185 D190 D195 D200 D205 D217 D224 D231 D236 hvP hvP_257 hvP_262 hvP_267 hvP_272 hvL hv_nv27 e_es0 e_m0
    have hvmm : m277 = mF_271 := MAIN.1
    refine s_icmp_ne 602 533 C X at_530 (fun c => absurd MAIN.1 c) (fun c530_313 => ?_)
    refine s_aload 535 C X at_533 rfl rfl ?_
    refine s_aload 537 C X at_535 rfl rfl ?_
    refine s_iload 539 C X at_537 rfl ?_
    refine s_iconst 540 C X at_539 kc_iconst_0 ?_
    obtain ⟨ix321, e_ix321⟩ : ∃ zz_ : Int32, zz_ = i0 := ⟨_, rfl⟩
    refine rc (st' := [(.int ix321), (.int mF_271), (.ref o237), (.ref o276)]) (by subst e_ix321; rfl) ?_
    have hvx_ix321 : own_X5 ix321 := by rw [e_ix321]; exact ⟨by decide, by decide⟩
    refine s_callS 543 [(.ref o276), (.ref o237), (.int mF_271), (.int ix321)] [] 0 C X at_540 (mW 119 rfl) (mW 120 rfl) (mW 2 rfl) (mW 121 rfl) (rm_a29 l Z a0 hw cs fm o237 k_o237 esF_270 mF_271 bF k_bF m277 o276 zsF ix321 _ n0 X.sz S_cs S_fm A_o237 E_o276 F_o276_a F_o276_k A_bF Od hv_cs hv_fm hvmm hvx_ix321) (lenOf pd__Ljava_lang_String__CII_Z rfl) rfl rfl rfl (fun T v hh X q => ?_)
    obtain ⟨y336, rfl, D337, Od, Kc⟩ := q
    have Rc := Rc.keep Kc so0
    have Kp := Kp.trans Kc all0
    have A_o457 := A_o457.keep Kc nin0
    have E_o46 := E_o46.keep Kc
    have F_o46_s := F_o46_s.keep Kc nin0
    have F_o46_g := F_o46_g.keep Kc nin0
    have F_o46_v := F_o46_v.keep Kc nin0
    have A_o51 := A_o51.keep Kc nin0
    have A_o53 := A_o53.keep Kc nin0
    have A_o237 := A_o237.keep Kc nin0
    have A_o52 := A_o52.keep Kc nin0
    have E_o276 := E_o276.keep Kc
    have F_o276_a := F_o276_a.keep Kc nin0
    have F_o276_k := F_o276_k.keep Kc nin0
    have A_bF := A_bF.keep Kc nin0
    refine rc (st' := [(.int y336)]) rfl ?_
    have a_0 : ¬ y336 = i0 := own_aty hvC hvZ hvmm MAIN.2.1 (MAIN.2.2 0) (own_B5 hvB hvB_6 hvB_10 hvB_14 hvB_18) (by rw [e_ix321]; rfl) D337
    refine s_if_eq 602 546 C X at_543 (fun c => absurd c a_0) (fun c543_338 => ?_)
    refine s_aload 548 C X at_546 rfl rfl ?_
    refine s_aload 550 C X at_548 rfl rfl ?_
    refine s_iload 552 C X at_550 rfl ?_
    refine s_iconst 553 C X at_552 kc_iconst_1 ?_
    obtain ⟨ix339, e_ix339⟩ : ∃ zz_ : Int32, zz_ = i1 := ⟨_, rfl⟩
    refine rc (st' := [(.int ix339), (.int mF_271), (.ref o237), (.ref o276)]) (by subst e_ix339; rfl) ?_
    have hvx_ix339 : own_X5 ix339 := by rw [e_ix339]; exact ⟨by decide, by decide⟩
    refine s_callS 556 [(.ref o276), (.ref o237), (.int mF_271), (.int ix339)] [] 0 C X at_553 (mW 119 rfl) (mW 120 rfl) (mW 2 rfl) (mW 121 rfl) (rm_a29 l Z a0 hw cs fm o237 k_o237 esF_270 mF_271 bF k_bF m277 o276 zsF ix339 _ n0 X.sz S_cs S_fm A_o237 E_o276 F_o276_a F_o276_k A_bF Od hv_cs hv_fm hvmm hvx_ix339) (lenOf pd__Ljava_lang_String__CII_Z rfl) rfl rfl rfl (fun T v hh X q => ?_)
    obtain ⟨y336_356, rfl, D337_357, Od, Kc⟩ := q
    have Rc := Rc.keep Kc so0
    have Kp := Kp.trans Kc all0
    have A_o457 := A_o457.keep Kc nin0
    have E_o46 := E_o46.keep Kc
    have F_o46_s := F_o46_s.keep Kc nin0
    have F_o46_g := F_o46_g.keep Kc nin0
    have F_o46_v := F_o46_v.keep Kc nin0
    have A_o51 := A_o51.keep Kc nin0
    have A_o53 := A_o53.keep Kc nin0
    have A_o237 := A_o237.keep Kc nin0
    have A_o52 := A_o52.keep Kc nin0
    have E_o276 := E_o276.keep Kc
    have F_o276_a := F_o276_a.keep Kc nin0
    have F_o276_k := F_o276_k.keep Kc nin0
    have A_bF := A_bF.keep Kc nin0
    refine rc (st' := [(.int y336_356)]) rfl ?_
    have a_1 : ¬ y336_356 = i0 := own_aty hvC hvZ hvmm MAIN.2.1 (MAIN.2.2 1) (own_B5 hvB hvB_6 hvB_10 hvB_14 hvB_18) (by rw [e_ix339]; rfl) D337_357
    refine s_if_eq 602 559 C X at_556 (fun c => absurd c a_1) (fun c556_358 => ?_)
    refine s_aload 561 C X at_559 rfl rfl ?_
    refine s_aload 563 C X at_561 rfl rfl ?_
    refine s_iload 565 C X at_563 rfl ?_
    refine s_iconst 566 C X at_565 kc_iconst_2 ?_
    obtain ⟨ix359, e_ix359⟩ : ∃ zz_ : Int32, zz_ = i2 := ⟨_, rfl⟩
    refine rc (st' := [(.int ix359), (.int mF_271), (.ref o237), (.ref o276)]) (by subst e_ix359; rfl) ?_
    have hvx_ix359 : own_X5 ix359 := by rw [e_ix359]; exact ⟨by decide, by decide⟩
    refine s_callS 569 [(.ref o276), (.ref o237), (.int mF_271), (.int ix359)] [] 0 C X at_566 (mW 119 rfl) (mW 120 rfl) (mW 2 rfl) (mW 121 rfl) (rm_a29 l Z a0 hw cs fm o237 k_o237 esF_270 mF_271 bF k_bF m277 o276 zsF ix359 _ n0 X.sz S_cs S_fm A_o237 E_o276 F_o276_a F_o276_k A_bF Od hv_cs hv_fm hvmm hvx_ix359) (lenOf pd__Ljava_lang_String__CII_Z rfl) rfl rfl rfl (fun T v hh X q => ?_)
    obtain ⟨y336_376, rfl, D337_377, Od, Kc⟩ := q
    have Rc := Rc.keep Kc so0
    have Kp := Kp.trans Kc all0
    have A_o457 := A_o457.keep Kc nin0
    have E_o46 := E_o46.keep Kc
    have F_o46_s := F_o46_s.keep Kc nin0
    have F_o46_g := F_o46_g.keep Kc nin0
    have F_o46_v := F_o46_v.keep Kc nin0
    have A_o51 := A_o51.keep Kc nin0
    have A_o53 := A_o53.keep Kc nin0
    have A_o237 := A_o237.keep Kc nin0
    have A_o52 := A_o52.keep Kc nin0
    have E_o276 := E_o276.keep Kc
    have F_o276_a := F_o276_a.keep Kc nin0
    have F_o276_k := F_o276_k.keep Kc nin0
    have A_bF := A_bF.keep Kc nin0
    refine rc (st' := [(.int y336_376)]) rfl ?_
    have a_2 : ¬ y336_376 = i0 := own_aty hvC hvZ hvmm MAIN.2.1 (MAIN.2.2 2) (own_B5 hvB hvB_6 hvB_10 hvB_14 hvB_18) (by rw [e_ix359]; rfl) D337_377
    refine s_if_eq 602 572 C X at_569 (fun c => absurd c a_2) (fun c569_378 => ?_)
    refine s_aload 574 C X at_572 rfl rfl ?_
    refine s_aload 576 C X at_574 rfl rfl ?_
    refine s_iload 578 C X at_576 rfl ?_
    refine s_iconst 579 C X at_578 kc_iconst_3 ?_
    obtain ⟨ix379, e_ix379⟩ : ∃ zz_ : Int32, zz_ = i3 := ⟨_, rfl⟩
    refine rc (st' := [(.int ix379), (.int mF_271), (.ref o237), (.ref o276)]) (by subst e_ix379; rfl) ?_
    have hvx_ix379 : own_X5 ix379 := by rw [e_ix379]; exact ⟨by decide, by decide⟩
    refine s_callS 582 [(.ref o276), (.ref o237), (.int mF_271), (.int ix379)] [] 0 C X at_579 (mW 119 rfl) (mW 120 rfl) (mW 2 rfl) (mW 121 rfl) (rm_a29 l Z a0 hw cs fm o237 k_o237 esF_270 mF_271 bF k_bF m277 o276 zsF ix379 _ n0 X.sz S_cs S_fm A_o237 E_o276 F_o276_a F_o276_k A_bF Od hv_cs hv_fm hvmm hvx_ix379) (lenOf pd__Ljava_lang_String__CII_Z rfl) rfl rfl rfl (fun T v hh X q => ?_)
    obtain ⟨y336_396, rfl, D337_397, Od, Kc⟩ := q
    have Rc := Rc.keep Kc so0
    have Kp := Kp.trans Kc all0
    have A_o457 := A_o457.keep Kc nin0
    have E_o46 := E_o46.keep Kc
    have F_o46_s := F_o46_s.keep Kc nin0
    have F_o46_g := F_o46_g.keep Kc nin0
    have F_o46_v := F_o46_v.keep Kc nin0
    have A_o51 := A_o51.keep Kc nin0
    have A_o53 := A_o53.keep Kc nin0
    have A_o237 := A_o237.keep Kc nin0
    have A_o52 := A_o52.keep Kc nin0
    have E_o276 := E_o276.keep Kc
    have F_o276_a := F_o276_a.keep Kc nin0
    have F_o276_k := F_o276_k.keep Kc nin0
    have A_bF := A_bF.keep Kc nin0
    refine rc (st' := [(.int y336_396)]) rfl ?_
    have a_3 : ¬ y336_396 = i0 := own_aty hvC hvZ hvmm MAIN.2.1 (MAIN.2.2 3) (own_B5 hvB hvB_6 hvB_10 hvB_14 hvB_18) (by rw [e_ix379]; rfl) D337_397
    refine s_if_eq 602 585 C X at_582 (fun c => absurd c a_3) (fun c582_398 => ?_)
    refine s_aload 587 C X at_585 rfl rfl ?_
    refine s_aload 589 C X at_587 rfl rfl ?_
    refine s_iload 591 C X at_589 rfl ?_
    refine s_iconst 592 C X at_591 kc_iconst_4 ?_
    obtain ⟨ix399, e_ix399⟩ : ∃ zz_ : Int32, zz_ = i4 := ⟨_, rfl⟩
    refine rc (st' := [(.int ix399), (.int mF_271), (.ref o237), (.ref o276)]) (by subst e_ix399; rfl) ?_
    have hvx_ix399 : own_X5 ix399 := by rw [e_ix399]; exact ⟨by decide, by decide⟩
    refine s_callS 595 [(.ref o276), (.ref o237), (.int mF_271), (.int ix399)] [] 0 C X at_592 (mW 119 rfl) (mW 120 rfl) (mW 2 rfl) (mW 121 rfl) (rm_a29 l Z a0 hw cs fm o237 k_o237 esF_270 mF_271 bF k_bF m277 o276 zsF ix399 _ n0 X.sz S_cs S_fm A_o237 E_o276 F_o276_a F_o276_k A_bF Od hv_cs hv_fm hvmm hvx_ix399) (lenOf pd__Ljava_lang_String__CII_Z rfl) rfl rfl rfl (fun T v hh X q => ?_)
    obtain ⟨y336_416, rfl, D337_417, Od, Kc⟩ := q
    have Rc := Rc.keep Kc so0
    have Kp := Kp.trans Kc all0
    have A_o457 := A_o457.keep Kc nin0
    have E_o46 := E_o46.keep Kc
    have F_o46_s := F_o46_s.keep Kc nin0
    have F_o46_g := F_o46_g.keep Kc nin0
    have F_o46_v := F_o46_v.keep Kc nin0
    have A_o51 := A_o51.keep Kc nin0
    have A_o53 := A_o53.keep Kc nin0
    have A_o52 := A_o52.keep Kc nin0
    refine rc (st' := [(.int y336_416)]) rfl ?_
    have a_4 : ¬ y336_416 = i0 := own_aty hvC hvZ hvmm MAIN.2.1 (MAIN.2.2 4) (own_B5 hvB hvB_6 hvB_10 hvB_14 hvB_18) (by rw [e_ix399]; rfl) D337_417
    refine s_if_eq 602 598 C X at_595 (fun c => absurd c a_4) (fun c595_418 => ?_)
    refine s_iconst 599 C X at_598 kc_iconst_1 ?_
    refine s_goto 603 C X at_599 ?_
    refine s_istore 605 C X (l' := #[iv x0, iv x1, iv x2, iv x3, iv yF, iv yF_5, iv yF_9, iv yF_13, iv yF_17, iv yF_21, iv yF_25, iv nv27, iv pr28, rv o29, rv o457, rv o46, iv i1, iv y174, iv y179, iv y184, iv y189, iv y194, iv y194, iv y199, iv y204, iv y209, iv y174, iv y216, iv y223, iv y230, iv y235, rv o237, iv mF_271, rv o276, iv i1]) at_603 rfl ?_
    refine s_iload 607 C X at_605 rfl ?_
    refine s_if_eq 643 610 C X at_607 (fun c => absurd (c.symm.trans c122_31) (by decide)) (fun c607_419 => ?_)
    refine s_iload 612 C X at_610 rfl ?_
    refine s_if_eq 640 615 C X at_612 (fun c => absurd c (by decide)) (fun _ => ?_)
    have hvl0 : (Y xsF).getD (i0).toNatClampNeg (.int 0) = .int yF_21 := own_pl hvC (k := 0) (by decide) rfl rfl
    have hvl1 : (Y xsF).getD (i1).toNatClampNeg (.int 0) = .int yF_25 := own_pl hvC (k := 1) (by decide) rfl rfl
    refine s_aload 617 C X at_615 rfl rfl ?_
    refine s_iconst 618 C X at_617 kc_iconst_0 ?_
    refine s_hcallV 621 [(.int i0)] [] 0 C X hS Rc.2 (own_EL hw) Rc.1.1 at_618 (mW 68 rfl) (mW 69 rfl) (nF C (mW 71 rfl)) (mW 71 rfl) (mW 70 rfl) (mW 7 rfl) (mW 72 rfl) E_o46 (rm_a65 l Z a0 hw cs fm yF_21 yF_25 o46 k_o51 k_o52 k_o53 o51 o52 o53 tF xsF o276 _ n0 X.sz S_cs S_fm F_o46_s F_o46_g F_o46_v A_o51 A_o53 A_o52 Od hv_cs hv_fm hvB_22 hvB_26 g_o52 ne_o46_o52 ne_o51_o52 ne_o52_o53 O_o52 hvl0 hvl1) (lenOf pd__I_Ljava_lang_String_ rfl) rfl rfl rfl so0 (fun T v hh vm k1 C X hS Nk Rn q => ?_)
    obtain ⟨k_o429, o421, o429, rfl, A_o52, Kc, E_o421, F_o421_a, F_o421_k, Od, A_o429, ne_o52_o421, sz_o421', g_o421, ne_o52_o429, sz_o429', g_o429, ne_o421_o429⟩ := q
    have Rc := Rc.call Rn Nk
    have Kp := Kp.trans Kc (allS (Or.inr sz_o52) all0)
    have A_o457 := A_o457.keep Kc (ninS ne_o457_o52 nin0)
    refine rc (st' := [(.ref o421)]) rfl ?_
    refine s_new 624 C X at_621 (mW 143 rfl) (mW 33 rfl) (mW 32 rfl) (fun T hh o442 hb_o442 X E E_o442 D g_o442 => ?_)
    have H_o442 : Safe Z EL1 vm _ o442 := Safe.ext E Rc.1.1 (Safe.new (Nat.le_of_eq hb_o442))
    have Rc := Rc.ext E
    have sz_o442 : h0.size ≤ o442 := Nat.le_trans Kp.1 (Nat.le_of_eq hb_o442)
    have ne_o457_o442 : o457 ≠ o442 := Nat.ne_of_lt (Nat.lt_of_lt_of_le A_o457.lt (Nat.le_of_eq hb_o442))
    have ne_o421_o442 : o421 ≠ o442 := Nat.ne_of_lt (Nat.lt_of_lt_of_le E_o421.lt (Nat.le_of_eq hb_o442))
    have ne_o429_o442 : o429 ≠ o442 := Nat.ne_of_lt (Nat.lt_of_lt_of_le A_o429.lt (Nat.le_of_eq hb_o442))
    have Kp := Kp.ext E
    have A_o457 := A_o457.ext E
    have E_o421 := E_o421.ext E
    have F_o421_a := F_o421_a.ext E
    have F_o421_k := F_o421_k.ext E
    have Od := Od.ext E
    have A_o429 := A_o429.ext E
    have F_o442_a : Fld Z _ o442 cS "value" "[B" .null := D (Or.inr (hw _ (mW 35 rfl))) (ty := (.array .byte)) (by decide)
    have F_o442_k : Fld Z _ o442 cS "coder" "B" (.int i0) := D (Or.inr (hw _ (mW 36 rfl))) (ty := .byte) (by decide)
    refine s_dup 625 C X at_624 rfl ?_
    refine s_aload 627 C X at_625 rfl rfl ?_
    refine s_hcallC 630 [(.ref o457)] [(.ref o442), (.ref o421)] 2 C X hS Rc.2 (own_EL hw) Rc.1.1 at_627 rfl (mW 144 rfl) (mW 145 rfl) (mW 32 rfl) (mW 146 rfl) (rm_a69 l Z a0 hw cs yF_21 yF_25 o457 k_o457 o442 _ n0 X.sz S_cs A_o457 Od E_o442 F_o442_a F_o442_k hv_cs hvB_22 hvB_26 ne_o457_o442 g_o442) (lenOf pd___C_V rfl) rfl rfl rfl (soS ⟨E_o442.lt, H_o442⟩ so0) (fun T v hh vm k1 C X hS Nk Rn q => ?_)
    obtain ⟨k_o445, o445, rfl, Kc, Od, E_o442, F_o442_a, F_o442_k, A_o445, sz_o445', g_o445, ne_o442_o445⟩ := q
    have Rc := Rc.call Rn Nk
    have Kp := Kp.trans Kc (allS (Or.inr sz_o442) all0)
    have E_o421 := E_o421.keep Kc
    have F_o421_a := F_o421_a.keep Kc (ninS ne_o421_o442 nin0)
    have F_o421_k := F_o421_k.keep Kc (ninS ne_o421_o442 nin0)
    have A_o429 := A_o429.keep Kc (ninS ne_o429_o442 nin0)
    refine rc (st' := [(.ref o442), (.ref o421)]) rfl ?_
    refine s_callV 633 [(.ref o442)] [] 0 C X at_630 (mW 147 rfl) (mW 148 rfl) (nF C (mW 150 rfl)) (mW 150 rfl) (mW 149 rfl) (mW 32 rfl) (mW 151 rfl) E_o421 (rm_a71 l Z a0 hw cs yF_21 yF_25 k_o429 o421 o429 o442 k_o445 o445 _ n0 X.sz S_cs F_o421_a F_o421_k A_o429 Od E_o442 F_o442_a F_o442_k A_o445 hv_cs ne_o421_o442) (lenOf pd__Ljava_lang_Object__Z rfl) rfl rfl rfl (fun T v hh X q => ?_)
    obtain ⟨rfl, Od, Kc⟩ := q
    have Rc := Rc.keep Kc so0
    have Kp := Kp.trans Kc all0
    refine rc (st' := [(.int i1)]) rfl ?_
    refine s_if_eq 640 636 C X at_633 (fun c => absurd c (by decide)) (fun _ => ?_)
    refine s_iconst 637 C X at_636 kc_iconst_1 ?_
    refine s_goto 641 C X at_637 ?_
    refine s_istore 643 C X (l' := #[iv x0, iv x1, iv x2, iv x3, iv yF, iv yF_5, iv yF_9, iv yF_13, iv yF_17, iv yF_21, iv yF_25, iv nv27, iv pr28, rv o29, rv o457, rv o46, iv i1, iv y174, iv y179, iv y184, iv y189, iv y194, iv y194, iv y199, iv y204, iv y209, iv y174, iv y216, iv y223, iv y230, iv y235, rv o237, iv mF_271, rv o276, iv i1]) at_641 rfl ?_
    refine s_iload 645 C X at_643 rfl ?_
    refine s_if_eq 659 648 C X at_645 (fun c => absurd c (by decide)) (fun _ => ?_)
    refine s_iload 650 C X at_648 rfl ?_
    refine s_iload 652 C X at_650 rfl ?_
    refine s_icmp_ne 659 655 C X at_652 (fun c => absurd rfl c) (fun _ => ?_)
    refine s_iconst 656 C X at_655 kc_iconst_1 ?_
    refine s_goto 660 C X at_656 ?_
    refine s_nreturn C X at_660 rfl (by simp) rfl ?_ (FGH hG hS Rc C (own_EL hw))
    exact hQ _ _ rfl
  refine s_iconst 107 C X at_106 kc_iconst_1 ?_
  refine s_newarray 109 1 C X at_107 (mW 4 rfl) (by decide) (by decide) (fun T hh o473 k_o473 hb_o473 X E A_o473 g_o473 => ?_)
  have H_o473 : Safe Z EL1 vm _ o473 := Safe.ext E Rc.1.1 (Safe.new (Nat.le_of_eq hb_o473))
  have Rc := Rc.ext E
  have sz_o473 : h0.size ≤ o473 := Nat.le_trans Kp.1 (Nat.le_of_eq hb_o473)
  have ne_o29_o473 : o29 ≠ o473 := Nat.ne_of_lt (Nat.lt_of_lt_of_le A_o29.lt (Nat.le_of_eq hb_o473))
  have Od := Od.ext E
  have Kp := Kp.ext E
  have A_o29 := A_o29.ext E
  have A_o473 : Arv Z _ o473 k_o473 .char i1 [(.int i0)] (.int i0) := A_o473.pad (pad_rep [] _ 1)
  refine s_dup 110 C X at_109 rfl ?_
  refine s_iconst 111 C X at_110 kc_iconst_0 ?_
  refine s_iload 113 C X at_111 rfl ?_
  have Sf : Safe Z EL1 vm _ o473 := H_o473
  refine s_castore 114 0 C X at_113 A_o473 g_o473 ⟨by decide, by decide⟩ rfl (Nat.le_of_ble_eq_true rfl) (fun T hh X W A_o473 => ?_)
  have A_o473 : Arv Z _ o473 k_o473 .char i1 [(.int (nar .char yF_21))] (.int i0) := A_o473
  have Rc := Rc.wr W Sf
  have Od := Od.wr W g_o473
  have Kp := Kp.wr W (Or.inr sz_o473)
  have A_o29 := A_o29.other W ne_o29_o473
  rw [own_nc hvB_22] at A_o473
  refine s_astore 116 C X (l' := #[iv x0, iv x1, iv x2, iv x3, iv yF, iv yF_5, iv yF_9, iv yF_13, iv yF_17, iv yF_21, iv yF_25, iv nv27, iv pr28, rv o29, rv o473, un, un, un, un, un, un, un, un, un, un, un, un, un, un, un, un, un, un, un, un]) at_114 rfl rfl ?_
  refine s_goto 148 C X at_116 ?_
  refine s_new 151 C X at_148 (mW 5 rfl) (mW 6 rfl) (mW 7 rfl) (fun T hh o46 hb_o46 X E E_o46 D g_o46 => ?_)
  have H_o46 : Safe Z EL1 vm _ o46 := Safe.ext E Rc.1.1 (Safe.new (Nat.le_of_eq hb_o46))
  have Rc := Rc.ext E
  have sz_o46 : h0.size ≤ o46 := Nat.le_trans Kp.1 (Nat.le_of_eq hb_o46)
  have ne_o29_o46 : o29 ≠ o46 := Nat.ne_of_lt (Nat.lt_of_lt_of_le A_o29.lt (Nat.le_of_eq hb_o46))
  have ne_o473_o46 : o473 ≠ o46 := Nat.ne_of_lt (Nat.lt_of_lt_of_le A_o473.lt (Nat.le_of_eq hb_o46))
  have Od := Od.ext E
  have Kp := Kp.ext E
  have A_o29 := A_o29.ext E
  have A_o473 := A_o473.ext E
  have F_o46_q : Fld Z _ o46 cE fq cG .null := D (Or.inl (hw _ (mW 17 rfl))) (ty := (.array (.object cS))) (by decide)
  have F_o46_u : Fld Z _ o46 cE fu cG .null := D (Or.inl (hw _ (mW 19 rfl))) (ty := (.array (.object cS))) (by decide)
  have F_o46_l : Fld Z _ o46 cE fl cG .null := D (Or.inl (hw _ (mW 21 rfl))) (ty := (.array (.object cS))) (by decide)
  have F_o46_c : Fld Z _ o46 cE fc "[I" .null := D (Or.inl (hw _ (mW 24 rfl))) (ty := (.array .int)) (by decide)
  have F_o46_s : Fld Z _ o46 cE fs "[I" .null := D (Or.inl (hw _ (mW 26 rfl))) (ty := (.array .int)) (by decide)
  have F_o46_g : Fld Z _ o46 cE fg cG .null := D (Or.inl (hw _ (mW 28 rfl))) (ty := (.array (.object cS))) (by decide)
  have F_o46_v : Fld Z _ o46 cE fv "[C" .null := D (Or.inl (hw _ (mW 30 rfl))) (ty := (.array .char)) (by decide)
  have F_o46_n : Fld Z _ o46 cE "length" "I" (.int i0) := D (Or.inl (hw _ (mW 45 rfl))) (ty := .int) (by decide)
  refine s_dup 152 C X at_151 rfl ?_
  have Sw_o46 : Safe Z EL1 vm _ o46 := H_o46
  refine s_callC 155 [] [(.ref o46)] 1 C X at_152 rfl (mW 8 rfl) (mW 9 rfl) (mW 7 rfl) (mW 10 rfl) (rm_a2 l Z a0 hw o46 _ n0 X.sz E_o46 F_o46_q F_o46_u F_o46_l F_o46_c F_o46_s F_o46_g F_o46_v F_o46_n g_o46) (lenOf pd___V rfl) rfl rfl rfl (fun T v hh X q => ?_)
  obtain ⟨k_o47, k_o48, k_o49, k_o50, k_o51, k_o52, k_o53, o47, o48, o49, o50, o51, o52, o53, rfl, E_o46, F_o46_q, F_o46_u, F_o46_l, F_o46_c, F_o46_s, F_o46_g, F_o46_v, F_o46_n, Kc, A_o47, A_o48, A_o49, A_o50, A_o51, A_o52, A_o53, ne_o46_o47, sz_o47', g_o47, ne_o46_o48, sz_o48', ne_o47_o48, g_o48, ne_o46_o49, sz_o49', ne_o47_o49, ne_o48_o49, g_o49, ne_o46_o50, sz_o50', ne_o47_o50, ne_o48_o50, ne_o49_o50, g_o50, ne_o46_o51, sz_o51', ne_o47_o51, ne_o48_o51, ne_o49_o51, ne_o50_o51, g_o51, ne_o46_o52, sz_o52', ne_o47_o52, ne_o48_o52, ne_o49_o52, ne_o50_o52, ne_o51_o52, g_o52, ne_o46_o53, sz_o53', ne_o47_o53, ne_o48_o53, ne_o49_o53, ne_o50_o53, ne_o51_o53, ne_o52_o53, g_o53, O_o47, O_o48, O_o49, O_o52⟩ := q
  have ne_o29_o47 : o29 ≠ o47 := Nat.ne_of_lt (Nat.lt_of_lt_of_le A_o29.lt sz_o47')
  have ne_o473_o47 : o473 ≠ o47 := Nat.ne_of_lt (Nat.lt_of_lt_of_le A_o473.lt sz_o47')
  have sz_o47 : h0.size ≤ o47 := Nat.le_trans Kp.1 sz_o47'
  have ne_o29_o48 : o29 ≠ o48 := Nat.ne_of_lt (Nat.lt_of_lt_of_le A_o29.lt sz_o48')
  have ne_o473_o48 : o473 ≠ o48 := Nat.ne_of_lt (Nat.lt_of_lt_of_le A_o473.lt sz_o48')
  have sz_o48 : h0.size ≤ o48 := Nat.le_trans Kp.1 sz_o48'
  have ne_o29_o49 : o29 ≠ o49 := Nat.ne_of_lt (Nat.lt_of_lt_of_le A_o29.lt sz_o49')
  have ne_o473_o49 : o473 ≠ o49 := Nat.ne_of_lt (Nat.lt_of_lt_of_le A_o473.lt sz_o49')
  have sz_o49 : h0.size ≤ o49 := Nat.le_trans Kp.1 sz_o49'
  have ne_o29_o50 : o29 ≠ o50 := Nat.ne_of_lt (Nat.lt_of_lt_of_le A_o29.lt sz_o50')
  have ne_o473_o50 : o473 ≠ o50 := Nat.ne_of_lt (Nat.lt_of_lt_of_le A_o473.lt sz_o50')
  have sz_o50 : h0.size ≤ o50 := Nat.le_trans Kp.1 sz_o50'
  have ne_o29_o51 : o29 ≠ o51 := Nat.ne_of_lt (Nat.lt_of_lt_of_le A_o29.lt sz_o51')
  have ne_o473_o51 : o473 ≠ o51 := Nat.ne_of_lt (Nat.lt_of_lt_of_le A_o473.lt sz_o51')
  have sz_o51 : h0.size ≤ o51 := Nat.le_trans Kp.1 sz_o51'
  have ne_o473_o52 : o473 ≠ o52 := Nat.ne_of_lt (Nat.lt_of_lt_of_le A_o473.lt sz_o52')
  have sz_o52 : h0.size ≤ o52 := Nat.le_trans Kp.1 sz_o52'
  have ne_o29_o53 : o29 ≠ o53 := Nat.ne_of_lt (Nat.lt_of_lt_of_le A_o29.lt sz_o53')
  have ne_o473_o53 : o473 ≠ o53 := Nat.ne_of_lt (Nat.lt_of_lt_of_le A_o473.lt sz_o53')
  have sz_o53 : h0.size ≤ o53 := Nat.le_trans Kp.1 sz_o53'
  have Hs : ∀ x ∈ [o46], Safe Z EL1 vm _ x := (soS Sw_o46 so0)
  have Rc := Rc.keep Kc Hs
  have Od := Od.keep Kc (allS g_o46 all0)
  have Kp := Kp.trans Kc (allS (Or.inr sz_o46) all0)
  have A_o29 := A_o29.keep Kc (ninS ne_o29_o46 nin0)
  have A_o473 := A_o473.keep Kc (ninS ne_o473_o46 nin0)
  refine rc (st' := [(.ref o46)]) rfl ?_
  refine s_astore 157 C X (l' := #[iv x0, iv x1, iv x2, iv x3, iv yF, iv yF_5, iv yF_9, iv yF_13, iv yF_17, iv yF_21, iv yF_25, iv nv27, iv pr28, rv o29, rv o473, rv o46, un, un, un, un, un, un, un, un, un, un, un, un, un, un, un, un, un, un, un]) at_155 rfl rfl ?_
  refine s_iconst 158 C X at_157 kc_iconst_0 ?_
  refine s_istore 160 C X (l' := #[iv x0, iv x1, iv x2, iv x3, iv yF, iv yF_5, iv yF_9, iv yF_13, iv yF_17, iv yF_21, iv yF_25, iv nv27, iv pr28, rv o29, rv o473, rv o46, iv i0, un, un, un, un, un, un, un, un, un, un, un, un, un, un, un, un, un, un]) at_158 rfl ?_
  refine s_iload 162 C X at_160 rfl ?_
  refine s_if_eq 187 165 C X at_162 (fun c => absurd (c.symm.trans c103_30) (by decide)) (fun c162_55 => ?_)
  refine s_aload 167 C X at_165 rfl rfl ?_
  refine s_ldcH 169 4 C X hS Rc.2 (own_EL hw) Rc.1.1 at_167 (mW 142 rfl) (own_wS hw) (vs := [(.int i112)]) (z := i1) (by decide) ⟨by decide, rfl⟩ (by decide) rfl (fun T hh t61 b62 k_b62 vm k1 C X E hS Nk Rn E_t61 F_t61_k F_t61_a A_b62 nS => ?_)
  have Rc := Rc.call Rn Nk
  have Od := Od.ext E
  have Kp := Kp.ext E
  have A_o29 := A_o29.ext E
  have A_o473 := A_o473.ext E
  have E_o46 := E_o46.ext E
  have F_o46_q := F_o46_q.ext E
  have F_o46_u := F_o46_u.ext E
  have F_o46_l := F_o46_l.ext E
  have F_o46_c := F_o46_c.ext E
  have F_o46_s := F_o46_s.ext E
  have F_o46_g := F_o46_g.ext E
  have F_o46_v := F_o46_v.ext E
  have F_o46_n := F_o46_n.ext E
  have A_o47 := A_o47.ext E
  have A_o48 := A_o48.ext E
  have A_o49 := A_o49.ext E
  have A_o50 := A_o50.ext E
  have A_o51 := A_o51.ext E
  have A_o52 := A_o52.ext E
  have A_o53 := A_o53.ext E
  refine s_iconst 170 C X at_169 kc_iconst_m1 ?_
  refine s_hcallV 173 [(.ref t61), (.int im1)] [] 0 C X hS Rc.2 (own_EL hw) Rc.1.1 at_170 (mW 39 rfl) (mW 40 rfl) (nF C (mW 42 rfl)) (mW 42 rfl) (mW 41 rfl) (mW 7 rfl) (mW 43 rfl) E_o46 (rm_a3 l Z a0 hw o46 k_o47 k_o48 k_o49 k_o50 k_o51 o47 o48 o49 o50 o51 o52 o53 t61 _ n0 X.sz E_o46 F_o46_q F_o46_u F_o46_l F_o46_c F_o46_s F_o46_g F_o46_v F_o46_n A_o47 A_o48 A_o49 A_o50 A_o51 E_t61 g_o46 g_o47 g_o48 g_o49 g_o50 g_o51 ne_o46_o47 ne_o46_o48 ne_o47_o48 ne_o46_o49 ne_o47_o49 ne_o48_o49 ne_o46_o50 ne_o47_o50 ne_o48_o50 ne_o49_o50 ne_o46_o51 ne_o47_o51 ne_o48_o51 ne_o49_o51 ne_o50_o51 O_o47 O_o48 O_o49) (lenOf pd__Ljava_lang_String_I_V rfl) rfl rfl rfl so0 (fun T v hh vm k1 C X hS Nk Rn q => ?_)
  obtain ⟨b65, k_b65, t64, rfl, E_o46, F_o46_q, F_o46_u, F_o46_l, F_o46_c, F_o46_s, F_o46_g, F_o46_v, F_o46_n, A_o47, A_o48, A_o49, A_o50, A_o51, Kc, E_t64, F_t64_k, F_t64_a, A_b65, ne_o46_t64, ne_o46_b65, ne_o47_t64, ne_o47_b65, ne_o48_t64, ne_o48_b65, ne_o49_t64, ne_o49_b65, ne_o50_t64, ne_o50_b65, ne_o51_t64, ne_o51_b65⟩ := q
  have Rc := Rc.call Rn Nk
  have Od := Od.keep Kc (allS g_o46 (allS g_o47 (allS g_o48 (allS g_o49 (allS g_o50 (allS g_o51 all0))))))
  have Kp := Kp.trans Kc (allS (Or.inr sz_o46) (allS (Or.inr sz_o47) (allS (Or.inr sz_o48) (allS (Or.inr sz_o49) (allS (Or.inr sz_o50) (allS (Or.inr sz_o51) all0))))))
  have A_o29 := A_o29.keep Kc (ninS ne_o29_o46 (ninS ne_o29_o47 (ninS ne_o29_o48 (ninS ne_o29_o49 (ninS ne_o29_o50 (ninS ne_o29_o51 nin0))))))
  have A_o473 := A_o473.keep Kc (ninS ne_o473_o46 (ninS ne_o473_o47 (ninS ne_o473_o48 (ninS ne_o473_o49 (ninS ne_o473_o50 (ninS ne_o473_o51 nin0))))))
  have A_o52 := A_o52.keep Kc (ninS (Ne.symm ne_o46_o52) (ninS (Ne.symm ne_o47_o52) (ninS (Ne.symm ne_o48_o52) (ninS (Ne.symm ne_o49_o52) (ninS (Ne.symm ne_o50_o52) (ninS (Ne.symm ne_o51_o52) nin0))))))
  have A_o53 := A_o53.keep Kc (ninS (Ne.symm ne_o46_o53) (ninS (Ne.symm ne_o47_o53) (ninS (Ne.symm ne_o48_o53) (ninS (Ne.symm ne_o49_o53) (ninS (Ne.symm ne_o50_o53) (ninS (Ne.symm ne_o51_o53) nin0))))))
  refine rc (st' := []) rfl ?_
  refine s_aload 175 C X at_173 rfl rfl ?_
  refine s_aload 177 C X at_175 rfl rfl ?_
  refine s_iconst 178 C X at_177 kc_iconst_0 ?_
  refine s_aload 180 C X at_178 rfl rfl ?_
  refine s_arraylength 181 C X at_180 A_o473 ?_
  have Sw_o51 : Safe Z EL1 vm _ o51 := (Safe.arv C.2.1.alike A_o51 (by decide))
  have Sw_o53 : Safe Z EL1 vm _ o53 := (Safe.arv C.2.1.alike A_o53 (by decide))
  refine s_callV 184 [(.ref o473), (.int i0), (.int i1)] [] 0 C X at_181 (mW 48 rfl) (mW 49 rfl) (nF C (mW 51 rfl)) (mW 51 rfl) (mW 50 rfl) (mW 7 rfl) (mW 52 rfl) E_o46 (rm_a72 l Z a0 hw yF_21 o473 o46 k_o473 k_o51 k_o53 o51 o53 _ n0 X.sz A_o473 A_o53 F_o46_s F_o46_v F_o46_n A_o51 ne_o473_o51 g_o51 ne_o473_o53 g_o53 ne_o46_o51 ne_o46_o53 ne_o51_o53) (lenOf pd___CII_V rfl) rfl rfl rfl (fun T v hh X q => ?_)
  obtain ⟨rfl, A_o51, Kc, A_o53⟩ := q
  have Hs : ∀ x ∈ [o51, o53], Safe Z EL1 vm _ x := (soS Sw_o51 (soS Sw_o53 so0))
  have Rc := Rc.keep Kc Hs
  have nn_o46 : o46 ∉ [o51, o53] := (ninS ne_o46_o51 (ninS ne_o46_o53 nin0))
  have Od := Od.keep Kc (allS g_o51 (allS g_o53 all0))
  have Kp := Kp.trans Kc (allS (Or.inr sz_o51) (allS (Or.inr sz_o53) all0))
  have A_o29 := A_o29.keep Kc (ninS ne_o29_o51 (ninS ne_o29_o53 nin0))
  have A_o473 := A_o473.keep Kc (ninS ne_o473_o51 (ninS ne_o473_o53 nin0))
  have A_o52 := A_o52.keep Kc (ninS (Ne.symm ne_o51_o52) (ninS ne_o52_o53 nin0))
  have E_o46 := E_o46.keep Kc
  have F_o46_q := F_o46_q.keep Kc nn_o46
  have F_o46_u := F_o46_u.keep Kc nn_o46
  have F_o46_l := F_o46_l.keep Kc nn_o46
  have F_o46_c := F_o46_c.keep Kc nn_o46
  have F_o46_s := F_o46_s.keep Kc nn_o46
  have F_o46_g := F_o46_g.keep Kc nn_o46
  have F_o46_v := F_o46_v.keep Kc nn_o46
  have F_o46_n := F_o46_n.keep Kc nn_o46
  have A_o47 := A_o47.keep Kc (ninS ne_o47_o51 (ninS ne_o47_o53 nin0))
  have A_o48 := A_o48.keep Kc (ninS ne_o48_o51 (ninS ne_o48_o53 nin0))
  have A_o49 := A_o49.keep Kc (ninS ne_o49_o51 (ninS ne_o49_o53 nin0))
  have A_o50 := A_o50.keep Kc (ninS ne_o50_o51 (ninS ne_o50_o53 nin0))
  refine rc (st' := []) rfl ?_
  refine s_iconst 185 C X at_184 kc_iconst_1 ?_
  refine s_istore 187 C X (l' := #[iv x0, iv x1, iv x2, iv x3, iv yF, iv yF_5, iv yF_9, iv yF_13, iv yF_17, iv yF_21, iv yF_25, iv nv27, iv pr28, rv o29, rv o473, rv o46, iv i1, un, un, un, un, un, un, un, un, un, un, un, un, un, un, un, un, un, un]) at_185 rfl ?_
  refine s_aload 189 C X at_187 rfl rfl ?_
  refine s_ldcH 191 4 C X hS Rc.2 (own_EL hw) Rc.1.1 at_189 (mW 31 rfl) (own_wS hw) (vs := [(.int i113)]) (z := i1) (by decide) ⟨by decide, rfl⟩ (by decide) rfl (fun T hh t81 b82 k_b82 vm k1 C X E hS Nk Rn E_t81 F_t81_k F_t81_a A_b82 nS => ?_)
  have Rc := Rc.call Rn Nk
  have Od := Od.ext E
  have Kp := Kp.ext E
  have A_o29 := A_o29.ext E
  have A_o473 := A_o473.ext E
  have A_o52 := A_o52.ext E
  have E_o46 := E_o46.ext E
  have F_o46_q := F_o46_q.ext E
  have F_o46_u := F_o46_u.ext E
  have F_o46_l := F_o46_l.ext E
  have F_o46_c := F_o46_c.ext E
  have F_o46_s := F_o46_s.ext E
  have F_o46_g := F_o46_g.ext E
  have F_o46_v := F_o46_v.ext E
  have F_o46_n := F_o46_n.ext E
  have A_o47 := A_o47.ext E
  have A_o48 := A_o48.ext E
  have A_o49 := A_o49.ext E
  have A_o50 := A_o50.ext E
  have A_o51 := A_o51.ext E
  have A_o53 := A_o53.ext E
  refine s_iconst 192 C X at_191 kc_iconst_m1 ?_
  refine s_hcallV 195 [(.ref t81), (.int im1)] [] 0 C X hS Rc.2 (own_EL hw) Rc.1.1 at_192 (mW 39 rfl) (mW 40 rfl) (nF C (mW 42 rfl)) (mW 42 rfl) (mW 41 rfl) (mW 7 rfl) (mW 43 rfl) E_o46 (rm_a73 l Z a0 hw o46 k_o47 k_o48 k_o49 k_o50 k_o51 o47 o48 o49 o50 o51 o52 o53 t61 t64 t81 _ n0 X.sz E_o46 F_o46_q F_o46_u F_o46_l F_o46_c F_o46_s F_o46_g F_o46_v F_o46_n A_o47 A_o48 A_o49 A_o50 A_o51 E_t81 g_o46 g_o47 g_o48 g_o49 g_o50 g_o51 ne_o46_o47 ne_o46_o48 ne_o47_o48 ne_o46_o49 ne_o47_o49 ne_o48_o49 ne_o46_o50 ne_o47_o50 ne_o48_o50 ne_o49_o50 ne_o46_o51 ne_o47_o51 ne_o48_o51 ne_o49_o51 ne_o50_o51 O_o47 O_o48 O_o49) (lenOf pd__Ljava_lang_String_I_V rfl) rfl rfl rfl so0 (fun T v hh vm k1 C X hS Nk Rn q => ?_)
  obtain ⟨b85, k_b85, t84, rfl, E_o46, F_o46_q, F_o46_u, F_o46_l, F_o46_c, F_o46_s, F_o46_g, F_o46_v, F_o46_n, A_o47, A_o48, A_o49, A_o50, A_o51, Kc, E_t84, F_t84_k, F_t84_a, A_b85, ne_o46_t84, ne_o46_b85, ne_o47_t84, ne_o47_b85, ne_o48_t84, ne_o48_b85, ne_o49_t84, ne_o49_b85, ne_o50_t84, ne_o50_b85, ne_o51_t84, ne_o51_b85⟩ := q
  have Rc := Rc.call Rn Nk
  have Od := Od.keep Kc (allS g_o46 (allS g_o47 (allS g_o48 (allS g_o49 (allS g_o50 (allS g_o51 all0))))))
  have Kp := Kp.trans Kc (allS (Or.inr sz_o46) (allS (Or.inr sz_o47) (allS (Or.inr sz_o48) (allS (Or.inr sz_o49) (allS (Or.inr sz_o50) (allS (Or.inr sz_o51) all0))))))
  have A_o29 := A_o29.keep Kc (ninS ne_o29_o46 (ninS ne_o29_o47 (ninS ne_o29_o48 (ninS ne_o29_o49 (ninS ne_o29_o50 (ninS ne_o29_o51 nin0))))))
  have A_o473 := A_o473.keep Kc (ninS ne_o473_o46 (ninS ne_o473_o47 (ninS ne_o473_o48 (ninS ne_o473_o49 (ninS ne_o473_o50 (ninS ne_o473_o51 nin0))))))
  have A_o52 := A_o52.keep Kc (ninS (Ne.symm ne_o46_o52) (ninS (Ne.symm ne_o47_o52) (ninS (Ne.symm ne_o48_o52) (ninS (Ne.symm ne_o49_o52) (ninS (Ne.symm ne_o50_o52) (ninS (Ne.symm ne_o51_o52) nin0))))))
  have A_o53 := A_o53.keep Kc (ninS (Ne.symm ne_o46_o53) (ninS (Ne.symm ne_o47_o53) (ninS (Ne.symm ne_o48_o53) (ninS (Ne.symm ne_o49_o53) (ninS (Ne.symm ne_o50_o53) (ninS (Ne.symm ne_o51_o53) nin0))))))
  refine rc (st' := []) rfl ?_
  refine s_aload 197 C X at_195 rfl rfl ?_
  refine s_aload 199 C X at_197 rfl rfl ?_
  refine s_iconst 200 C X at_199 kc_iconst_0 ?_
  refine s_iload 202 C X at_200 rfl ?_
  have Sw_o51 : Safe Z EL1 vm _ o51 := (Safe.arv C.2.1.alike A_o51 (by decide))
  have Sw_o53 : Safe Z EL1 vm _ o53 := (Safe.arv C.2.1.alike A_o53 (by decide))
  refine s_callV 205 [(.ref o29), (.int i0), (.int nv27)] [] 0 C X at_202 (mW 48 rfl) (mW 49 rfl) (nF C (mW 51 rfl)) (mW 51 rfl) (mW 50 rfl) (mW 7 rfl) (mW 52 rfl) E_o46 (rm_a74 l Z a0 hw yF yF_5 yF_9 yF_13 yF_17 yF_21 nv27 o29 o46 k_o29 k_o51 k_o53 o51 o53 _ n0 X.sz A_o29 A_o53 F_o46_s F_o46_v F_o46_n A_o51 hv_nv27 ne_o29_o51 g_o51 ne_o29_o53 g_o53 ne_o46_o51 ne_o46_o53 ne_o51_o53) (lenOf pd___CII_V rfl) rfl rfl rfl (fun T v hh X q => ?_)
  obtain ⟨rfl, A_o51, Kc, A_o53⟩ := q
  have Hs : ∀ x ∈ [o51, o53], Safe Z EL1 vm _ x := (soS Sw_o51 (soS Sw_o53 so0))
  have Rc := Rc.keep Kc Hs
  have nn_o46 : o46 ∉ [o51, o53] := (ninS ne_o46_o51 (ninS ne_o46_o53 nin0))
  have Od := Od.keep Kc (allS g_o51 (allS g_o53 all0))
  have Kp := Kp.trans Kc (allS (Or.inr sz_o51) (allS (Or.inr sz_o53) all0))
  have A_o473 := A_o473.keep Kc (ninS ne_o473_o51 (ninS ne_o473_o53 nin0))
  have A_o52 := A_o52.keep Kc (ninS (Ne.symm ne_o51_o52) (ninS ne_o52_o53 nin0))
  have E_o46 := E_o46.keep Kc
  have F_o46_s := F_o46_s.keep Kc nn_o46
  have F_o46_g := F_o46_g.keep Kc nn_o46
  have F_o46_v := F_o46_v.keep Kc nn_o46
  have F_o46_n := F_o46_n.keep Kc nn_o46
  refine rc (st' := []) rfl ?_
  refine s_aload 207 C X at_205 rfl rfl ?_
  have Sw_o51 : Safe Z EL1 vm _ o51 := (Safe.arv C.2.1.alike A_o51 (by decide))
  have Sw_o53 : Safe Z EL1 vm _ o53 := (Safe.arv C.2.1.alike A_o53 (by decide))
  refine s_callV 210 [] [] 0 C X at_207 (mW 57 rfl) (mW 58 rfl) (nF C (mW 60 rfl)) (mW 60 rfl) (mW 59 rfl) (mW 7 rfl) (mW 61 rfl) E_o46 (rm_a75 l Z a0 hw yF yF_5 yF_9 yF_13 yF_17 yF_21 nv27 o46 k_o51 k_o53 o51 o53 _ n0 X.sz F_o46_s F_o46_v F_o46_n A_o51 A_o53 hvB hvB_6 hvB_10 hvB_14 hvB_18 hv_nv27 g_o51 g_o53 ne_o46_o51 ne_o46_o53 ne_o51_o53) (lenOf pd___V rfl) rfl rfl rfl (fun T v hh X q => ?_)
  obtain ⟨tF, xsF, rfl, hvC, A_o51, A_o53, Kc⟩ := q
  have Hs : ∀ x ∈ [o51, o53], Safe Z EL1 vm _ x := (soS Sw_o51 (soS Sw_o53 so0))
  have Rc := Rc.keep Kc Hs
  have nn_o46 : o46 ∉ [o51, o53] := (ninS ne_o46_o51 (ninS ne_o46_o53 nin0))
  have Od := Od.keep Kc (allS g_o51 (allS g_o53 all0))
  have Kp := Kp.trans Kc (allS (Or.inr sz_o51) (allS (Or.inr sz_o53) all0))
  have A_o473 := A_o473.keep Kc (ninS ne_o473_o51 (ninS ne_o473_o53 nin0))
  have A_o52 := A_o52.keep Kc (ninS (Ne.symm ne_o51_o52) (ninS ne_o52_o53 nin0))
  have E_o46 := E_o46.keep Kc
  have F_o46_s := F_o46_s.keep Kc nn_o46
  have F_o46_g := F_o46_g.keep Kc nn_o46
  have F_o46_v := F_o46_v.keep Kc nn_o46
  have F_o46_n := F_o46_n.keep Kc nn_o46
  refine rc (st' := []) rfl ?_
  refine s_iconst 211 C X at_210 kc_iconst_0 ?_
  refine s_iload 213 C X at_211 rfl ?_
  refine s_iload 215 C X at_213 rfl ?_
  refine s_callS 218 [(.int i0), (.int nv27), (.int yF)] [] 0 C X at_215 (mW 62 rfl) (mW 63 rfl) (mW 2 rfl) (mW 64 rfl) (rm_a6 l Z a0 hw yF nv27 _ n0 X.sz ) (lenOf pd__IIC_Z rfl) rfl rfl rfl (fun T v hh X q => ?_)
  obtain ⟨y174, rfl, D175, Kc⟩ := q
  have Rc := Rc.keep Kc so0
  have Od := Od.keep Kc all0
  have Kp := Kp.trans Kc all0
  have A_o473 := A_o473.keep Kc nin0
  have A_o52 := A_o52.keep Kc nin0
  have E_o46 := E_o46.keep Kc
  have F_o46_s := F_o46_s.keep Kc nin0
  have F_o46_g := F_o46_g.keep Kc nin0
  have F_o46_v := F_o46_v.keep Kc nin0
  have F_o46_n := F_o46_n.keep Kc nin0
  have A_o51 := A_o51.keep Kc nin0
  have A_o53 := A_o53.keep Kc nin0
  refine rc (st' := [(.int y174)]) rfl ?_
  refine s_istore 220 C X (l' := #[iv x0, iv x1, iv x2, iv x3, iv yF, iv yF_5, iv yF_9, iv yF_13, iv yF_17, iv yF_21, iv yF_25, iv nv27, iv pr28, rv o29, rv o473, rv o46, iv i1, iv y174, un, un, un, un, un, un, un, un, un, un, un, un, un, un, un, un, un]) at_218 rfl ?_
  refine s_iconst 221 C X at_220 kc_iconst_1 ?_
  refine s_iload 223 C X at_221 rfl ?_
  refine s_iload 225 C X at_223 rfl ?_
  refine s_callS 228 [(.int i1), (.int nv27), (.int yF_5)] [] 0 C X at_225 (mW 62 rfl) (mW 63 rfl) (mW 2 rfl) (mW 64 rfl) (rm_a7 l Z a0 hw yF_5 nv27 _ n0 X.sz ) (lenOf pd__IIC_Z rfl) rfl rfl rfl (fun T v hh X q => ?_)
  obtain ⟨y179, rfl, D180, Kc⟩ := q
  have Rc := Rc.keep Kc so0
  have Od := Od.keep Kc all0
  have Kp := Kp.trans Kc all0
  have A_o473 := A_o473.keep Kc nin0
  have A_o52 := A_o52.keep Kc nin0
  have E_o46 := E_o46.keep Kc
  have F_o46_s := F_o46_s.keep Kc nin0
  have F_o46_g := F_o46_g.keep Kc nin0
  have F_o46_v := F_o46_v.keep Kc nin0
  have F_o46_n := F_o46_n.keep Kc nin0
  have A_o51 := A_o51.keep Kc nin0
  have A_o53 := A_o53.keep Kc nin0
  refine rc (st' := [(.int y179)]) rfl ?_
  refine s_istore 230 C X (l' := #[iv x0, iv x1, iv x2, iv x3, iv yF, iv yF_5, iv yF_9, iv yF_13, iv yF_17, iv yF_21, iv yF_25, iv nv27, iv pr28, rv o29, rv o473, rv o46, iv i1, iv y174, iv y179, un, un, un, un, un, un, un, un, un, un, un, un, un, un, un, un]) at_228 rfl ?_
  refine s_iconst 231 C X at_230 kc_iconst_2 ?_
  refine s_iload 233 C X at_231 rfl ?_
  refine s_iload 235 C X at_233 rfl ?_
  refine s_callS 238 [(.int i2), (.int nv27), (.int yF_9)] [] 0 C X at_235 (mW 62 rfl) (mW 63 rfl) (mW 2 rfl) (mW 64 rfl) (rm_a8 l Z a0 hw yF_9 nv27 _ n0 X.sz ) (lenOf pd__IIC_Z rfl) rfl rfl rfl (fun T v hh X q => ?_)
  obtain ⟨y184, rfl, D185, Kc⟩ := q
  have Rc := Rc.keep Kc so0
  have Od := Od.keep Kc all0
  have Kp := Kp.trans Kc all0
  have A_o473 := A_o473.keep Kc nin0
  have A_o52 := A_o52.keep Kc nin0
  have E_o46 := E_o46.keep Kc
  have F_o46_s := F_o46_s.keep Kc nin0
  have F_o46_g := F_o46_g.keep Kc nin0
  have F_o46_v := F_o46_v.keep Kc nin0
  have F_o46_n := F_o46_n.keep Kc nin0
  have A_o51 := A_o51.keep Kc nin0
  have A_o53 := A_o53.keep Kc nin0
  refine rc (st' := [(.int y184)]) rfl ?_
  refine s_istore 240 C X (l' := #[iv x0, iv x1, iv x2, iv x3, iv yF, iv yF_5, iv yF_9, iv yF_13, iv yF_17, iv yF_21, iv yF_25, iv nv27, iv pr28, rv o29, rv o473, rv o46, iv i1, iv y174, iv y179, iv y184, un, un, un, un, un, un, un, un, un, un, un, un, un, un, un]) at_238 rfl ?_
  refine s_iconst 241 C X at_240 kc_iconst_3 ?_
  refine s_iload 243 C X at_241 rfl ?_
  refine s_iload 245 C X at_243 rfl ?_
  refine s_callS 248 [(.int i3), (.int nv27), (.int yF_13)] [] 0 C X at_245 (mW 62 rfl) (mW 63 rfl) (mW 2 rfl) (mW 64 rfl) (rm_a9 l Z a0 hw yF_13 nv27 _ n0 X.sz ) (lenOf pd__IIC_Z rfl) rfl rfl rfl (fun T v hh X q => ?_)
  obtain ⟨y189, rfl, D190, Kc⟩ := q
  have Rc := Rc.keep Kc so0
  have Od := Od.keep Kc all0
  have Kp := Kp.trans Kc all0
  have A_o473 := A_o473.keep Kc nin0
  have A_o52 := A_o52.keep Kc nin0
  have E_o46 := E_o46.keep Kc
  have F_o46_s := F_o46_s.keep Kc nin0
  have F_o46_g := F_o46_g.keep Kc nin0
  have F_o46_v := F_o46_v.keep Kc nin0
  have F_o46_n := F_o46_n.keep Kc nin0
  have A_o51 := A_o51.keep Kc nin0
  have A_o53 := A_o53.keep Kc nin0
  refine rc (st' := [(.int y189)]) rfl ?_
  refine s_istore 250 C X (l' := #[iv x0, iv x1, iv x2, iv x3, iv yF, iv yF_5, iv yF_9, iv yF_13, iv yF_17, iv yF_21, iv yF_25, iv nv27, iv pr28, rv o29, rv o473, rv o46, iv i1, iv y174, iv y179, iv y184, iv y189, un, un, un, un, un, un, un, un, un, un, un, un, un, un]) at_248 rfl ?_
  refine s_iconst 251 C X at_250 kc_iconst_4 ?_
  refine s_iload 253 C X at_251 rfl ?_
  refine s_iload 255 C X at_253 rfl ?_
  refine s_callS 258 [(.int i4), (.int nv27), (.int yF_17)] [] 0 C X at_255 (mW 62 rfl) (mW 63 rfl) (mW 2 rfl) (mW 64 rfl) (rm_a10 l Z a0 hw yF_17 nv27 _ n0 X.sz ) (lenOf pd__IIC_Z rfl) rfl rfl rfl (fun T v hh X q => ?_)
  obtain ⟨y194, rfl, D195, Kc⟩ := q
  have Rc := Rc.keep Kc so0
  have Od := Od.keep Kc all0
  have Kp := Kp.trans Kc all0
  have A_o473 := A_o473.keep Kc nin0
  have A_o52 := A_o52.keep Kc nin0
  have E_o46 := E_o46.keep Kc
  have F_o46_s := F_o46_s.keep Kc nin0
  have F_o46_g := F_o46_g.keep Kc nin0
  have F_o46_v := F_o46_v.keep Kc nin0
  have F_o46_n := F_o46_n.keep Kc nin0
  have A_o51 := A_o51.keep Kc nin0
  have A_o53 := A_o53.keep Kc nin0
  refine rc (st' := [(.int y194)]) rfl ?_
  refine s_istore 260 C X (l' := #[iv x0, iv x1, iv x2, iv x3, iv yF, iv yF_5, iv yF_9, iv yF_13, iv yF_17, iv yF_21, iv yF_25, iv nv27, iv pr28, rv o29, rv o473, rv o46, iv i1, iv y174, iv y179, iv y184, iv y189, iv y194, un, un, un, un, un, un, un, un, un, un, un, un, un]) at_258 rfl ?_
  refine s_iload 262 C X at_260 rfl ?_
  refine s_istore 264 C X (l' := #[iv x0, iv x1, iv x2, iv x3, iv yF, iv yF_5, iv yF_9, iv yF_13, iv yF_17, iv yF_21, iv yF_25, iv nv27, iv pr28, rv o29, rv o473, rv o46, iv i1, iv y174, iv y179, iv y184, iv y189, iv y194, iv y194, un, un, un, un, un, un, un, un, un, un, un, un]) at_262 rfl ?_
  refine s_iload 266 C X at_264 rfl ?_
  suffices J200 : ∀ (y199 : Int32) (D200 : ((¬ ((y189).toInt = (0 : Int))) ∧ y199 = i1) ∨ (((y189).toInt = (0 : Int)) ∧ ((y194).toInt = (0 : Int)) ∧ y199 = i0) ∨ (((y189).toInt = (0 : Int)) ∧ (¬ ((y194).toInt = (0 : Int))) ∧ y199 = i1)), Run p e below n0 Q' G' m T 279 #[iv x0, iv x1, iv x2, iv x3, iv yF, iv yF_5, iv yF_9, iv yF_13, iv yF_17, iv yF_21, iv yF_25, iv nv27, iv pr28, rv o29, rv o473, rv o46, iv i1, iv y174, iv y179, iv y184, iv y189, iv y194, iv y194, un, un, un, un, un, un, un, un, un, un, un, un] [(.int y199)] by
    refine s_if_ne 274 269 C X at_266 (fun c266_196 => ?_) (fun c266_196 => ?_)
    · have t_c266_196 := ine c266_196
      refine s_iconst 275 C X at_274 kc_iconst_1 ?_
      refine s_goto 279 C X at_275 ?_
      exact J200 (i1) ((Or.inl ⟨t_c266_196, rfl⟩))
    have t_c266_196 := ieq c266_196
    refine s_iload 271 C X at_269 rfl ?_
    refine s_if_eq 278 274 C X at_271 (fun c271_197 => ?_) (fun c271_197 => ?_)
    · have t_c271_197 := ieq c271_197
      refine s_iconst 279 C X at_278 kc_iconst_0 ?_
      exact J200 (i0) (Or.inr (Or.inl ⟨t_c266_196, t_c271_197, rfl⟩))
    have t_c271_197 := ine c271_197
    refine s_iconst 275 C X at_274 kc_iconst_1 ?_
    refine s_goto 279 C X at_275 ?_
    exact J200 (i1) (Or.inr (Or.inr ⟨t_c266_196, t_c271_197, rfl⟩))
  intro y199 D200
  refine s_istore 281 C X (l' := #[iv x0, iv x1, iv x2, iv x3, iv yF, iv yF_5, iv yF_9, iv yF_13, iv yF_17, iv yF_21, iv yF_25, iv nv27, iv pr28, rv o29, rv o473, rv o46, iv i1, iv y174, iv y179, iv y184, iv y189, iv y194, iv y194, iv y199, un, un, un, un, un, un, un, un, un, un, un]) at_279 rfl ?_
  refine s_iload 283 C X at_281 rfl ?_
  suffices J205 : ∀ (y204 : Int32) (D205 : ((¬ ((y184).toInt = (0 : Int))) ∧ y204 = i1) ∨ (((y184).toInt = (0 : Int)) ∧ ((y199).toInt = (0 : Int)) ∧ y204 = i0) ∨ (((y184).toInt = (0 : Int)) ∧ (¬ ((y199).toInt = (0 : Int))) ∧ y204 = i1)), Run p e below n0 Q' G' m T 296 #[iv x0, iv x1, iv x2, iv x3, iv yF, iv yF_5, iv yF_9, iv yF_13, iv yF_17, iv yF_21, iv yF_25, iv nv27, iv pr28, rv o29, rv o473, rv o46, iv i1, iv y174, iv y179, iv y184, iv y189, iv y194, iv y194, iv y199, un, un, un, un, un, un, un, un, un, un, un] [(.int y204)] by
    refine s_if_ne 291 286 C X at_283 (fun c283_201 => ?_) (fun c283_201 => ?_)
    · have t_c283_201 := ine c283_201
      refine s_iconst 292 C X at_291 kc_iconst_1 ?_
      refine s_goto 296 C X at_292 ?_
      exact J205 (i1) ((Or.inl ⟨t_c283_201, rfl⟩))
    have t_c283_201 := ieq c283_201
    refine s_iload 288 C X at_286 rfl ?_
    refine s_if_eq 295 291 C X at_288 (fun c288_202 => ?_) (fun c288_202 => ?_)
    · have t_c288_202 := ieq c288_202
      refine s_iconst 296 C X at_295 kc_iconst_0 ?_
      exact J205 (i0) (Or.inr (Or.inl ⟨t_c283_201, t_c288_202, rfl⟩))
    have t_c288_202 := ine c288_202
    refine s_iconst 292 C X at_291 kc_iconst_1 ?_
    refine s_goto 296 C X at_292 ?_
    exact J205 (i1) (Or.inr (Or.inr ⟨t_c283_201, t_c288_202, rfl⟩))
  intro y204 D205
  refine s_istore 298 C X (l' := #[iv x0, iv x1, iv x2, iv x3, iv yF, iv yF_5, iv yF_9, iv yF_13, iv yF_17, iv yF_21, iv yF_25, iv nv27, iv pr28, rv o29, rv o473, rv o46, iv i1, iv y174, iv y179, iv y184, iv y189, iv y194, iv y194, iv y199, iv y204, un, un, un, un, un, un, un, un, un, un]) at_296 rfl ?_
  refine s_iload 300 C X at_298 rfl ?_
  suffices J210 : ∀ (y209 : Int32) (D210 : ((¬ ((y179).toInt = (0 : Int))) ∧ y209 = i1) ∨ (((y179).toInt = (0 : Int)) ∧ ((y204).toInt = (0 : Int)) ∧ y209 = i0) ∨ (((y179).toInt = (0 : Int)) ∧ (¬ ((y204).toInt = (0 : Int))) ∧ y209 = i1)), Run p e below n0 Q' G' m T 313 #[iv x0, iv x1, iv x2, iv x3, iv yF, iv yF_5, iv yF_9, iv yF_13, iv yF_17, iv yF_21, iv yF_25, iv nv27, iv pr28, rv o29, rv o473, rv o46, iv i1, iv y174, iv y179, iv y184, iv y189, iv y194, iv y194, iv y199, iv y204, un, un, un, un, un, un, un, un, un, un] [(.int y209)] by
    refine s_if_ne 308 303 C X at_300 (fun c300_206 => ?_) (fun c300_206 => ?_)
    · have t_c300_206 := ine c300_206
      refine s_iconst 309 C X at_308 kc_iconst_1 ?_
      refine s_goto 313 C X at_309 ?_
      exact J210 (i1) ((Or.inl ⟨t_c300_206, rfl⟩))
    have t_c300_206 := ieq c300_206
    refine s_iload 305 C X at_303 rfl ?_
    refine s_if_eq 312 308 C X at_305 (fun c305_207 => ?_) (fun c305_207 => ?_)
    · have t_c305_207 := ieq c305_207
      refine s_iconst 313 C X at_312 kc_iconst_0 ?_
      exact J210 (i0) (Or.inr (Or.inl ⟨t_c300_206, t_c305_207, rfl⟩))
    have t_c305_207 := ine c305_207
    refine s_iconst 309 C X at_308 kc_iconst_1 ?_
    refine s_goto 313 C X at_309 ?_
    exact J210 (i1) (Or.inr (Or.inr ⟨t_c300_206, t_c305_207, rfl⟩))
  intro y209 D210
  refine s_istore 315 C X (l' := #[iv x0, iv x1, iv x2, iv x3, iv yF, iv yF_5, iv yF_9, iv yF_13, iv yF_17, iv yF_21, iv yF_25, iv nv27, iv pr28, rv o29, rv o473, rv o46, iv i1, iv y174, iv y179, iv y184, iv y189, iv y194, iv y194, iv y199, iv y204, iv y209, un, un, un, un, un, un, un, un, un]) at_313 rfl ?_
  refine s_iload 317 C X at_315 rfl ?_
  refine s_istore 319 C X (l' := #[iv x0, iv x1, iv x2, iv x3, iv yF, iv yF_5, iv yF_9, iv yF_13, iv yF_17, iv yF_21, iv yF_25, iv nv27, iv pr28, rv o29, rv o473, rv o46, iv i1, iv y174, iv y179, iv y184, iv y189, iv y194, iv y194, iv y199, iv y204, iv y209, iv y174, un, un, un, un, un, un, un, un]) at_317 rfl ?_
  refine s_iconst 320 C X at_319 kc_iconst_1 ?_
  refine s_iload 322 C X at_320 rfl ?_
  suffices J217 : ∀ (y216 : Int32) (D217 : ((¬ ((1 : Int) < (nv27).toInt)) ∧ y216 = i0) ∨ (((1 : Int) < (nv27).toInt) ∧ (¬ ((yF_5).toInt = (32 : Int))) ∧ y216 = i1) ∨ (((1 : Int) < (nv27).toInt) ∧ ((yF_5).toInt = (32 : Int)) ∧ ((y174).toInt = (0 : Int)) ∧ y216 = i0) ∨ (((1 : Int) < (nv27).toInt) ∧ ((yF_5).toInt = (32 : Int)) ∧ (¬ ((y174).toInt = (0 : Int))) ∧ ((y204).toInt = (0 : Int)) ∧ y216 = i0) ∨ (((1 : Int) < (nv27).toInt) ∧ ((yF_5).toInt = (32 : Int)) ∧ (¬ ((y174).toInt = (0 : Int))) ∧ (¬ ((y204).toInt = (0 : Int))) ∧ y216 = i1)), Run p e below n0 Q' G' m T 347 #[iv x0, iv x1, iv x2, iv x3, iv yF, iv yF_5, iv yF_9, iv yF_13, iv yF_17, iv yF_21, iv yF_25, iv nv27, iv pr28, rv o29, rv o473, rv o46, iv i1, iv y174, iv y179, iv y184, iv y189, iv y194, iv y194, iv y199, iv y204, iv y209, iv y174, un, un, un, un, un, un, un, un] [(.int y216)] by
    refine s_icmp_ge 346 325 C X at_322 (fun c322_211 => ?_) (fun c322_211 => ?_)
    · have t_c322_211 := inl c322_211
      refine s_iconst 347 C X at_346 kc_iconst_0 ?_
      exact J217 (i0) ((Or.inl ⟨t_c322_211, rfl⟩))
    have t_c322_211 := ilt c322_211
    refine s_iload 327 C X at_325 rfl ?_
    refine s_bipush 329 C X at_327 kc_bipush_32 ?_
    refine s_icmp_ne 342 332 C X at_329 (fun c329_212 => ?_) (fun c329_212 => ?_)
    · have t_c329_212 := ine c329_212
      refine s_iconst 343 C X at_342 kc_iconst_1 ?_
      refine s_goto 347 C X at_343 ?_
      exact J217 (i1) (Or.inr (Or.inl ⟨t_c322_211, t_c329_212, rfl⟩))
    have t_c329_212 := ieq c329_212
    refine s_iload 334 C X at_332 rfl ?_
    refine s_if_eq 346 337 C X at_334 (fun c334_213 => ?_) (fun c334_213 => ?_)
    · have t_c334_213 := ieq c334_213
      refine s_iconst 347 C X at_346 kc_iconst_0 ?_
      exact J217 (i0) (Or.inr (Or.inr (Or.inl ⟨t_c322_211, t_c329_212, t_c334_213, rfl⟩)))
    have t_c334_213 := ine c334_213
    refine s_iload 339 C X at_337 rfl ?_
    refine s_if_eq 346 342 C X at_339 (fun c339_214 => ?_) (fun c339_214 => ?_)
    · have t_c339_214 := ieq c339_214
      refine s_iconst 347 C X at_346 kc_iconst_0 ?_
      exact J217 (i0) (Or.inr (Or.inr (Or.inr (Or.inl ⟨t_c322_211, t_c329_212, t_c334_213, t_c339_214, rfl⟩))))
    have t_c339_214 := ine c339_214
    refine s_iconst 343 C X at_342 kc_iconst_1 ?_
    refine s_goto 347 C X at_343 ?_
    exact J217 (i1) (Or.inr (Or.inr (Or.inr (Or.inr ⟨t_c322_211, t_c329_212, t_c334_213, t_c339_214, rfl⟩))))
  intro y216 D217
  refine s_istore 349 C X (l' := #[iv x0, iv x1, iv x2, iv x3, iv yF, iv yF_5, iv yF_9, iv yF_13, iv yF_17, iv yF_21, iv yF_25, iv nv27, iv pr28, rv o29, rv o473, rv o46, iv i1, iv y174, iv y179, iv y184, iv y189, iv y194, iv y194, iv y199, iv y204, iv y209, iv y174, iv y216, un, un, un, un, un, un, un]) at_347 rfl ?_
  refine s_iconst 350 C X at_349 kc_iconst_2 ?_
  refine s_iload 352 C X at_350 rfl ?_
  suffices J224 : ∀ (y223 : Int32) (D224 : ((¬ ((2 : Int) < (nv27).toInt)) ∧ y223 = i0) ∨ (((2 : Int) < (nv27).toInt) ∧ (¬ ((yF_9).toInt = (32 : Int))) ∧ y223 = i1) ∨ (((2 : Int) < (nv27).toInt) ∧ ((yF_9).toInt = (32 : Int)) ∧ ((y179).toInt = (0 : Int)) ∧ y223 = i0) ∨ (((2 : Int) < (nv27).toInt) ∧ ((yF_9).toInt = (32 : Int)) ∧ (¬ ((y179).toInt = (0 : Int))) ∧ ((y199).toInt = (0 : Int)) ∧ y223 = i0) ∨ (((2 : Int) < (nv27).toInt) ∧ ((yF_9).toInt = (32 : Int)) ∧ (¬ ((y179).toInt = (0 : Int))) ∧ (¬ ((y199).toInt = (0 : Int))) ∧ y223 = i1)), Run p e below n0 Q' G' m T 377 #[iv x0, iv x1, iv x2, iv x3, iv yF, iv yF_5, iv yF_9, iv yF_13, iv yF_17, iv yF_21, iv yF_25, iv nv27, iv pr28, rv o29, rv o473, rv o46, iv i1, iv y174, iv y179, iv y184, iv y189, iv y194, iv y194, iv y199, iv y204, iv y209, iv y174, iv y216, un, un, un, un, un, un, un] [(.int y223)] by
    refine s_icmp_ge 376 355 C X at_352 (fun c352_218 => ?_) (fun c352_218 => ?_)
    · have t_c352_218 := inl c352_218
      refine s_iconst 377 C X at_376 kc_iconst_0 ?_
      exact J224 (i0) ((Or.inl ⟨t_c352_218, rfl⟩))
    have t_c352_218 := ilt c352_218
    refine s_iload 357 C X at_355 rfl ?_
    refine s_bipush 359 C X at_357 kc_bipush_32 ?_
    refine s_icmp_ne 372 362 C X at_359 (fun c359_219 => ?_) (fun c359_219 => ?_)
    · have t_c359_219 := ine c359_219
      refine s_iconst 373 C X at_372 kc_iconst_1 ?_
      refine s_goto 377 C X at_373 ?_
      exact J224 (i1) (Or.inr (Or.inl ⟨t_c352_218, t_c359_219, rfl⟩))
    have t_c359_219 := ieq c359_219
    refine s_iload 364 C X at_362 rfl ?_
    refine s_if_eq 376 367 C X at_364 (fun c364_220 => ?_) (fun c364_220 => ?_)
    · have t_c364_220 := ieq c364_220
      refine s_iconst 377 C X at_376 kc_iconst_0 ?_
      exact J224 (i0) (Or.inr (Or.inr (Or.inl ⟨t_c352_218, t_c359_219, t_c364_220, rfl⟩)))
    have t_c364_220 := ine c364_220
    refine s_iload 369 C X at_367 rfl ?_
    refine s_if_eq 376 372 C X at_369 (fun c369_221 => ?_) (fun c369_221 => ?_)
    · have t_c369_221 := ieq c369_221
      refine s_iconst 377 C X at_376 kc_iconst_0 ?_
      exact J224 (i0) (Or.inr (Or.inr (Or.inr (Or.inl ⟨t_c352_218, t_c359_219, t_c364_220, t_c369_221, rfl⟩))))
    have t_c369_221 := ine c369_221
    refine s_iconst 373 C X at_372 kc_iconst_1 ?_
    refine s_goto 377 C X at_373 ?_
    exact J224 (i1) (Or.inr (Or.inr (Or.inr (Or.inr ⟨t_c352_218, t_c359_219, t_c364_220, t_c369_221, rfl⟩))))
  intro y223 D224
  refine s_istore 379 C X (l' := #[iv x0, iv x1, iv x2, iv x3, iv yF, iv yF_5, iv yF_9, iv yF_13, iv yF_17, iv yF_21, iv yF_25, iv nv27, iv pr28, rv o29, rv o473, rv o46, iv i1, iv y174, iv y179, iv y184, iv y189, iv y194, iv y194, iv y199, iv y204, iv y209, iv y174, iv y216, iv y223, un, un, un, un, un, un]) at_377 rfl ?_
  refine s_iconst 380 C X at_379 kc_iconst_3 ?_
  refine s_iload 382 C X at_380 rfl ?_
  suffices J231 : ∀ (y230 : Int32) (D231 : ((¬ ((3 : Int) < (nv27).toInt)) ∧ y230 = i0) ∨ (((3 : Int) < (nv27).toInt) ∧ (¬ ((yF_13).toInt = (32 : Int))) ∧ y230 = i1) ∨ (((3 : Int) < (nv27).toInt) ∧ ((yF_13).toInt = (32 : Int)) ∧ ((y184).toInt = (0 : Int)) ∧ y230 = i0) ∨ (((3 : Int) < (nv27).toInt) ∧ ((yF_13).toInt = (32 : Int)) ∧ (¬ ((y184).toInt = (0 : Int))) ∧ ((y194).toInt = (0 : Int)) ∧ y230 = i0) ∨ (((3 : Int) < (nv27).toInt) ∧ ((yF_13).toInt = (32 : Int)) ∧ (¬ ((y184).toInt = (0 : Int))) ∧ (¬ ((y194).toInt = (0 : Int))) ∧ y230 = i1)), Run p e below n0 Q' G' m T 407 #[iv x0, iv x1, iv x2, iv x3, iv yF, iv yF_5, iv yF_9, iv yF_13, iv yF_17, iv yF_21, iv yF_25, iv nv27, iv pr28, rv o29, rv o473, rv o46, iv i1, iv y174, iv y179, iv y184, iv y189, iv y194, iv y194, iv y199, iv y204, iv y209, iv y174, iv y216, iv y223, un, un, un, un, un, un] [(.int y230)] by
    refine s_icmp_ge 406 385 C X at_382 (fun c382_225 => ?_) (fun c382_225 => ?_)
    · have t_c382_225 := inl c382_225
      refine s_iconst 407 C X at_406 kc_iconst_0 ?_
      exact J231 (i0) ((Or.inl ⟨t_c382_225, rfl⟩))
    have t_c382_225 := ilt c382_225
    refine s_iload 387 C X at_385 rfl ?_
    refine s_bipush 389 C X at_387 kc_bipush_32 ?_
    refine s_icmp_ne 402 392 C X at_389 (fun c389_226 => ?_) (fun c389_226 => ?_)
    · have t_c389_226 := ine c389_226
      refine s_iconst 403 C X at_402 kc_iconst_1 ?_
      refine s_goto 407 C X at_403 ?_
      exact J231 (i1) (Or.inr (Or.inl ⟨t_c382_225, t_c389_226, rfl⟩))
    have t_c389_226 := ieq c389_226
    refine s_iload 394 C X at_392 rfl ?_
    refine s_if_eq 406 397 C X at_394 (fun c394_227 => ?_) (fun c394_227 => ?_)
    · have t_c394_227 := ieq c394_227
      refine s_iconst 407 C X at_406 kc_iconst_0 ?_
      exact J231 (i0) (Or.inr (Or.inr (Or.inl ⟨t_c382_225, t_c389_226, t_c394_227, rfl⟩)))
    have t_c394_227 := ine c394_227
    refine s_iload 399 C X at_397 rfl ?_
    refine s_if_eq 406 402 C X at_399 (fun c399_228 => ?_) (fun c399_228 => ?_)
    · have t_c399_228 := ieq c399_228
      refine s_iconst 407 C X at_406 kc_iconst_0 ?_
      exact J231 (i0) (Or.inr (Or.inr (Or.inr (Or.inl ⟨t_c382_225, t_c389_226, t_c394_227, t_c399_228, rfl⟩))))
    have t_c399_228 := ine c399_228
    refine s_iconst 403 C X at_402 kc_iconst_1 ?_
    refine s_goto 407 C X at_403 ?_
    exact J231 (i1) (Or.inr (Or.inr (Or.inr (Or.inr ⟨t_c382_225, t_c389_226, t_c394_227, t_c399_228, rfl⟩))))
  intro y230 D231
  refine s_istore 409 C X (l' := #[iv x0, iv x1, iv x2, iv x3, iv yF, iv yF_5, iv yF_9, iv yF_13, iv yF_17, iv yF_21, iv yF_25, iv nv27, iv pr28, rv o29, rv o473, rv o46, iv i1, iv y174, iv y179, iv y184, iv y189, iv y194, iv y194, iv y199, iv y204, iv y209, iv y174, iv y216, iv y223, iv y230, un, un, un, un, un]) at_407 rfl ?_
  refine s_iconst 410 C X at_409 kc_iconst_4 ?_
  refine s_iload 412 C X at_410 rfl ?_
  suffices J236 : ∀ (y235 : Int32) (D236 : ((¬ ((4 : Int) < (nv27).toInt)) ∧ y235 = i0) ∨ (((4 : Int) < (nv27).toInt) ∧ ((yF_17).toInt = (32 : Int)) ∧ y235 = i0) ∨ (((4 : Int) < (nv27).toInt) ∧ (¬ ((yF_17).toInt = (32 : Int))) ∧ y235 = i1)), Run p e below n0 Q' G' m T 427 #[iv x0, iv x1, iv x2, iv x3, iv yF, iv yF_5, iv yF_9, iv yF_13, iv yF_17, iv yF_21, iv yF_25, iv nv27, iv pr28, rv o29, rv o473, rv o46, iv i1, iv y174, iv y179, iv y184, iv y189, iv y194, iv y194, iv y199, iv y204, iv y209, iv y174, iv y216, iv y223, iv y230, un, un, un, un, un] [(.int y235)] by
    refine s_icmp_ge 426 415 C X at_412 (fun c412_232 => ?_) (fun c412_232 => ?_)
    · have t_c412_232 := inl c412_232
      refine s_iconst 427 C X at_426 kc_iconst_0 ?_
      exact J236 (i0) ((Or.inl ⟨t_c412_232, rfl⟩))
    have t_c412_232 := ilt c412_232
    refine s_iload 417 C X at_415 rfl ?_
    refine s_bipush 419 C X at_417 kc_bipush_32 ?_
    refine s_icmp_eq 426 422 C X at_419 (fun c419_233 => ?_) (fun c419_233 => ?_)
    · have t_c419_233 := ieq c419_233
      refine s_iconst 427 C X at_426 kc_iconst_0 ?_
      exact J236 (i0) (Or.inr (Or.inl ⟨t_c412_232, t_c419_233, rfl⟩))
    have t_c419_233 := ine c419_233
    refine s_iconst 423 C X at_422 kc_iconst_1 ?_
    refine s_goto 427 C X at_423 ?_
    exact J236 (i1) (Or.inr (Or.inr ⟨t_c412_232, t_c419_233, rfl⟩))
  intro y235 D236
  refine s_istore 429 C X (l' := #[iv x0, iv x1, iv x2, iv x3, iv yF, iv yF_5, iv yF_9, iv yF_13, iv yF_17, iv yF_21, iv yF_25, iv nv27, iv pr28, rv o29, rv o473, rv o46, iv i1, iv y174, iv y179, iv y184, iv y189, iv y194, iv y194, iv y199, iv y204, iv y209, iv y174, iv y216, iv y223, iv y230, iv y235, un, un, un, un]) at_427 rfl ?_
  refine s_iconst 430 C X at_429 kc_iconst_5 ?_
  refine s_newarray 432 5 C X at_430 (mW 4 rfl) (by decide) (by decide) (fun T hh o237 k_o237 hb_o237 X E A_o237 g_o237 => ?_)
  have H_o237 : Safe Z EL1 vm _ o237 := Safe.ext E Rc.1.1 (Safe.new (Nat.le_of_eq hb_o237))
  have Rc := Rc.ext E
  have sz_o237 : h0.size ≤ o237 := Nat.le_trans Kp.1 (Nat.le_of_eq hb_o237)
  have ne_o473_o237 : o473 ≠ o237 := Nat.ne_of_lt (Nat.lt_of_lt_of_le A_o473.lt (Nat.le_of_eq hb_o237))
  have ne_o52_o237 : o52 ≠ o237 := Nat.ne_of_lt (Nat.lt_of_lt_of_le A_o52.lt (Nat.le_of_eq hb_o237))
  have ne_o46_o237 : o46 ≠ o237 := Nat.ne_of_lt (Nat.lt_of_lt_of_le E_o46.lt (Nat.le_of_eq hb_o237))
  have ne_o51_o237 : o51 ≠ o237 := Nat.ne_of_lt (Nat.lt_of_lt_of_le A_o51.lt (Nat.le_of_eq hb_o237))
  have ne_o53_o237 : o53 ≠ o237 := Nat.ne_of_lt (Nat.lt_of_lt_of_le A_o53.lt (Nat.le_of_eq hb_o237))
  have Od := Od.ext E
  have Kp := Kp.ext E
  have A_o473 := A_o473.ext E
  have A_o52 := A_o52.ext E
  have E_o46 := E_o46.ext E
  have F_o46_s := F_o46_s.ext E
  have F_o46_g := F_o46_g.ext E
  have F_o46_v := F_o46_v.ext E
  have F_o46_n := F_o46_n.ext E
  have A_o51 := A_o51.ext E
  have A_o53 := A_o53.ext E
  have A_o237 : Arv Z _ o237 k_o237 .char i5 [(.int i0), (.int i0), (.int i0), (.int i0), (.int i0)] (.int i0) := A_o237.pad (pad_rep [] _ 5)
  refine s_astore 434 C X (l' := #[iv x0, iv x1, iv x2, iv x3, iv yF, iv yF_5, iv yF_9, iv yF_13, iv yF_17, iv yF_21, iv yF_25, iv nv27, iv pr28, rv o29, rv o473, rv o46, iv i1, iv y174, iv y179, iv y184, iv y189, iv y194, iv y194, iv y199, iv y204, iv y209, iv y174, iv y216, iv y223, iv y230, iv y235, rv o237, un, un, un]) at_432 rfl rfl ?_
  refine s_iconst 435 C X at_434 kc_iconst_0 ?_
  refine s_istore 437 C X (l' := #[iv x0, iv x1, iv x2, iv x3, iv yF, iv yF_5, iv yF_9, iv yF_13, iv yF_17, iv yF_21, iv yF_25, iv nv27, iv pr28, rv o29, rv o473, rv o46, iv i1, iv y174, iv y179, iv y184, iv y189, iv y194, iv y194, iv y199, iv y204, iv y209, iv y174, iv y216, iv y223, iv y230, iv y235, rv o237, iv i0, un, un]) at_435 rfl ?_
  obtain ⟨es0, e_es0⟩ : ∃ z : List Int32, z = [0, 0, 0, 0, 0] := ⟨_, rfl⟩
  have A_o237 : Arv Z hh o237 k_o237 .char i5 (Y es0) (.int i0) := by rw [e_es0]; exact A_o237
  refine s_aload 439 C X at_437 rfl rfl ?_
  refine s_iload 441 C X at_439 rfl ?_
  refine s_iload 443 C X at_441 rfl ?_
  refine s_iload 445 C X at_443 rfl ?_
  obtain ⟨m0, e_m0⟩ : ∃ z : Int32, z = i0 := ⟨_, rfl⟩
  refine rc (st' := [(.int yF), (.int y174), (.int m0), (.ref o237)]) (by rw [e_m0]) ?_
  have hvq : own_Q 4 es0 m0 := by rw [e_es0, e_m0]; exact ⟨rfl, by decide, by decide⟩
  have hq0 : own_Q 0 es0 m0 := by rw [e_es0, e_m0]; exact ⟨rfl, by decide, by decide⟩
  have Sw_o237 : Safe Z EL1 vm _ o237 := H_o237
  refine s_callS 448 [(.ref o237), (.int m0), (.int y174), (.int yF)] [] 0 C X at_445 (mW 65 rfl) (mW 66 rfl) (mW 2 rfl) (mW 67 rfl) (rm_a11 l Z a0 hw yF y174 o237 es0 m0 k_o237 _ n0 X.sz A_o237 hvB g_o237 hvq) (lenOf pd___CIZC_I rfl) rfl rfl rfl (fun T v hh X q => ?_)
  obtain ⟨esF, mF, rfl, hvP, A_o237, Kc⟩ := q
  have Hs : ∀ x ∈ [o237], Safe Z EL1 vm _ x := (soS Sw_o237 so0)
  have H_o237 := Safe.keep Kc Hs Rc.1.1 H_o237
  have Rc := Rc.keep Kc Hs
  have Od := Od.keep Kc (allS g_o237 all0)
  have Kp := Kp.trans Kc (allS (Or.inr sz_o237) all0)
  have A_o473 := A_o473.keep Kc (ninS ne_o473_o237 nin0)
  have A_o52 := A_o52.keep Kc (ninS ne_o52_o237 nin0)
  have E_o46 := E_o46.keep Kc
  have F_o46_s := F_o46_s.keep Kc (ninS ne_o46_o237 nin0)
  have F_o46_g := F_o46_g.keep Kc (ninS ne_o46_o237 nin0)
  have F_o46_v := F_o46_v.keep Kc (ninS ne_o46_o237 nin0)
  have F_o46_n := F_o46_n.keep Kc (ninS ne_o46_o237 nin0)
  have A_o51 := A_o51.keep Kc (ninS ne_o51_o237 nin0)
  have A_o53 := A_o53.keep Kc (ninS ne_o53_o237 nin0)
  refine rc (st' := [(.int mF)]) rfl ?_
  have hq1 : own_Q 1 esF mF := own_q2 hq0 (by decide) hvP
  refine s_istore 450 C X (l' := #[iv x0, iv x1, iv x2, iv x3, iv yF, iv yF_5, iv yF_9, iv yF_13, iv yF_17, iv yF_21, iv yF_25, iv nv27, iv pr28, rv o29, rv o473, rv o46, iv i1, iv y174, iv y179, iv y184, iv y189, iv y194, iv y194, iv y199, iv y204, iv y209, iv y174, iv y216, iv y223, iv y230, iv y235, rv o237, iv mF, un, un]) at_448 rfl ?_
  refine s_aload 452 C X at_450 rfl rfl ?_
  refine s_iload 454 C X at_452 rfl ?_
  refine s_iload 456 C X at_454 rfl ?_
  refine s_iload 458 C X at_456 rfl ?_
  have hvq : own_Q 4 esF mF := own_q4 hq1 (by decide)
  have Sw_o237 : Safe Z EL1 vm _ o237 := H_o237
  refine s_callS 461 [(.ref o237), (.int mF), (.int y216), (.int yF_5)] [] 0 C X at_458 (mW 65 rfl) (mW 66 rfl) (mW 2 rfl) (mW 67 rfl) (rm_a11 l Z a0 hw yF_5 y216 o237 esF mF k_o237 _ n0 X.sz A_o237 hvB_6 g_o237 hvq) (lenOf pd___CIZC_I rfl) rfl rfl rfl (fun T v hh X q => ?_)
  obtain ⟨esF_253, mF_254, rfl, hvP_257, A_o237, Kc⟩ := q
  have Hs : ∀ x ∈ [o237], Safe Z EL1 vm _ x := (soS Sw_o237 so0)
  have H_o237 := Safe.keep Kc Hs Rc.1.1 H_o237
  have Rc := Rc.keep Kc Hs
  have Od := Od.keep Kc (allS g_o237 all0)
  have Kp := Kp.trans Kc (allS (Or.inr sz_o237) all0)
  have A_o473 := A_o473.keep Kc (ninS ne_o473_o237 nin0)
  have A_o52 := A_o52.keep Kc (ninS ne_o52_o237 nin0)
  have E_o46 := E_o46.keep Kc
  have F_o46_s := F_o46_s.keep Kc (ninS ne_o46_o237 nin0)
  have F_o46_g := F_o46_g.keep Kc (ninS ne_o46_o237 nin0)
  have F_o46_v := F_o46_v.keep Kc (ninS ne_o46_o237 nin0)
  have F_o46_n := F_o46_n.keep Kc (ninS ne_o46_o237 nin0)
  have A_o51 := A_o51.keep Kc (ninS ne_o51_o237 nin0)
  have A_o53 := A_o53.keep Kc (ninS ne_o53_o237 nin0)
  refine rc (st' := [(.int mF_254)]) rfl ?_
  have hq2 : own_Q 2 esF_253 mF_254 := own_q2 hq1 (by decide) hvP_257
  refine s_istore 463 C X (l' := #[iv x0, iv x1, iv x2, iv x3, iv yF, iv yF_5, iv yF_9, iv yF_13, iv yF_17, iv yF_21, iv yF_25, iv nv27, iv pr28, rv o29, rv o473, rv o46, iv i1, iv y174, iv y179, iv y184, iv y189, iv y194, iv y194, iv y199, iv y204, iv y209, iv y174, iv y216, iv y223, iv y230, iv y235, rv o237, iv mF_254, un, un]) at_461 rfl ?_
  refine s_aload 465 C X at_463 rfl rfl ?_
  refine s_iload 467 C X at_465 rfl ?_
  refine s_iload 469 C X at_467 rfl ?_
  refine s_iload 471 C X at_469 rfl ?_
  have hvq : own_Q 4 esF_253 mF_254 := own_q4 hq2 (by decide)
  have Sw_o237 : Safe Z EL1 vm _ o237 := H_o237
  refine s_callS 474 [(.ref o237), (.int mF_254), (.int y223), (.int yF_9)] [] 0 C X at_471 (mW 65 rfl) (mW 66 rfl) (mW 2 rfl) (mW 67 rfl) (rm_a11 l Z a0 hw yF_9 y223 o237 esF_253 mF_254 k_o237 _ n0 X.sz A_o237 hvB_10 g_o237 hvq) (lenOf pd___CIZC_I rfl) rfl rfl rfl (fun T v hh X q => ?_)
  obtain ⟨esF_260, mF_261, rfl, hvP_262, A_o237, Kc⟩ := q
  have Hs : ∀ x ∈ [o237], Safe Z EL1 vm _ x := (soS Sw_o237 so0)
  have H_o237 := Safe.keep Kc Hs Rc.1.1 H_o237
  have Rc := Rc.keep Kc Hs
  have Od := Od.keep Kc (allS g_o237 all0)
  have Kp := Kp.trans Kc (allS (Or.inr sz_o237) all0)
  have A_o473 := A_o473.keep Kc (ninS ne_o473_o237 nin0)
  have A_o52 := A_o52.keep Kc (ninS ne_o52_o237 nin0)
  have E_o46 := E_o46.keep Kc
  have F_o46_s := F_o46_s.keep Kc (ninS ne_o46_o237 nin0)
  have F_o46_g := F_o46_g.keep Kc (ninS ne_o46_o237 nin0)
  have F_o46_v := F_o46_v.keep Kc (ninS ne_o46_o237 nin0)
  have F_o46_n := F_o46_n.keep Kc (ninS ne_o46_o237 nin0)
  have A_o51 := A_o51.keep Kc (ninS ne_o51_o237 nin0)
  have A_o53 := A_o53.keep Kc (ninS ne_o53_o237 nin0)
  refine rc (st' := [(.int mF_261)]) rfl ?_
  have hq3 : own_Q 3 esF_260 mF_261 := own_q2 hq2 (by decide) hvP_262
  refine s_istore 476 C X (l' := #[iv x0, iv x1, iv x2, iv x3, iv yF, iv yF_5, iv yF_9, iv yF_13, iv yF_17, iv yF_21, iv yF_25, iv nv27, iv pr28, rv o29, rv o473, rv o46, iv i1, iv y174, iv y179, iv y184, iv y189, iv y194, iv y194, iv y199, iv y204, iv y209, iv y174, iv y216, iv y223, iv y230, iv y235, rv o237, iv mF_261, un, un]) at_474 rfl ?_
  refine s_aload 478 C X at_476 rfl rfl ?_
  refine s_iload 480 C X at_478 rfl ?_
  refine s_iload 482 C X at_480 rfl ?_
  refine s_iload 484 C X at_482 rfl ?_
  have hvq : own_Q 4 esF_260 mF_261 := own_q4 hq3 (by decide)
  have Sw_o237 : Safe Z EL1 vm _ o237 := H_o237
  refine s_callS 487 [(.ref o237), (.int mF_261), (.int y230), (.int yF_13)] [] 0 C X at_484 (mW 65 rfl) (mW 66 rfl) (mW 2 rfl) (mW 67 rfl) (rm_a11 l Z a0 hw yF_13 y230 o237 esF_260 mF_261 k_o237 _ n0 X.sz A_o237 hvB_14 g_o237 hvq) (lenOf pd___CIZC_I rfl) rfl rfl rfl (fun T v hh X q => ?_)
  obtain ⟨esF_265, mF_266, rfl, hvP_267, A_o237, Kc⟩ := q
  have Hs : ∀ x ∈ [o237], Safe Z EL1 vm _ x := (soS Sw_o237 so0)
  have H_o237 := Safe.keep Kc Hs Rc.1.1 H_o237
  have Rc := Rc.keep Kc Hs
  have Od := Od.keep Kc (allS g_o237 all0)
  have Kp := Kp.trans Kc (allS (Or.inr sz_o237) all0)
  have A_o473 := A_o473.keep Kc (ninS ne_o473_o237 nin0)
  have A_o52 := A_o52.keep Kc (ninS ne_o52_o237 nin0)
  have E_o46 := E_o46.keep Kc
  have F_o46_s := F_o46_s.keep Kc (ninS ne_o46_o237 nin0)
  have F_o46_g := F_o46_g.keep Kc (ninS ne_o46_o237 nin0)
  have F_o46_v := F_o46_v.keep Kc (ninS ne_o46_o237 nin0)
  have F_o46_n := F_o46_n.keep Kc (ninS ne_o46_o237 nin0)
  have A_o51 := A_o51.keep Kc (ninS ne_o51_o237 nin0)
  have A_o53 := A_o53.keep Kc (ninS ne_o53_o237 nin0)
  refine rc (st' := [(.int mF_266)]) rfl ?_
  have hq4 : own_Q 4 esF_265 mF_266 := own_q2 hq3 (by decide) hvP_267
  refine s_istore 489 C X (l' := #[iv x0, iv x1, iv x2, iv x3, iv yF, iv yF_5, iv yF_9, iv yF_13, iv yF_17, iv yF_21, iv yF_25, iv nv27, iv pr28, rv o29, rv o473, rv o46, iv i1, iv y174, iv y179, iv y184, iv y189, iv y194, iv y194, iv y199, iv y204, iv y209, iv y174, iv y216, iv y223, iv y230, iv y235, rv o237, iv mF_266, un, un]) at_487 rfl ?_
  refine s_aload 491 C X at_489 rfl rfl ?_
  refine s_iload 493 C X at_491 rfl ?_
  refine s_iload 495 C X at_493 rfl ?_
  refine s_iload 497 C X at_495 rfl ?_
  have hvq : own_Q 4 esF_265 mF_266 := own_q4 hq4 (by decide)
  have Sw_o237 : Safe Z EL1 vm _ o237 := H_o237
  refine s_callS 500 [(.ref o237), (.int mF_266), (.int y235), (.int yF_17)] [] 0 C X at_497 (mW 65 rfl) (mW 66 rfl) (mW 2 rfl) (mW 67 rfl) (rm_a11 l Z a0 hw yF_17 y235 o237 esF_265 mF_266 k_o237 _ n0 X.sz A_o237 hvB_18 g_o237 hvq) (lenOf pd___CIZC_I rfl) rfl rfl rfl (fun T v hh X q => ?_)
  obtain ⟨esF_270, mF_271, rfl, hvP_272, A_o237, Kc⟩ := q
  have Hs : ∀ x ∈ [o237], Safe Z EL1 vm _ x := (soS Sw_o237 so0)
  have Rc := Rc.keep Kc Hs
  have Od := Od.keep Kc (allS g_o237 all0)
  have Kp := Kp.trans Kc (allS (Or.inr sz_o237) all0)
  have A_o473 := A_o473.keep Kc (ninS ne_o473_o237 nin0)
  have A_o52 := A_o52.keep Kc (ninS ne_o52_o237 nin0)
  have E_o46 := E_o46.keep Kc
  have F_o46_s := F_o46_s.keep Kc (ninS ne_o46_o237 nin0)
  have F_o46_g := F_o46_g.keep Kc (ninS ne_o46_o237 nin0)
  have F_o46_v := F_o46_v.keep Kc (ninS ne_o46_o237 nin0)
  have F_o46_n := F_o46_n.keep Kc (ninS ne_o46_o237 nin0)
  have A_o51 := A_o51.keep Kc (ninS ne_o51_o237 nin0)
  have A_o53 := A_o53.keep Kc (ninS ne_o53_o237 nin0)
  refine rc (st' := [(.int mF_271)]) rfl ?_
  have hq5 : own_Q 5 esF_270 mF_271 := own_q2 hq4 (by decide) hvP_272
  refine s_istore 502 C X (l' := #[iv x0, iv x1, iv x2, iv x3, iv yF, iv yF_5, iv yF_9, iv yF_13, iv yF_17, iv yF_21, iv yF_25, iv nv27, iv pr28, rv o29, rv o473, rv o46, iv i1, iv y174, iv y179, iv y184, iv y189, iv y194, iv y194, iv y199, iv y204, iv y209, iv y174, iv y216, iv y223, iv y230, iv y235, rv o237, iv mF_271, un, un]) at_500 rfl ?_
  refine s_aload 504 C X at_502 rfl rfl ?_
  refine s_iload 506 C X at_504 rfl ?_
  refine s_hcallV 509 [(.int i1)] [] 0 C X hS Rc.2 (own_EL hw) Rc.1.1 at_506 (mW 68 rfl) (mW 69 rfl) (nF C (mW 71 rfl)) (mW 71 rfl) (mW 70 rfl) (mW 7 rfl) (mW 72 rfl) E_o46 (rm_a83 l Z a0 hw cs fm yF yF_5 yF_9 yF_13 yF_17 yF_21 nv27 o46 k_o51 k_o52 k_o53 o51 o52 o53 tF xsF _ n0 X.sz Od S_cs S_fm A_o52 F_o46_s F_o46_g F_o46_v A_o51 A_o53 hv_cs hv_fm hvB hvB_6 hvB_10 hvB_14 hvB_18 g_o52 ne_o46_o52 ne_o51_o52 ne_o52_o53 O_o52 hvC) (lenOf pd__I_Ljava_lang_String_ rfl) rfl rfl rfl so0 (fun T v hh vm k1 C X hS Nk Rn q => ?_)
  obtain ⟨bF, k_bF, m277, o276, zsF, rfl, hvL, hvZ, A_o52, Kc, E_o276, F_o276_a, F_o276_k, Od, A_bF, ne_o52_o276, sz_o276', g_o276, ne_bF_o52⟩ := q
  have Rc := Rc.call Rn Nk
  have Kp := Kp.trans Kc (allS (Or.inr sz_o52) all0)
  have A_o473 := A_o473.keep Kc (ninS ne_o473_o52 nin0)
  have E_o46 := E_o46.keep Kc
  have F_o46_s := F_o46_s.keep Kc (ninS ne_o46_o52 nin0)
  have F_o46_g := F_o46_g.keep Kc (ninS ne_o46_o52 nin0)
  have F_o46_v := F_o46_v.keep Kc (ninS ne_o46_o52 nin0)
  have F_o46_n := F_o46_n.keep Kc (ninS ne_o46_o52 nin0)
  have A_o51 := A_o51.keep Kc (ninS ne_o51_o52 nin0)
  have A_o53 := A_o53.keep Kc (ninS (Ne.symm ne_o52_o53) nin0)
  have A_o237 := A_o237.keep Kc (ninS (Ne.symm ne_o52_o237) nin0)
  refine rc (st' := [(.ref o276)]) rfl ?_
  refine s_astore 511 C X (l' := #[iv x0, iv x1, iv x2, iv x3, iv yF, iv yF_5, iv yF_9, iv yF_13, iv yF_17, iv yF_21, iv yF_25, iv nv27, iv pr28, rv o29, rv o473, rv o46, iv i1, iv y174, iv y179, iv y184, iv y189, iv y194, iv y194, iv y199, iv y204, iv y209, iv y174, iv y216, iv y223, iv y230, iv y235, rv o237, iv mF_271, rv o276, un]) at_509 rfl rfl ?_
  refine s_aload 513 C X at_511 rfl rfl ?_
  refine s_callV 516 [] [] 0 C X at_513 (mW 104 rfl) (mW 105 rfl) (nF C (mW 107 rfl)) (mW 107 rfl) (mW 106 rfl) (mW 7 rfl) (mW 108 rfl) E_o46 (rm_a35 l Z a0 hw o46 _ n0 X.sz F_o46_n) (lenOf pd___I rfl) rfl rfl rfl (fun T v hh X q => ?_)
  obtain ⟨rfl, Kc⟩ := q
  have Rc := Rc.keep Kc so0
  have Kp := Kp.trans Kc all0
  have A_o473 := A_o473.keep Kc nin0
  have E_o46 := E_o46.keep Kc
  have F_o46_s := F_o46_s.keep Kc nin0
  have F_o46_g := F_o46_g.keep Kc nin0
  have F_o46_v := F_o46_v.keep Kc nin0
  have A_o51 := A_o51.keep Kc nin0
  have A_o53 := A_o53.keep Kc nin0
  have A_o237 := A_o237.keep Kc nin0
  have A_o52 := A_o52.keep Kc nin0
  have E_o276 := E_o276.keep Kc
  have F_o276_a := F_o276_a.keep Kc nin0
  have F_o276_k := F_o276_k.keep Kc nin0
  have Od := Od.keep Kc all0
  have A_bF := A_bF.keep Kc nin0
  refine rc (st' := [(.int i2)]) rfl ?_
  refine s_iload 518 C X at_516 rfl ?_
  refine s_iconst 519 C X at_518 kc_iconst_1 ?_
  refine s_iadd 520 C X at_519 ?_
  refine rc (st' := [(.int i2), (.int i2)]) (by rw [kf_7]) ?_
  refine s_icmp_ne 602 523 C X at_520 (fun c => absurd (by decide : i2 = i2) c) (fun _ => ?_)
  refine s_aload 525 C X at_523 rfl rfl ?_
  refine s_callV 528 [] [] 0 C X at_525 (mW 109 rfl) (mW 110 rfl) (nF C (mW 112 rfl)) (mW 112 rfl) (mW 111 rfl) (mW 32 rfl) (mW 113 rfl) E_o276 (rm_a23 l Z a0 hw cs bF k_bF m277 o276 zsF _ n0 X.sz S_cs E_o276 F_o276_a F_o276_k Od A_bF hv_cs) (lenOf pd___I rfl) rfl rfl rfl (fun T v hh X q => ?_)
  obtain ⟨rfl, Kc, Od⟩ := q
  have Rc := Rc.keep Kc so0
  have Kp := Kp.trans Kc all0
  have A_o473 := A_o473.keep Kc nin0
  have E_o46 := E_o46.keep Kc
  have F_o46_s := F_o46_s.keep Kc nin0
  have F_o46_g := F_o46_g.keep Kc nin0
  have F_o46_v := F_o46_v.keep Kc nin0
  have A_o51 := A_o51.keep Kc nin0
  have A_o53 := A_o53.keep Kc nin0
  have A_o237 := A_o237.keep Kc nin0
  have A_o52 := A_o52.keep Kc nin0
  have E_o276 := E_o276.keep Kc
  have F_o276_a := F_o276_a.keep Kc nin0
  have F_o276_k := F_o276_k.keep Kc nin0
  have A_bF := A_bF.keep Kc nin0
  refine rc (st' := [(.int m277)]) rfl ?_
  refine s_iload 530 C X at_528 rfl ?_
  have MAIN : m277 = mF_271 ∧ m277.toInt = (col [yF, yF_5, yF_9, yF_13, yF_17] nv27.toNatClampNeg).length ∧ ∀ k, k < (col [yF, yF_5, yF_9, yF_13, yF_17] nv27.toNatClampNeg).length → esF_270.getD k 0 = (col [yF, yF_5, yF_9, yF_13, yF_17] nv27.toNatClampNeg).getD k 0 := own_mn0 D175 D180 D185 D190 D195 D200 D205 D217 D224 D231 D236 hvP hvP_257 hvP_262 hvP_267 hvP_272 hvL hv_nv27 e_es0 e_m0
  have hvmm : m277 = mF_271 := MAIN.1
  refine s_icmp_ne 602 533 C X at_530 (fun c => absurd MAIN.1 c) (fun c530_313 => ?_)
  refine s_aload 535 C X at_533 rfl rfl ?_
  refine s_aload 537 C X at_535 rfl rfl ?_
  refine s_iload 539 C X at_537 rfl ?_
  refine s_iconst 540 C X at_539 kc_iconst_0 ?_
  obtain ⟨ix321, e_ix321⟩ : ∃ zz_ : Int32, zz_ = i0 := ⟨_, rfl⟩
  refine rc (st' := [(.int ix321), (.int mF_271), (.ref o237), (.ref o276)]) (by subst e_ix321; rfl) ?_
  have hvx_ix321 : own_X5 ix321 := by rw [e_ix321]; exact ⟨by decide, by decide⟩
  refine s_callS 543 [(.ref o276), (.ref o237), (.int mF_271), (.int ix321)] [] 0 C X at_540 (mW 119 rfl) (mW 120 rfl) (mW 2 rfl) (mW 121 rfl) (rm_a29 l Z a0 hw cs fm o237 k_o237 esF_270 mF_271 bF k_bF m277 o276 zsF ix321 _ n0 X.sz S_cs S_fm A_o237 E_o276 F_o276_a F_o276_k A_bF Od hv_cs hv_fm hvmm hvx_ix321) (lenOf pd__Ljava_lang_String__CII_Z rfl) rfl rfl rfl (fun T v hh X q => ?_)
  obtain ⟨y336, rfl, D337, Od, Kc⟩ := q
  have Rc := Rc.keep Kc so0
  have Kp := Kp.trans Kc all0
  have A_o473 := A_o473.keep Kc nin0
  have E_o46 := E_o46.keep Kc
  have F_o46_s := F_o46_s.keep Kc nin0
  have F_o46_g := F_o46_g.keep Kc nin0
  have F_o46_v := F_o46_v.keep Kc nin0
  have A_o51 := A_o51.keep Kc nin0
  have A_o53 := A_o53.keep Kc nin0
  have A_o237 := A_o237.keep Kc nin0
  have A_o52 := A_o52.keep Kc nin0
  have E_o276 := E_o276.keep Kc
  have F_o276_a := F_o276_a.keep Kc nin0
  have F_o276_k := F_o276_k.keep Kc nin0
  have A_bF := A_bF.keep Kc nin0
  refine rc (st' := [(.int y336)]) rfl ?_
  have a_0 : ¬ y336 = i0 := own_aty hvC hvZ hvmm MAIN.2.1 (MAIN.2.2 0) (own_B5 hvB hvB_6 hvB_10 hvB_14 hvB_18) (by rw [e_ix321]; rfl) D337
  refine s_if_eq 602 546 C X at_543 (fun c => absurd c a_0) (fun c543_338 => ?_)
  refine s_aload 548 C X at_546 rfl rfl ?_
  refine s_aload 550 C X at_548 rfl rfl ?_
  refine s_iload 552 C X at_550 rfl ?_
  refine s_iconst 553 C X at_552 kc_iconst_1 ?_
  obtain ⟨ix339, e_ix339⟩ : ∃ zz_ : Int32, zz_ = i1 := ⟨_, rfl⟩
  refine rc (st' := [(.int ix339), (.int mF_271), (.ref o237), (.ref o276)]) (by subst e_ix339; rfl) ?_
  have hvx_ix339 : own_X5 ix339 := by rw [e_ix339]; exact ⟨by decide, by decide⟩
  refine s_callS 556 [(.ref o276), (.ref o237), (.int mF_271), (.int ix339)] [] 0 C X at_553 (mW 119 rfl) (mW 120 rfl) (mW 2 rfl) (mW 121 rfl) (rm_a29 l Z a0 hw cs fm o237 k_o237 esF_270 mF_271 bF k_bF m277 o276 zsF ix339 _ n0 X.sz S_cs S_fm A_o237 E_o276 F_o276_a F_o276_k A_bF Od hv_cs hv_fm hvmm hvx_ix339) (lenOf pd__Ljava_lang_String__CII_Z rfl) rfl rfl rfl (fun T v hh X q => ?_)
  obtain ⟨y336_356, rfl, D337_357, Od, Kc⟩ := q
  have Rc := Rc.keep Kc so0
  have Kp := Kp.trans Kc all0
  have A_o473 := A_o473.keep Kc nin0
  have E_o46 := E_o46.keep Kc
  have F_o46_s := F_o46_s.keep Kc nin0
  have F_o46_g := F_o46_g.keep Kc nin0
  have F_o46_v := F_o46_v.keep Kc nin0
  have A_o51 := A_o51.keep Kc nin0
  have A_o53 := A_o53.keep Kc nin0
  have A_o237 := A_o237.keep Kc nin0
  have A_o52 := A_o52.keep Kc nin0
  have E_o276 := E_o276.keep Kc
  have F_o276_a := F_o276_a.keep Kc nin0
  have F_o276_k := F_o276_k.keep Kc nin0
  have A_bF := A_bF.keep Kc nin0
  refine rc (st' := [(.int y336_356)]) rfl ?_
  have a_1 : ¬ y336_356 = i0 := own_aty hvC hvZ hvmm MAIN.2.1 (MAIN.2.2 1) (own_B5 hvB hvB_6 hvB_10 hvB_14 hvB_18) (by rw [e_ix339]; rfl) D337_357
  refine s_if_eq 602 559 C X at_556 (fun c => absurd c a_1) (fun c556_358 => ?_)
  refine s_aload 561 C X at_559 rfl rfl ?_
  refine s_aload 563 C X at_561 rfl rfl ?_
  refine s_iload 565 C X at_563 rfl ?_
  refine s_iconst 566 C X at_565 kc_iconst_2 ?_
  obtain ⟨ix359, e_ix359⟩ : ∃ zz_ : Int32, zz_ = i2 := ⟨_, rfl⟩
  refine rc (st' := [(.int ix359), (.int mF_271), (.ref o237), (.ref o276)]) (by subst e_ix359; rfl) ?_
  have hvx_ix359 : own_X5 ix359 := by rw [e_ix359]; exact ⟨by decide, by decide⟩
  refine s_callS 569 [(.ref o276), (.ref o237), (.int mF_271), (.int ix359)] [] 0 C X at_566 (mW 119 rfl) (mW 120 rfl) (mW 2 rfl) (mW 121 rfl) (rm_a29 l Z a0 hw cs fm o237 k_o237 esF_270 mF_271 bF k_bF m277 o276 zsF ix359 _ n0 X.sz S_cs S_fm A_o237 E_o276 F_o276_a F_o276_k A_bF Od hv_cs hv_fm hvmm hvx_ix359) (lenOf pd__Ljava_lang_String__CII_Z rfl) rfl rfl rfl (fun T v hh X q => ?_)
  obtain ⟨y336_376, rfl, D337_377, Od, Kc⟩ := q
  have Rc := Rc.keep Kc so0
  have Kp := Kp.trans Kc all0
  have A_o473 := A_o473.keep Kc nin0
  have E_o46 := E_o46.keep Kc
  have F_o46_s := F_o46_s.keep Kc nin0
  have F_o46_g := F_o46_g.keep Kc nin0
  have F_o46_v := F_o46_v.keep Kc nin0
  have A_o51 := A_o51.keep Kc nin0
  have A_o53 := A_o53.keep Kc nin0
  have A_o237 := A_o237.keep Kc nin0
  have A_o52 := A_o52.keep Kc nin0
  have E_o276 := E_o276.keep Kc
  have F_o276_a := F_o276_a.keep Kc nin0
  have F_o276_k := F_o276_k.keep Kc nin0
  have A_bF := A_bF.keep Kc nin0
  refine rc (st' := [(.int y336_376)]) rfl ?_
  have a_2 : ¬ y336_376 = i0 := own_aty hvC hvZ hvmm MAIN.2.1 (MAIN.2.2 2) (own_B5 hvB hvB_6 hvB_10 hvB_14 hvB_18) (by rw [e_ix359]; rfl) D337_377
  refine s_if_eq 602 572 C X at_569 (fun c => absurd c a_2) (fun c569_378 => ?_)
  refine s_aload 574 C X at_572 rfl rfl ?_
  refine s_aload 576 C X at_574 rfl rfl ?_
  refine s_iload 578 C X at_576 rfl ?_
  refine s_iconst 579 C X at_578 kc_iconst_3 ?_
  obtain ⟨ix379, e_ix379⟩ : ∃ zz_ : Int32, zz_ = i3 := ⟨_, rfl⟩
  refine rc (st' := [(.int ix379), (.int mF_271), (.ref o237), (.ref o276)]) (by subst e_ix379; rfl) ?_
  have hvx_ix379 : own_X5 ix379 := by rw [e_ix379]; exact ⟨by decide, by decide⟩
  refine s_callS 582 [(.ref o276), (.ref o237), (.int mF_271), (.int ix379)] [] 0 C X at_579 (mW 119 rfl) (mW 120 rfl) (mW 2 rfl) (mW 121 rfl) (rm_a29 l Z a0 hw cs fm o237 k_o237 esF_270 mF_271 bF k_bF m277 o276 zsF ix379 _ n0 X.sz S_cs S_fm A_o237 E_o276 F_o276_a F_o276_k A_bF Od hv_cs hv_fm hvmm hvx_ix379) (lenOf pd__Ljava_lang_String__CII_Z rfl) rfl rfl rfl (fun T v hh X q => ?_)
  obtain ⟨y336_396, rfl, D337_397, Od, Kc⟩ := q
  have Rc := Rc.keep Kc so0
  have Kp := Kp.trans Kc all0
  have A_o473 := A_o473.keep Kc nin0
  have E_o46 := E_o46.keep Kc
  have F_o46_s := F_o46_s.keep Kc nin0
  have F_o46_g := F_o46_g.keep Kc nin0
  have F_o46_v := F_o46_v.keep Kc nin0
  have A_o51 := A_o51.keep Kc nin0
  have A_o53 := A_o53.keep Kc nin0
  have A_o237 := A_o237.keep Kc nin0
  have A_o52 := A_o52.keep Kc nin0
  have E_o276 := E_o276.keep Kc
  have F_o276_a := F_o276_a.keep Kc nin0
  have F_o276_k := F_o276_k.keep Kc nin0
  have A_bF := A_bF.keep Kc nin0
  refine rc (st' := [(.int y336_396)]) rfl ?_
  have a_3 : ¬ y336_396 = i0 := own_aty hvC hvZ hvmm MAIN.2.1 (MAIN.2.2 3) (own_B5 hvB hvB_6 hvB_10 hvB_14 hvB_18) (by rw [e_ix379]; rfl) D337_397
  refine s_if_eq 602 585 C X at_582 (fun c => absurd c a_3) (fun c582_398 => ?_)
  refine s_aload 587 C X at_585 rfl rfl ?_
  refine s_aload 589 C X at_587 rfl rfl ?_
  refine s_iload 591 C X at_589 rfl ?_
  refine s_iconst 592 C X at_591 kc_iconst_4 ?_
  obtain ⟨ix399, e_ix399⟩ : ∃ zz_ : Int32, zz_ = i4 := ⟨_, rfl⟩
  refine rc (st' := [(.int ix399), (.int mF_271), (.ref o237), (.ref o276)]) (by subst e_ix399; rfl) ?_
  have hvx_ix399 : own_X5 ix399 := by rw [e_ix399]; exact ⟨by decide, by decide⟩
  refine s_callS 595 [(.ref o276), (.ref o237), (.int mF_271), (.int ix399)] [] 0 C X at_592 (mW 119 rfl) (mW 120 rfl) (mW 2 rfl) (mW 121 rfl) (rm_a29 l Z a0 hw cs fm o237 k_o237 esF_270 mF_271 bF k_bF m277 o276 zsF ix399 _ n0 X.sz S_cs S_fm A_o237 E_o276 F_o276_a F_o276_k A_bF Od hv_cs hv_fm hvmm hvx_ix399) (lenOf pd__Ljava_lang_String__CII_Z rfl) rfl rfl rfl (fun T v hh X q => ?_)
  obtain ⟨y336_416, rfl, D337_417, Od, Kc⟩ := q
  have Rc := Rc.keep Kc so0
  have Kp := Kp.trans Kc all0
  have A_o473 := A_o473.keep Kc nin0
  have E_o46 := E_o46.keep Kc
  have F_o46_s := F_o46_s.keep Kc nin0
  have F_o46_g := F_o46_g.keep Kc nin0
  have F_o46_v := F_o46_v.keep Kc nin0
  have A_o51 := A_o51.keep Kc nin0
  have A_o53 := A_o53.keep Kc nin0
  have A_o52 := A_o52.keep Kc nin0
  refine rc (st' := [(.int y336_416)]) rfl ?_
  have a_4 : ¬ y336_416 = i0 := own_aty hvC hvZ hvmm MAIN.2.1 (MAIN.2.2 4) (own_B5 hvB hvB_6 hvB_10 hvB_14 hvB_18) (by rw [e_ix399]; rfl) D337_417
  refine s_if_eq 602 598 C X at_595 (fun c => absurd c a_4) (fun c595_418 => ?_)
  refine s_iconst 599 C X at_598 kc_iconst_1 ?_
  refine s_goto 603 C X at_599 ?_
  refine s_istore 605 C X (l' := #[iv x0, iv x1, iv x2, iv x3, iv yF, iv yF_5, iv yF_9, iv yF_13, iv yF_17, iv yF_21, iv yF_25, iv nv27, iv pr28, rv o29, rv o473, rv o46, iv i1, iv y174, iv y179, iv y184, iv y189, iv y194, iv y194, iv y199, iv y204, iv y209, iv y174, iv y216, iv y223, iv y230, iv y235, rv o237, iv mF_271, rv o276, iv i1]) at_603 rfl ?_
  refine s_iload 607 C X at_605 rfl ?_
  refine s_if_eq 643 610 C X at_607 (fun c => absurd (c.symm.trans c103_30) (by decide)) (fun c607_419 => ?_)
  refine s_iload 612 C X at_610 rfl ?_
  refine s_if_eq 640 615 C X at_612 (fun c => absurd c (by decide)) (fun _ => ?_)
  have hvl0 : (Y xsF).getD (i0).toNatClampNeg (.int 0) = .int yF_21 := own_pl hvC (k := 0) (by decide) rfl rfl
  refine s_aload 617 C X at_615 rfl rfl ?_
  refine s_iconst 618 C X at_617 kc_iconst_0 ?_
  refine s_hcallV 621 [(.int i0)] [] 0 C X hS Rc.2 (own_EL hw) Rc.1.1 at_618 (mW 68 rfl) (mW 69 rfl) (nF C (mW 71 rfl)) (mW 71 rfl) (mW 70 rfl) (mW 7 rfl) (mW 72 rfl) E_o46 (rm_a92 l Z a0 hw cs fm yF_21 o46 k_o51 k_o52 k_o53 o51 o52 o53 tF xsF o276 _ n0 X.sz S_cs S_fm F_o46_s F_o46_g F_o46_v A_o51 A_o53 A_o52 Od hv_cs hv_fm hvB_22 g_o52 ne_o46_o52 ne_o51_o52 ne_o52_o53 O_o52 hvl0) (lenOf pd__I_Ljava_lang_String_ rfl) rfl rfl rfl so0 (fun T v hh vm k1 C X hS Nk Rn q => ?_)
  obtain ⟨k_o429, o421, o429, rfl, A_o52, Kc, E_o421, F_o421_a, F_o421_k, Od, A_o429, ne_o52_o421, sz_o421', g_o421, ne_o52_o429, sz_o429', g_o429, ne_o421_o429⟩ := q
  have Rc := Rc.call Rn Nk
  have Kp := Kp.trans Kc (allS (Or.inr sz_o52) all0)
  have A_o473 := A_o473.keep Kc (ninS ne_o473_o52 nin0)
  refine rc (st' := [(.ref o421)]) rfl ?_
  refine s_new 624 C X at_621 (mW 143 rfl) (mW 33 rfl) (mW 32 rfl) (fun T hh o440 hb_o440 X E E_o440 D g_o440 => ?_)
  have H_o440 : Safe Z EL1 vm _ o440 := Safe.ext E Rc.1.1 (Safe.new (Nat.le_of_eq hb_o440))
  have Rc := Rc.ext E
  have sz_o440 : h0.size ≤ o440 := Nat.le_trans Kp.1 (Nat.le_of_eq hb_o440)
  have ne_o473_o440 : o473 ≠ o440 := Nat.ne_of_lt (Nat.lt_of_lt_of_le A_o473.lt (Nat.le_of_eq hb_o440))
  have ne_o421_o440 : o421 ≠ o440 := Nat.ne_of_lt (Nat.lt_of_lt_of_le E_o421.lt (Nat.le_of_eq hb_o440))
  have ne_o429_o440 : o429 ≠ o440 := Nat.ne_of_lt (Nat.lt_of_lt_of_le A_o429.lt (Nat.le_of_eq hb_o440))
  have Kp := Kp.ext E
  have A_o473 := A_o473.ext E
  have E_o421 := E_o421.ext E
  have F_o421_a := F_o421_a.ext E
  have F_o421_k := F_o421_k.ext E
  have Od := Od.ext E
  have A_o429 := A_o429.ext E
  have F_o440_a : Fld Z _ o440 cS "value" "[B" .null := D (Or.inr (hw _ (mW 35 rfl))) (ty := (.array .byte)) (by decide)
  have F_o440_k : Fld Z _ o440 cS "coder" "B" (.int i0) := D (Or.inr (hw _ (mW 36 rfl))) (ty := .byte) (by decide)
  refine s_dup 625 C X at_624 rfl ?_
  refine s_aload 627 C X at_625 rfl rfl ?_
  refine s_hcallC 630 [(.ref o473)] [(.ref o440), (.ref o421)] 2 C X hS Rc.2 (own_EL hw) Rc.1.1 at_627 rfl (mW 144 rfl) (mW 145 rfl) (mW 32 rfl) (mW 146 rfl) (rm_a96 l Z a0 hw cs yF_21 o473 k_o473 o440 _ n0 X.sz S_cs A_o473 Od E_o440 F_o440_a F_o440_k hv_cs hvB_22 ne_o473_o440 g_o440) (lenOf pd___C_V rfl) rfl rfl rfl (soS ⟨E_o440.lt, H_o440⟩ so0) (fun T v hh vm k1 C X hS Nk Rn q => ?_)
  obtain ⟨k_o443, o443, rfl, Kc, Od, E_o440, F_o440_a, F_o440_k, A_o443, sz_o443', g_o443, ne_o440_o443⟩ := q
  have Rc := Rc.call Rn Nk
  have Kp := Kp.trans Kc (allS (Or.inr sz_o440) all0)
  have E_o421 := E_o421.keep Kc
  have F_o421_a := F_o421_a.keep Kc (ninS ne_o421_o440 nin0)
  have F_o421_k := F_o421_k.keep Kc (ninS ne_o421_o440 nin0)
  have A_o429 := A_o429.keep Kc (ninS ne_o429_o440 nin0)
  refine rc (st' := [(.ref o440), (.ref o421)]) rfl ?_
  refine s_callV 633 [(.ref o440)] [] 0 C X at_630 (mW 147 rfl) (mW 148 rfl) (nF C (mW 150 rfl)) (mW 150 rfl) (mW 149 rfl) (mW 32 rfl) (mW 151 rfl) E_o421 (rm_a98 l Z a0 hw cs yF_21 k_o429 o421 o429 o440 k_o443 o443 _ n0 X.sz S_cs F_o421_a F_o421_k A_o429 Od E_o440 F_o440_a F_o440_k A_o443 hv_cs ne_o421_o440) (lenOf pd__Ljava_lang_Object__Z rfl) rfl rfl rfl (fun T v hh X q => ?_)
  obtain ⟨rfl, Od, Kc⟩ := q
  have Rc := Rc.keep Kc so0
  have Kp := Kp.trans Kc all0
  refine rc (st' := [(.int i1)]) rfl ?_
  refine s_if_eq 640 636 C X at_633 (fun c => absurd c (by decide)) (fun _ => ?_)
  refine s_iconst 637 C X at_636 kc_iconst_1 ?_
  refine s_goto 641 C X at_637 ?_
  refine s_istore 643 C X (l' := #[iv x0, iv x1, iv x2, iv x3, iv yF, iv yF_5, iv yF_9, iv yF_13, iv yF_17, iv yF_21, iv yF_25, iv nv27, iv pr28, rv o29, rv o473, rv o46, iv i1, iv y174, iv y179, iv y184, iv y189, iv y194, iv y194, iv y199, iv y204, iv y209, iv y174, iv y216, iv y223, iv y230, iv y235, rv o237, iv mF_271, rv o276, iv i1]) at_641 rfl ?_
  refine s_iload 645 C X at_643 rfl ?_
  refine s_if_eq 659 648 C X at_645 (fun c => absurd c (by decide)) (fun _ => ?_)
  refine s_iload 650 C X at_648 rfl ?_
  refine s_iload 652 C X at_650 rfl ?_
  refine s_icmp_ne 659 655 C X at_652 (fun c => absurd rfl c) (fun _ => ?_)
  refine s_iconst 656 C X at_655 kc_iconst_1 ?_
  refine s_goto 660 C X at_656 ?_
  refine s_nreturn C X at_660 rfl (by simp) rfl ?_ (FGH hG hS Rc C (own_EL hw))
  exact hQ _ _ rfl
theorem comes_1 {Post : Tables → Env → Array Value → State → Outcome → State → Prop} (hpost : ∀ tb e args s v u, (limb_1_1.after args s (.returned v) u = true ∧ limb_1_2.after args s (.returned v) u = true ∧ True) → ReturnedEndW s (.returned v) u (Jvm.fieldLocs frame_1_writes args s ++ Jvm.arrayLocs frame_1_arrays args s ++ Jvm.staticLocs frame_1_statics s) 56 4928 → Post tb e args s (.returned v) u) :
    ArmFor flags0 classFile x code maxLocals ret World_1 tables_1 room_1 Calls_1 rest_1 Pre_1 Post := by
  intro l hfl _ _ p e ha hc hk s m args below hf hA hF happ hP
  obtain ⟨hcalls, hrest, hpre⟩ := hP
  obtain ⟨-, -, -, hnamed, -, -, -, hat⟩ := (Spec.applies_iff hf).mp happ
  obtain ⟨hg, hn⟩ := and_e (Cond.before_iff.mp (show (Jvm.Cond.and given_1 narrow_1).before args s = true from hpre))
  obtain ⟨g0, g1⟩ := and_e hg
  obtain ⟨ga0, gr0⟩ := and_e g1
  obtain ⟨ga1, gr1⟩ := and_e gr0
  obtain ⟨ga2, gr2⟩ := and_e gr1
  obtain ⟨w0, w1, w2, w3, rfl⟩ : ∃ w0 w1 w2 w3 : Value, args = #[w0, w1, w2, w3] := by
    have hs : args.size = 4 := by simpa [Cond.value, given_1] using g0
    obtain ⟨L⟩ := args
    match L, hs with
    | [w0, w1, w2, w3], _ => exact ⟨w0, w1, w2, w3, rfl⟩
  have hw := fun d (hd : d ∈ tables_1) => atoms_spec (ws := Jvm.Cond.code x code maxLocals ret :: tables_1) hat d (List.mem_cons_of_mem _ hd)
  have hfit : Fit s := fun {y c} hc i hi => by
    obtain ⟨ha, rfl⟩ := Array.getElem?_eq_some_iff.mp hc
    have q := List.all_eq_true.mp ((Array.all_eq_true_iff_forall_mem.mp hF) _ (Array.getElem_mem ha)) i (List.mem_range.mpr hi)
    simpa [Array.getElem?_eq_getElem hi] using q
  obtain ⟨i0, e0⟩ := is_v ga0
  obtain rfl : w0 = (.int i0) := Option.some.inj e0
  obtain ⟨i1, e1⟩ := is_v ga1
  obtain rfl : w1 = (.int i1) := Option.some.inj e1
  obtain ⟨i2, e2⟩ := is_v ga2
  obtain rfl : w2 = (.int i2) := Option.some.inj e2
  obtain ⟨i3, e3⟩ := is_v gr2
  obtain rfl : w3 = (.int i3) := Option.some.inj e3
  obtain ⟨hsets, -⟩ := atoms_of jdkStatics_1 (show (jdkStatics_1.foldr Jvm.Cond.and restOwn_1).before _ s = true from hrest)
  have sc0 := hsets _ (mW 0 rfl)
  have sc1 := Cond.before_iff.mp (hsets _ (mW 1 rfl))
  have sc2 := hsets _ (mW 2 rfl)
  have sf7 := hsets _ (mW 7 rfl)
  have sf8 := hsets _ (mW 8 rfl)
  obtain ⟨cs, ecs⟩ := is_v sc1
  have SC := Sta.start ecs (Or.inl sc0)
  have hcs : ¬ cs = (0:Int32) := fun q => by
    subst q
    have := Cond.before_iff.mp sc2
    simp [Cond.value, ecs, Term.int_eval] at this
  obtain ⟨fm, efm, hfm⟩ := own_isref sf8
  have SF := Sta.start efm (Or.inl sf7)
  have hheld : ∀ p ∈ EL1, Jvm.Lit.constHeld s p.1 p.2 := fun p hp => hcalls.1 p hp

  obtain ⟨n, o, h1, h2, h3, _, L, rfl, ⟨rfl, N⟩, -, hq⟩ := rm0 l s _ hw i0 i1 i2 i3 cs fm s.heap s.heap.size (Nat.le_refl _) (Old.start s) SC SF hcs hfm p e ha hc hk s m _ below hf ((Spec.applies_iff_loose hf).mp happ).1 ⟨rfl, State.Warmed39.refl s, rfl, CHv.start (own_EL hw) hheld (a0 := _) sc2 (hw _ (mW 34 rfl)) (hw _ (mW 33 rfl)), so0⟩ trivial
  exact ⟨n, _, h1, h2, h3, hpost _ _ _ _ _ _ ⟨Cond.after_iff.mpr rfl, Cond.after_iff.mpr (eq_i res_at (Term.int_eval (1)) rfl), trivial⟩ ⟨hq.1, hq.2.1, hq.2.2.1, (hq.2.2.2.sift fun y hy => Or.inr (N y hy)).mono (by decide) (by decide)⟩⟩
theorem main_1_1 : Claimed_1_1 := comes_1 fun _ _ _ _ _ _ h hF => ⟨h.1, hF⟩
theorem main_1_2 : Claimed_1_2 := comes_1 fun _ _ _ _ _ _ h hF => ⟨h.2.1, hF⟩
end Jvm.Pilot.@@N@@
namespace Jvm.Pilot.@@N@@
open Jvm Jvm.ClassFile Sem Op Lib Jvm.Free Jvm.Stand Jvm.Pilot.@@N@@.Jvm.D
/-! MADE BY PROGRAM (witnessworld.py) out of the Statement's table words and the real class files: 22 classes; the members and pool entries that the words name. The judged class is class 1, her method 5. -/
namespace start1
open Jvm.ClassFile
def u (s : String) : CpInfo := .utf8 (stringToUtf16 s)
/-- a pool by its gaps: so many unusable entries, then the entry; so many at the end -/
def gap : Nat → List CpInfo → List CpInfo
  | 0, r => r
  | n + 1, r => .unusable :: gap n r
def poolList (es : List (Nat × CpInfo)) (last : Nat) : List CpInfo := es.foldr (fun e r => gap e.1 (e.2 :: r)) (gap last [])
def pool (es : List (Nat × CpInfo)) (last : Nat) : Array CpInfo := ⟨poolList es last⟩
def fileOf (pool : Array CpInfo) (this : Nat) (attrs : Array Attribute := #[]) (ms : Array MethodInfo := #[]) (fl : Nat := 33) (sup : Nat := 0) (ifs : Array Nat := #[]) (fds : Array FieldInfo := #[]) : ClassFile where
  minorVersion := 0
  majorVersion := 65
  constantPool := pool
  accessFlags := fl
  thisClass := this
  superClass := sup
  interfaces := ifs
  fields := fds
  methods := ms
  attributes := attrs
def plain (name : String) (sup : Option ClassId) : Class where
  name := name
  kind := .ordinary
  loader := none
  accessFlags := 33
  super := sup
  interfaces := #[]
  cf := none
  fields := #[]
  methods := #[]
  instanceTypes := #[]
  staticTypes := #[]
  resolved := #[]
  callSites := []
  init := .initialized
  statics := none
  mirror := none

def pool0 : Array CpInfo := pool [(5, u "<init>"), (0, u "()V"), (1, .class_ 10), (1, u "java/lang/Object")] 113

def k0c0 : Code := { maxStack := 0, maxLocals := 1, code := object_method_1_code, exceptionTable := #[], attributes := #[] }
def k0m0 : Method := { name := "<init>", desc := "()V", sig := { parameters := [], returnType := none }, accessFlags := 1, code := some k0c0 }
/-- java/lang/Object -/
def k0 : Class := { plain "java/lang/Object" none with
  accessFlags := 33
  interfaces := #[]
  cf := some (fileOf pool0 8 #[] #[{ accessFlags := 1, nameIndex := 5, descriptorIndex := 6, attributes := #[] }] 33 0 #[] #[])
  fields := #[]
  methods := #[k0m0]
  instanceTypes := #[]
  staticTypes := #[]
  resolved := Array.replicate 124 none
  statics := none }

def pool1 : Array CpInfo := pool [(2, .class_ 4), (0, .nameAndType 5 6), (0, u "java/lang/Object"), (0, u "<init>"), (0, u "()V"), (0, .methodref 8 9), (0, .class_ 10), (0, .nameAndType 11 12), (0, u "java/lang/String"), (0, u "charAt"), (0, u "(I)C"), (0, .methodref 14 15), (0, .class_ 16), (0, .nameAndType 17 12), (0, u "com/example/medis/medis/engine/ElementAttributesCollapseLastPinLaw"), (0, u "ch"), (0, .class_ 19), (0, u "com/example/medis/medis/engine/ElementAttributes"), (0, .methodref 18 3), (0, .string 22), (0, u "p"), (0, .methodref 18 24), (0, .nameAndType 25 26), (0, u "add"), (0, u "(Ljava/lang/String;I)V"), (0, .methodref 18 28), (0, .nameAndType 29 30), (0, u "append"), (0, u "([CII)V"), (0, .string 32), (0, u "q"), (0, .methodref 18 34), (0, .nameAndType 35 6), (0, u "collapseLast"), (0, .methodref 14 37), (0, .nameAndType 38 39), (0, u "live"), (0, u "(IIC)Z"), (0, .methodref 14 41), (0, .nameAndType 42 43), (0, u "put"), (0, u "([CIZC)I"), (0, .methodref 18 45), (0, .nameAndType 46 47), (0, u "value"), (0, u "(I)Ljava/lang/String;"), (0, .methodref 18 49), (0, .nameAndType 50 51), (0, u "length"), (0, u "()I"), (0, .methodref 8 49), (0, .methodref 14 54), (0, .nameAndType 55 56), (0, u "at"), (0, u "(Ljava/lang/String;[CII)Z"), (0, .methodref 8 58), (0, .nameAndType 5 59), (0, u "([C)V"), (0, .methodref 8 61), (0, .nameAndType 62 63), (0, u "equals"), (0, u "(Ljava/lang/Object;)Z"), (3, u "law"), (0, u "(IIII)Z")] 4

def k1m0 : Method := { name := "<init>", desc := "()V", sig := { parameters := [], returnType := none }, accessFlags := 1, code := none }
def k1c1 : Code := { maxStack := 2, maxLocals := 1, code := method_2_code, exceptionTable := #[], attributes := #[] }
def k1m1 : Method := { name := "ch", desc := "(I)C", sig := { parameters := [.int], returnType := some .char }, accessFlags := 10, code := some k1c1 }
def k1c2 : Code := { maxStack := 2, maxLocals := 3, code := method_3_code, exceptionTable := #[], attributes := #[] }
def k1m2 : Method := { name := "live", desc := "(IIC)Z", sig := { parameters := [.int, .int, .char], returnType := some .boolean }, accessFlags := 10, code := some k1c2 }
def k1c3 : Code := { maxStack := 3, maxLocals := 4, code := method_4_code, exceptionTable := #[], attributes := #[] }
def k1m3 : Method := { name := "put", desc := "([CIZC)I", sig := { parameters := [(.array .char), .int, .boolean, .char], returnType := some .int }, accessFlags := 10, code := some k1c3 }
def k1c4 : Code := { maxStack := 3, maxLocals := 4, code := method_5_code, exceptionTable := #[], attributes := #[] }
def k1m4 : Method := { name := "at", desc := "(Ljava/lang/String;[CII)Z", sig := { parameters := [(.object "java/lang/String"), (.array .char), .int, .int], returnType := some .boolean }, accessFlags := 10, code := some k1c4 }
def k1c5 : Code := { maxStack := 4, maxLocals := 35, code := code, exceptionTable := #[], attributes := #[] }
def k1m5 : Method := { name := "law", desc := "(IIII)Z", sig := { parameters := [.int, .int, .int, .int], returnType := some .boolean }, accessFlags := 9, code := some k1c5 }
/-- com/example/medis/medis/engine/ElementAttributesCollapseLastPinLaw -/
def k1 : Class := { plain "com/example/medis/medis/engine/ElementAttributesCollapseLastPinLaw" (some 0) with
  accessFlags := 49
  interfaces := #[]
  cf := some (fileOf pool1 14 #[] #[{ accessFlags := 1, nameIndex := 5, descriptorIndex := 6, attributes := #[] }, { accessFlags := 10, nameIndex := 17, descriptorIndex := 12, attributes := #[] }, { accessFlags := 10, nameIndex := 38, descriptorIndex := 39, attributes := #[] }, { accessFlags := 10, nameIndex := 42, descriptorIndex := 43, attributes := #[] }, { accessFlags := 10, nameIndex := 55, descriptorIndex := 56, attributes := #[] }, { accessFlags := 9, nameIndex := 67, descriptorIndex := 68, attributes := #[] }] 49 2 #[] #[])
  fields := #[]
  methods := #[k1m0, k1m1, k1m2, k1m3, k1m4, k1m5]
  instanceTypes := #[]
  staticTypes := #[]
  resolved := Array.replicate 73 none
  statics := none }

def pool2 : Array CpInfo := pool [(1, .methodref 2 3), (0, .class_ 4), (0, .nameAndType 5 6), (0, u "java/lang/Object"), (0, u "<init>"), (0, u "()V"), (0, .class_ 8), (0, u "java/lang/String"), (0, .fieldref 10 11), (0, .class_ 12), (0, .nameAndType 13 14), (0, u "com/example/medis/medis/engine/ElementAttributes"), (0, u "qualifiedNames"), (0, u "[Ljava/lang/String;"), (0, .fieldref 10 16), (0, .nameAndType 17 14), (0, u "namespaceUris"), (0, .fieldref 10 19), (0, .nameAndType 20 14), (0, u "localNames"), (0, .fieldref 10 22), (0, .nameAndType 23 24), (0, u "colons"), (0, u "[I"), (0, .fieldref 10 26), (0, .nameAndType 27 24), (0, u "valueStarts"), (0, .fieldref 10 29), (0, .nameAndType 30 14), (0, u "valueStrings"), (0, .fieldref 10 32), (0, .nameAndType 33 34), (0, u "values"), (0, u "[C"), (0, .fieldref 10 36), (0, .nameAndType 37 38), (0, u "length"), (0, u "I"), (0, .methodref 7 40), (0, .nameAndType 5 41), (0, u "([CII)V"), (14, .string 57), (0, u ""), (2, u "add"), (0, u "(Ljava/lang/String;I)V"), (6, u "()I"), (2, u "append"), (9, .methodref 82 83), (0, .class_ 84), (0, .nameAndType 85 86), (0, u "java/lang/System"), (0, u "arraycopy"), (0, u "(Ljava/lang/Object;ILjava/lang/Object;II)V"), (23, u "LINEAR_CHECK"), (5, u "(I)Ljava/lang/String;"), (4, u "value"), (4, u "collapseLast")] 26

def k2c0 : Code := { maxStack := 2, maxLocals := 1, code := prog_35_method_1_code, exceptionTable := #[], attributes := #[] }
def k2m0 : Method := { name := "<init>", desc := "()V", sig := { parameters := [], returnType := none }, accessFlags := 0, code := some k2c0 }
def k2c1 : Code := { maxStack := 1, maxLocals := 1, code := prog_35_method_2_code, exceptionTable := #[], attributes := #[] }
def k2m1 : Method := { name := "length", desc := "()I", sig := { parameters := [], returnType := some .int }, accessFlags := 0, code := some k2c1 }
def k2c2 : Code := { maxStack := 9, maxLocals := 2, code := prog_35_method_7_code, exceptionTable := #[], attributes := #[] }
def k2m2 : Method := { name := "value", desc := "(I)Ljava/lang/String;", sig := { parameters := [.int], returnType := some (.object "java/lang/String") }, accessFlags := 0, code := some k2c2 }
def k2c3 : Code := { maxStack := 4, maxLocals := 4, code := prog_35_method_9_code, exceptionTable := #[], attributes := #[] }
def k2m3 : Method := { name := "add", desc := "(Ljava/lang/String;I)V", sig := { parameters := [(.object "java/lang/String"), .int], returnType := none }, accessFlags := 0, code := some k2c3 }
def k2c4 : Code := { maxStack := 5, maxLocals := 5, code := prog_35_method_12_code, exceptionTable := #[], attributes := #[] }
def k2m4 : Method := { name := "append", desc := "([CII)V", sig := { parameters := [(.array .char), .int, .int], returnType := none }, accessFlags := 0, code := some k2c4 }
def k2c5 : Code := { maxStack := 4, maxLocals := 5, code := prog_35_method_13_code, exceptionTable := #[], attributes := #[] }
def k2m5 : Method := { name := "collapseLast", desc := "()V", sig := { parameters := [], returnType := none }, accessFlags := 0, code := some k2c5 }
/-- com/example/medis/medis/engine/ElementAttributes -/
def k2 : Class := { plain "com/example/medis/medis/engine/ElementAttributes" (some 0) with
  accessFlags := 48
  interfaces := #[]
  cf := some (fileOf pool2 10 #[] #[{ accessFlags := 0, nameIndex := 5, descriptorIndex := 6, attributes := #[] }, { accessFlags := 0, nameIndex := 37, descriptorIndex := 68, attributes := #[] }, { accessFlags := 0, nameIndex := 121, descriptorIndex := 116, attributes := #[] }, { accessFlags := 0, nameIndex := 60, descriptorIndex := 61, attributes := #[] }, { accessFlags := 0, nameIndex := 71, descriptorIndex := 41, attributes := #[] }, { accessFlags := 0, nameIndex := 126, descriptorIndex := 6, attributes := #[] }] 48 2 #[] #[{ accessFlags := 26, nameIndex := 110, descriptorIndex := 38, attributes := #[] }, { accessFlags := 2, nameIndex := 13, descriptorIndex := 14, attributes := #[] }, { accessFlags := 2, nameIndex := 17, descriptorIndex := 14, attributes := #[] }, { accessFlags := 2, nameIndex := 20, descriptorIndex := 14, attributes := #[] }, { accessFlags := 2, nameIndex := 23, descriptorIndex := 24, attributes := #[] }, { accessFlags := 2, nameIndex := 27, descriptorIndex := 24, attributes := #[] }, { accessFlags := 2, nameIndex := 30, descriptorIndex := 14, attributes := #[] }, { accessFlags := 2, nameIndex := 37, descriptorIndex := 38, attributes := #[] }, { accessFlags := 2, nameIndex := 33, descriptorIndex := 34, attributes := #[] }])
  fields := #[{ name := "LINEAR_CHECK", type := .int, accessFlags := 26, slot := 0, constantValue := 0 }, { name := "qualifiedNames", type := (.array (.object "java/lang/String")), accessFlags := 2, slot := 0, constantValue := 0 }, { name := "namespaceUris", type := (.array (.object "java/lang/String")), accessFlags := 2, slot := 1, constantValue := 0 }, { name := "localNames", type := (.array (.object "java/lang/String")), accessFlags := 2, slot := 2, constantValue := 0 }, { name := "colons", type := (.array .int), accessFlags := 2, slot := 3, constantValue := 0 }, { name := "valueStarts", type := (.array .int), accessFlags := 2, slot := 4, constantValue := 0 }, { name := "valueStrings", type := (.array (.object "java/lang/String")), accessFlags := 2, slot := 5, constantValue := 0 }, { name := "length", type := .int, accessFlags := 2, slot := 6, constantValue := 0 }, { name := "values", type := (.array .char), accessFlags := 2, slot := 7, constantValue := 0 }]
  methods := #[k2m0, k2m1, k2m2, k2m3, k2m4, k2m5]
  instanceTypes := #[(.array (.object "java/lang/String")), (.array (.object "java/lang/String")), (.array (.object "java/lang/String")), (.array .int), (.array .int), (.array (.object "java/lang/String")), .int, (.array .char)]
  staticTypes := #[.int]
  resolved := Array.replicate 153 none
  statics := none }

def pool3 : Array CpInfo := pool [(1, .class_ 2), (0, u "java/io/Serializable"), (0, .class_ 4), (0, u "java/lang/Object")] 2

/-- java/io/Serializable -/
def k3 : Class := { plain "java/io/Serializable" (some 0) with
  accessFlags := 1537
  interfaces := #[]
  cf := some (fileOf pool3 1 #[] #[] 1537 3 #[] #[])
  fields := #[]
  methods := #[]
  instanceTypes := #[]
  staticTypes := #[]
  resolved := Array.replicate 7 none
  statics := none }

def pool4 : Array CpInfo := pool [(1, .class_ 2), (0, u "java/lang/Comparable"), (0, .class_ 4), (0, u "java/lang/Object")] 7

/-- java/lang/Comparable -/
def k4 : Class := { plain "java/lang/Comparable" (some 0) with
  accessFlags := 1537
  interfaces := #[]
  cf := some (fileOf pool4 1 #[] #[] 1537 3 #[] #[])
  fields := #[]
  methods := #[]
  instanceTypes := #[]
  staticTypes := #[]
  resolved := Array.replicate 12 none
  statics := none }

def pool5 : Array CpInfo := pool [(2, .class_ 4), (1, u "java/lang/CharSequence"), (42, .class_ 48), (0, u "java/lang/CharSequence$1CodePointIterator"), (10, .class_ 60), (0, u "java/lang/CharSequence$1CharIterator"), (5, .class_ 67), (0, u "java/lang/Object")] 63

/-- java/lang/CharSequence -/
def k5 : Class := { plain "java/lang/CharSequence" (some 0) with
  accessFlags := 1537
  interfaces := #[]
  cf := some (fileOf pool5 2 #[.nestMembers #[47, 59]] #[] 1537 66 #[] #[])
  fields := #[]
  methods := #[]
  instanceTypes := #[]
  staticTypes := #[]
  resolved := Array.replicate 131 none
  statics := none }

def pool6 : Array CpInfo := pool [(1, .class_ 2), (0, u "java/lang/constant/Constable"), (0, .class_ 4), (0, u "java/lang/Object")] 6

/-- java/lang/constant/Constable -/
def k6 : Class := { plain "java/lang/constant/Constable" (some 0) with
  accessFlags := 1537
  interfaces := #[]
  cf := some (fileOf pool6 1 #[] #[] 1537 3 #[] #[])
  fields := #[]
  methods := #[]
  instanceTypes := #[]
  staticTypes := #[]
  resolved := Array.replicate 11 none
  statics := none }

def pool7 : Array CpInfo := pool [(1, .class_ 2), (0, u "java/lang/constant/ConstantDesc"), (0, .class_ 4), (0, u "java/lang/Object")] 32

/-- java/lang/constant/ConstantDesc -/
def k7 : Class := { plain "java/lang/constant/ConstantDesc" (some 0) with
  accessFlags := 1537
  interfaces := #[]
  cf := some (fileOf pool7 1 #[] #[] 1537 3 #[] #[])
  fields := #[]
  methods := #[]
  instanceTypes := #[]
  staticTypes := #[]
  resolved := Array.replicate 37 none
  statics := none }

def pool8 : Array CpInfo := pool [(1, .methodref 2 3), (0, .class_ 4), (0, .nameAndType 5 6), (0, u "java/lang/Object"), (0, u "<init>"), (0, u "()V"), (0, .string 8), (0, u ""), (0, .fieldref 10 11), (0, .class_ 12), (0, .nameAndType 13 14), (0, u "java/lang/String"), (0, u "value"), (0, u "[B"), (0, .fieldref 10 16), (0, .nameAndType 17 18), (0, u "coder"), (0, u "B"), (2, u "hash"), (0, u "I"), (2, u "hashIsZero"), (0, u "Z"), (0, .methodref 10 28), (0, .nameAndType 5 29), (0, u "([CIILjava/lang/Void;)V"), (0, .methodref 10 31), (0, .nameAndType 32 33), (0, u "rangeCheck"), (0, u "([CII)Ljava/lang/Void;"), (0, .methodref 10 35), (0, .nameAndType 36 37), (0, u "checkBoundsOffCount"), (0, u "(III)I"), (0, .fieldref 10 39), (0, .nameAndType 40 26), (0, u "COMPACT_STRINGS"), (1, .class_ 44), (1, u "java/lang/StringUTF16"), (0, u "compress"), (1, .methodref 42 48), (0, .nameAndType 49 50), (0, u "coderFromArrayLen"), (0, u "([BI)B"), (56, .class_ 109), (1, u "java/lang/StringLatin1"), (32, u "()Z"), (34, .methodref 42 178), (0, .nameAndType 45 179), (0, u "([CII)[B"), (154, u "()I"), (0, .methodref 10 336), (0, .nameAndType 17 337), (0, u "()B"), (25, u "([BI)C"), (27, u "(II)V"), (35, u "(I)C"), (64, .methodref 10 493), (0, .nameAndType 494 142), (0, u "isLatin1"), (0, .methodref 107 496), (0, .nameAndType 497 363), (0, u "charAt"), (3, u "checkIndex"), (5, u "length"), (33, .methodref 107 542), (0, .nameAndType 543 544), (0, u "equals"), (0, u "([B[B)Z"), (28, u "(Ljava/lang/Object;)Z"), (1, .class_ 576), (0, u "java/lang/CharSequence"), (22, u "CASE_INSENSITIVE_ORDER"), (0, u "Ljava/util/Comparator;"), (371, u "([CII)V"), (37, u "([C)V"), (42, .fieldref 1054 1055), (0, .class_ 1056), (0, .nameAndType 1057 1058), (0, u "jdk/internal/util/Preconditions"), (0, u "SIOOBE_FORMATTER"), (0, u "Ljava/util/function/BiFunction;"), (0, .methodref 1054 1060), (0, .nameAndType 501 1061), (0, u "(IILjava/util/function/BiFunction;)I"), (2, u "(IIILjava/util/function/BiFunction;)I"), (0, .methodref 1054 1066), (0, .nameAndType 1067 1064), (0, u "checkFromIndexSize"), (33, u "serialPersistentFields"), (0, u "[Ljava/io/ObjectStreamField;"), (0, .class_ 1104), (0, u "java/lang/String$CaseInsensitiveComparator"), (1, .class_ 1107), (0, u "java/io/Serializable"), (0, .class_ 1109), (0, u "java/lang/Comparable"), (0, .class_ 1111), (0, u "java/lang/constant/Constable"), (0, .class_ 1113), (0, u "java/lang/constant/ConstantDesc"), (2, u "serialVersionUID"), (0, u "J"), (3, u "REPL"), (0, u "C"), (2, u "LATIN1"), (1, u "UTF16")] 323

def k8m0 : Method := { name := "<init>", desc := "()V", sig := { parameters := [], returnType := none }, accessFlags := 1, code := none }
def k8c1 : Code := { maxStack := 5, maxLocals := 2, code := jdk_42_method_3_code, exceptionTable := #[], attributes := #[] }
def k8m1 : Method := { name := "<init>", desc := "([C)V", sig := { parameters := [(.array .char)], returnType := none }, accessFlags := 1, code := some k8c1 }
def k8c2 : Code := { maxStack := 7, maxLocals := 4, code := jdk_42_method_4_code, exceptionTable := #[], attributes := #[] }
def k8m2 : Method := { name := "<init>", desc := "([CII)V", sig := { parameters := [(.array .char), .int, .int], returnType := none }, accessFlags := 1, code := some k8c2 }
def k8c3 : Code := { maxStack := 3, maxLocals := 3, code := jdk_42_method_5_code, exceptionTable := #[], attributes := #[] }
def k8m3 : Method := { name := "rangeCheck", desc := "([CII)Ljava/lang/Void;", sig := { parameters := [(.array .char), .int, .int], returnType := some (.object "java/lang/Void") }, accessFlags := 10, code := some k8c3 }
def k8c4 : Code := { maxStack := 2, maxLocals := 1, code := jdk_42_method_54_code, exceptionTable := #[], attributes := #[] }
def k8m4 : Method := { name := "length", desc := "()I", sig := { parameters := [], returnType := some .int }, accessFlags := 1, code := some k8c4 }
def k8c5 : Code := { maxStack := 2, maxLocals := 2, code := jdk_42_method_56_code, exceptionTable := #[], attributes := #[] }
def k8m5 : Method := { name := "charAt", desc := "(I)C", sig := { parameters := [.int], returnType := some .char }, accessFlags := 1, code := some k8c5 }
def k8c6 : Code := { maxStack := 2, maxLocals := 3, code := jdk_42_method_66_code, exceptionTable := #[], attributes := #[] }
def k8m6 : Method := { name := "equals", desc := "(Ljava/lang/Object;)Z", sig := { parameters := [(.object "java/lang/Object")], returnType := some .boolean }, accessFlags := 1, code := some k8c6 }
def k8c7 : Code := { maxStack := 4, maxLocals := 6, code := jdk_42_method_149_code, exceptionTable := #[], attributes := #[] }
def k8m7 : Method := { name := "<init>", desc := "([CIILjava/lang/Void;)V", sig := { parameters := [(.array .char), .int, .int, (.object "java/lang/Void")], returnType := none }, accessFlags := 2, code := some k8c7 }
def k8c8 : Code := { maxStack := 1, maxLocals := 1, code := jdk_42_method_152_code, exceptionTable := #[], attributes := #[] }
def k8m8 : Method := { name := "coder", desc := "()B", sig := { parameters := [], returnType := some .byte }, accessFlags := 0, code := some k8c8 }
def k8c9 : Code := { maxStack := 1, maxLocals := 1, code := jdk_42_method_154_code, exceptionTable := #[], attributes := #[] }
def k8m9 : Method := { name := "isLatin1", desc := "()Z", sig := { parameters := [], returnType := some .boolean }, accessFlags := 0, code := some k8c9 }
def k8c10 : Code := { maxStack := 3, maxLocals := 2, code := jdk_42_method_155_code, exceptionTable := #[], attributes := #[] }
def k8m10 : Method := { name := "checkIndex", desc := "(II)V", sig := { parameters := [.int, .int], returnType := none }, accessFlags := 8, code := some k8c10 }
def k8c11 : Code := { maxStack := 4, maxLocals := 3, code := jdk_42_method_157_code, exceptionTable := #[], attributes := #[] }
def k8m11 : Method := { name := "checkBoundsOffCount", desc := "(III)I", sig := { parameters := [.int, .int, .int], returnType := some .int }, accessFlags := 8, code := some k8c11 }
/-- java/lang/String -/
def k8 : Class := { plain "java/lang/String" (some 0) with
  accessFlags := 49
  interfaces := #[3, 4, 5, 6, 7]
  cf := some (fileOf pool8 10 #[.nestMembers #[1103]] #[{ accessFlags := 1, nameIndex := 5, descriptorIndex := 6, attributes := #[] }, { accessFlags := 1, nameIndex := 5, descriptorIndex := 1010, attributes := #[] }, { accessFlags := 1, nameIndex := 5, descriptorIndex := 972, attributes := #[] }, { accessFlags := 10, nameIndex := 32, descriptorIndex := 33, attributes := #[] }, { accessFlags := 1, nameIndex := 507, descriptorIndex := 334, attributes := #[] }, { accessFlags := 1, nameIndex := 497, descriptorIndex := 427, attributes := #[] }, { accessFlags := 1, nameIndex := 543, descriptorIndex := 573, attributes := #[] }, { accessFlags := 2, nameIndex := 5, descriptorIndex := 29, attributes := #[] }, { accessFlags := 0, nameIndex := 17, descriptorIndex := 337, attributes := #[] }, { accessFlags := 0, nameIndex := 494, descriptorIndex := 142, attributes := #[] }, { accessFlags := 8, nameIndex := 501, descriptorIndex := 391, attributes := #[] }, { accessFlags := 8, nameIndex := 36, descriptorIndex := 37, attributes := #[] }] 49 2 #[1106, 1108, 575, 1110, 1112] #[{ accessFlags := 18, nameIndex := 13, descriptorIndex := 14, attributes := #[] }, { accessFlags := 18, nameIndex := 17, descriptorIndex := 18, attributes := #[] }, { accessFlags := 2, nameIndex := 21, descriptorIndex := 22, attributes := #[] }, { accessFlags := 2, nameIndex := 25, descriptorIndex := 26, attributes := #[] }, { accessFlags := 26, nameIndex := 1116, descriptorIndex := 1117, attributes := #[] }, { accessFlags := 24, nameIndex := 40, descriptorIndex := 26, attributes := #[] }, { accessFlags := 26, nameIndex := 1101, descriptorIndex := 1102, attributes := #[] }, { accessFlags := 26, nameIndex := 1121, descriptorIndex := 1122, attributes := #[] }, { accessFlags := 25, nameIndex := 599, descriptorIndex := 600, attributes := #[] }, { accessFlags := 24, nameIndex := 1125, descriptorIndex := 18, attributes := #[] }, { accessFlags := 24, nameIndex := 1127, descriptorIndex := 18, attributes := #[] }])
  fields := #[{ name := "value", type := (.array .byte), accessFlags := 18, slot := 0, constantValue := 0 }, { name := "coder", type := .byte, accessFlags := 18, slot := 1, constantValue := 0 }, { name := "hash", type := .int, accessFlags := 2, slot := 2, constantValue := 0 }, { name := "hashIsZero", type := .boolean, accessFlags := 2, slot := 3, constantValue := 0 }, { name := "serialVersionUID", type := .long, accessFlags := 26, slot := 0, constantValue := 0 }, { name := "COMPACT_STRINGS", type := .boolean, accessFlags := 24, slot := 1, constantValue := 0 }, { name := "serialPersistentFields", type := (.array (.object "java/io/ObjectStreamField")), accessFlags := 26, slot := 2, constantValue := 0 }, { name := "REPL", type := .char, accessFlags := 26, slot := 3, constantValue := 0 }, { name := "CASE_INSENSITIVE_ORDER", type := (.object "java/util/Comparator"), accessFlags := 25, slot := 4, constantValue := 0 }, { name := "LATIN1", type := .byte, accessFlags := 24, slot := 5, constantValue := 0 }, { name := "UTF16", type := .byte, accessFlags := 24, slot := 6, constantValue := 0 }]
  methods := #[k8m0, k8m1, k8m2, k8m3, k8m4, k8m5, k8m6, k8m7, k8m8, k8m9, k8m10, k8m11]
  instanceTypes := #[(.array .byte), .byte, .int, .boolean]
  staticTypes := #[.long, .boolean, (.array (.object "java/io/ObjectStreamField")), .char, (.object "java/util/Comparator"), .byte, .byte]
  resolved := Array.replicate 1451 none
  statics := some 0 }

def pool9 : Array CpInfo := pool [(2, .class_ 4), (1, u "java/lang/Object"), (0, u "<init>"), (0, u "()V"), (1, .class_ 10), (1, u "java/lang/System"), (0, u "allowSecurityManager"), (0, u "I"), (16, u "cons"), (0, u "Ljava/io/Console;"), (77, .class_ 110), (1, u "java/lang/System$CallersHolder"), (43, u "initialErrStream"), (0, u "Ljava/io/PrintStream;"), (19, u "security"), (0, u "Ljava/lang/SecurityManager;"), (31, .class_ 209), (0, u "java/lang/System$1"), (7, u "props"), (0, u "Ljava/util/Properties;"), (2, u "lineSeparator"), (0, u "Ljava/lang/String;"), (96, .class_ 321), (1, u "java/lang/System$LoggerFinder"), (5, .class_ 328), (0, u "java/lang/System$Logger"), (67, u "err"), (2, u "out"), (91, u "notSupportedJnuEncoding"), (15, u "in"), (17, u "initialIn"), (0, u "Ljava/io/InputStream;"), (35, u "bootLayer"), (0, u "Ljava/lang/ModuleLayer;"), (99, .class_ 664), (0, u "java/lang/System$2"), (9, u "NEVER"), (2, u "MAYBE"), (49, u "arraycopy"), (0, u "(Ljava/lang/Object;ILjava/lang/Object;II)V"), (72, .class_ 802), (0, u "java/lang/System$Logger$Level")] 31

def k9m0 : Method := { name := "<init>", desc := "()V", sig := { parameters := [], returnType := none }, accessFlags := 2, code := none }
def k9m1 : Method := { name := "arraycopy", desc := "(Ljava/lang/Object;ILjava/lang/Object;II)V", sig := { parameters := [(.object "java/lang/Object"), .int, (.object "java/lang/Object"), .int, .int], returnType := none }, accessFlags := 265, code := none }
/-- java/lang/System -/
def k9 : Class := { plain "java/lang/System" (some 0) with
  accessFlags := 49
  interfaces := #[]
  cf := some (fileOf pool9 8 #[.nestMembers #[319, 327, 801, 108, 663, 208]] #[{ accessFlags := 2, nameIndex := 5, descriptorIndex := 6, attributes := #[] }, { accessFlags := 265, nameIndex := 727, descriptorIndex := 728, attributes := #[] }] 49 2 #[] #[{ accessFlags := 25, nameIndex := 507, descriptorIndex := 526, attributes := #[] }, { accessFlags := 25, nameIndex := 399, descriptorIndex := 155, attributes := #[] }, { accessFlags := 25, nameIndex := 396, descriptorIndex := 155, attributes := #[] }, { accessFlags := 10, nameIndex := 525, descriptorIndex := 526, attributes := #[] }, { accessFlags := 26, nameIndex := 674, descriptorIndex := 12, attributes := #[] }, { accessFlags := 26, nameIndex := 677, descriptorIndex := 12, attributes := #[] }, { accessFlags := 10, nameIndex := 11, descriptorIndex := 12, attributes := #[] }, { accessFlags := 74, nameIndex := 175, descriptorIndex := 176, attributes := #[] }, { accessFlags := 10, nameIndex := 491, descriptorIndex := 222, attributes := #[] }, { accessFlags := 74, nameIndex := 29, descriptorIndex := 30, attributes := #[] }, { accessFlags := 74, nameIndex := 154, descriptorIndex := 155, attributes := #[] }, { accessFlags := 10, nameIndex := 217, descriptorIndex := 218, attributes := #[] }, { accessFlags := 10, nameIndex := 221, descriptorIndex := 222, attributes := #[] }, { accessFlags := 8, nameIndex := 562, descriptorIndex := 563, attributes := #[] }])
  fields := #[{ name := "in", type := (.object "java/io/InputStream"), accessFlags := 25, slot := 0, constantValue := 0 }, { name := "out", type := (.object "java/io/PrintStream"), accessFlags := 25, slot := 1, constantValue := 0 }, { name := "err", type := (.object "java/io/PrintStream"), accessFlags := 25, slot := 2, constantValue := 0 }, { name := "initialIn", type := (.object "java/io/InputStream"), accessFlags := 10, slot := 3, constantValue := 0 }, { name := "NEVER", type := .int, accessFlags := 26, slot := 4, constantValue := 0 }, { name := "MAYBE", type := .int, accessFlags := 26, slot := 5, constantValue := 0 }, { name := "allowSecurityManager", type := .int, accessFlags := 10, slot := 6, constantValue := 0 }, { name := "security", type := (.object "java/lang/SecurityManager"), accessFlags := 74, slot := 7, constantValue := 0 }, { name := "notSupportedJnuEncoding", type := (.object "java/lang/String"), accessFlags := 10, slot := 8, constantValue := 0 }, { name := "cons", type := (.object "java/io/Console"), accessFlags := 74, slot := 9, constantValue := 0 }, { name := "initialErrStream", type := (.object "java/io/PrintStream"), accessFlags := 74, slot := 10, constantValue := 0 }, { name := "props", type := (.object "java/util/Properties"), accessFlags := 10, slot := 11, constantValue := 0 }, { name := "lineSeparator", type := (.object "java/lang/String"), accessFlags := 10, slot := 12, constantValue := 0 }, { name := "bootLayer", type := (.object "java/lang/ModuleLayer"), accessFlags := 8, slot := 13, constantValue := 0 }]
  methods := #[k9m0, k9m1]
  instanceTypes := #[]
  staticTypes := #[(.object "java/io/InputStream"), (.object "java/io/PrintStream"), (.object "java/io/PrintStream"), (.object "java/io/InputStream"), .int, .int, .int, (.object "java/lang/SecurityManager"), (.object "java/lang/String"), (.object "java/io/Console"), (.object "java/io/PrintStream"), (.object "java/util/Properties"), (.object "java/lang/String"), (.object "java/lang/ModuleLayer")]
  resolved := Array.replicate 834 none
  statics := none }

def pool10 : Array CpInfo := pool [(2, .class_ 4), (1, u "java/lang/Object"), (0, u "<init>"), (0, u "()V"), (17, .class_ 26), (1, u "jdk/internal/util/Preconditions"), (6, u "checkIndex"), (15, u "checkFromIndexSize"), (5, .class_ 56), (0, u "jdk/internal/util/Preconditions$4"), (57, .class_ 115), (0, u "jdk/internal/util/Preconditions$1"), (7, u "SIOOBE_FORMATTER"), (0, u "Ljava/util/function/BiFunction;"), (0, .class_ 126), (0, u "jdk/internal/util/Preconditions$2"), (3, u "AIOOBE_FORMATTER"), (0, .class_ 132), (0, u "jdk/internal/util/Preconditions$3"), (3, u "IOOBE_FORMATTER"), (41, u "(IILjava/util/function/BiFunction;)I"), (4, u "(IIILjava/util/function/BiFunction;)I")] 10

def k10m0 : Method := { name := "<init>", desc := "()V", sig := { parameters := [], returnType := none }, accessFlags := 1, code := none }
def k10c1 : Code := { maxStack := 3, maxLocals := 3, code := jdk_41_method_11_code, exceptionTable := #[], attributes := #[] }
def k10m1 : Method := { name := "checkIndex", desc := "(IILjava/util/function/BiFunction;)I", sig := { parameters := [.int, .int, (.object "java/util/function/BiFunction")], returnType := some .int }, accessFlags := 9, code := some k10c1 }
def k10c2 : Code := { maxStack := 4, maxLocals := 4, code := jdk_41_method_13_code, exceptionTable := #[], attributes := #[] }
def k10m2 : Method := { name := "checkFromIndexSize", desc := "(IIILjava/util/function/BiFunction;)I", sig := { parameters := [.int, .int, .int, (.object "java/util/function/BiFunction")], returnType := some .int }, accessFlags := 9, code := some k10c2 }
/-- jdk/internal/util/Preconditions -/
def k10 : Class := { plain "jdk/internal/util/Preconditions" (some 0) with
  accessFlags := 33
  interfaces := #[]
  cf := some (fileOf pool10 24 #[.nestMembers #[55, 131, 125, 114]] #[{ accessFlags := 1, nameIndex := 5, descriptorIndex := 6, attributes := #[] }, { accessFlags := 9, nameIndex := 33, descriptorIndex := 178, attributes := #[] }, { accessFlags := 9, nameIndex := 49, descriptorIndex := 183, attributes := #[] }] 33 2 #[] #[{ accessFlags := 25, nameIndex := 123, descriptorIndex := 124, attributes := #[] }, { accessFlags := 25, nameIndex := 130, descriptorIndex := 124, attributes := #[] }, { accessFlags := 25, nameIndex := 136, descriptorIndex := 124, attributes := #[] }])
  fields := #[{ name := "SIOOBE_FORMATTER", type := (.object "java/util/function/BiFunction"), accessFlags := 25, slot := 0, constantValue := 0 }, { name := "AIOOBE_FORMATTER", type := (.object "java/util/function/BiFunction"), accessFlags := 25, slot := 1, constantValue := 0 }, { name := "IOOBE_FORMATTER", type := (.object "java/util/function/BiFunction"), accessFlags := 25, slot := 2, constantValue := 0 }]
  methods := #[k10m0, k10m1, k10m2]
  instanceTypes := #[]
  staticTypes := #[(.object "java/util/function/BiFunction"), (.object "java/util/function/BiFunction"), (.object "java/util/function/BiFunction")]
  resolved := Array.replicate 194 none
  statics := some 1 }

def pool11 : Array CpInfo := pool [(6, .class_ 8), (1, u "java/lang/Object"), (0, u "<init>"), (0, u "()V"), (1, .class_ 14), (1, u "java/lang/StringUTF16"), (31, u "$assertionsDisabled"), (0, u "Z"), (13, u "HI_BYTE_SHIFT"), (0, u "I"), (2, u "LO_BYTE_SHIFT"), (49, .methodref 12 116), (0, .nameAndType 117 118), (0, u "compress"), (0, u "([CI[BII)I"), (3, u "([CII)[B"), (138, u "coderFromArrayLen"), (0, u "([BI)B"), (106, .class_ 371), (1, u "java/lang/StringUTF16$LinesSpliterator"), (58, u "MAX_LENGTH"), (196, .class_ 628), (0, u "java/lang/StringUTF16$CodePointsSpliterator"), (0, .class_ 630), (0, u "java/lang/StringUTF16$CharsSpliterator")] 4

def k11m0 : Method := { name := "<init>", desc := "()V", sig := { parameters := [], returnType := none }, accessFlags := 0, code := none }
def k11c1 : Code := { maxStack := 2, maxLocals := 2, code := jdk_52_method_15_code, exceptionTable := #[], attributes := #[] }
def k11m1 : Method := { name := "coderFromArrayLen", desc := "([BI)B", sig := { parameters := [(.array .byte), .int], returnType := some .byte }, accessFlags := 8, code := some k11c1 }
def k11c2 : Code := { maxStack := 5, maxLocals := 6, code := jdk_52_method_16_code, exceptionTable := #[], attributes := #[] }
def k11m2 : Method := { name := "compress", desc := "([CII)[B", sig := { parameters := [(.array .char), .int, .int], returnType := some (.array .byte) }, accessFlags := 9, code := some k11c2 }
def k11c3 : Code := { maxStack := 3, maxLocals := 7, code := jdk_52_method_21_code, exceptionTable := #[], attributes := #[] }
def k11m3 : Method := { name := "compress", desc := "([CI[BII)I", sig := { parameters := [(.array .char), .int, (.array .byte), .int, .int], returnType := some .int }, accessFlags := 9, code := some k11c3 }
/-- java/lang/StringUTF16 -/
def k11 : Class := { plain "java/lang/StringUTF16" (some 0) with
  accessFlags := 48
  interfaces := #[]
  cf := some (fileOf pool11 12 #[.nestMembers #[627, 629, 369]] #[{ accessFlags := 0, nameIndex := 9, descriptorIndex := 10, attributes := #[] }, { accessFlags := 8, nameIndex := 261, descriptorIndex := 262, attributes := #[] }, { accessFlags := 9, nameIndex := 117, descriptorIndex := 122, attributes := #[] }, { accessFlags := 9, nameIndex := 117, descriptorIndex := 118, attributes := #[] }] 48 6 #[] #[{ accessFlags := 26, nameIndex := 61, descriptorIndex := 62, attributes := #[] }, { accessFlags := 26, nameIndex := 65, descriptorIndex := 62, attributes := #[] }, { accessFlags := 24, nameIndex := 430, descriptorIndex := 62, attributes := #[] }, { accessFlags := 4120, nameIndex := 46, descriptorIndex := 47, attributes := #[] }])
  fields := #[{ name := "HI_BYTE_SHIFT", type := .int, accessFlags := 26, slot := 0, constantValue := 0 }, { name := "LO_BYTE_SHIFT", type := .int, accessFlags := 26, slot := 1, constantValue := 0 }, { name := "MAX_LENGTH", type := .int, accessFlags := 24, slot := 2, constantValue := 0 }, { name := "$assertionsDisabled", type := .boolean, accessFlags := 4120, slot := 3, constantValue := 0 }]
  methods := #[k11m0, k11m1, k11m2, k11m3]
  instanceTypes := #[]
  staticTypes := #[.int, .int, .int, .boolean]
  resolved := Array.replicate 635 none
  statics := none }

def pool12 : Array CpInfo := pool [(1, .class_ 2), (0, u "java/lang/String"), (1, .class_ 6), (1, u "java/lang/Object"), (0, u "<init>"), (0, u "()V"), (0, .methodref 1 10), (0, .nameAndType 11 12), (0, u "checkIndex"), (0, u "(II)V"), (1, .class_ 16), (1, u "java/lang/StringLatin1"), (36, u "([BI)C"), (67, u "$assertionsDisabled"), (0, u "Z"), (98, .class_ 223), (1, u "java/lang/StringLatin1$LinesSpliterator"), (28, u "charAt"), (28, u "equals"), (0, u "([B[B)Z"), (107, .class_ 391), (0, u "java/lang/StringLatin1$CharsSpliterator")] 3

def k12m0 : Method := { name := "<init>", desc := "()V", sig := { parameters := [], returnType := none }, accessFlags := 0, code := none }
def k12c1 : Code := { maxStack := 2, maxLocals := 2, code := jdk_43_method_2_code, exceptionTable := #[], attributes := #[] }
def k12m1 : Method := { name := "charAt", desc := "([BI)C", sig := { parameters := [(.array .byte), .int], returnType := some .char }, accessFlags := 9, code := some k12c1 }
def k12c2 : Code := { maxStack := 3, maxLocals := 3, code := jdk_43_method_13_code, exceptionTable := #[], attributes := #[] }
def k12m2 : Method := { name := "equals", desc := "([B[B)Z", sig := { parameters := [(.array .byte), (.array .byte)], returnType := some .boolean }, accessFlags := 9, code := some k12c2 }
/-- java/lang/StringLatin1 -/
def k12 : Class := { plain "java/lang/StringLatin1" (some 0) with
  accessFlags := 48
  interfaces := #[]
  cf := some (fileOf pool12 14 #[.nestMembers #[390, 221]] #[{ accessFlags := 0, nameIndex := 7, descriptorIndex := 8, attributes := #[] }, { accessFlags := 9, nameIndex := 252, descriptorIndex := 53, attributes := #[] }, { accessFlags := 9, nameIndex := 281, descriptorIndex := 282, attributes := #[] }] 48 4 #[] #[{ accessFlags := 4120, nameIndex := 121, descriptorIndex := 122, attributes := #[] }])
  fields := #[{ name := "$assertionsDisabled", type := .boolean, accessFlags := 4120, slot := 0, constantValue := 0 }]
  methods := #[k12m0, k12m1, k12m2]
  instanceTypes := #[]
  staticTypes := #[.boolean]
  resolved := Array.replicate 395 none
  statics := none }

def pool13 : Array CpInfo := pool [(9, u "<init>"), (6, .class_ 18), (1, u "java/lang/Object"), (0, u "()V"), (1, .class_ 23), (1, u "jdk/internal/util/ArraysSupport"), (0, u "LOG2_ARRAY_LONG_INDEX_SCALE"), (0, u "I"), (2, u "U"), (0, u "Ljdk/internal/misc/Unsafe;"), (8, u "BIG_ENDIAN"), (0, u "Z"), (8, u "LOG2_BYTE_BIT_SIZE"), (4, u "LOG2_ARRAY_INT_INDEX_SCALE"), (54, u "JLA"), (0, u "Ljdk/internal/access/JavaLangAccess;"), (11, u "LOG2_ARRAY_BOOLEAN_INDEX_SCALE"), (9, u "LOG2_ARRAY_BYTE_INDEX_SCALE"), (5, u "LOG2_ARRAY_CHAR_INDEX_SCALE"), (5, u "LOG2_ARRAY_SHORT_INDEX_SCALE"), (18, u "LOG2_ARRAY_FLOAT_INDEX_SCALE"), (24, u "LOG2_ARRAY_DOUBLE_INDEX_SCALE"), (89, u "T_BOOLEAN"), (2, u "T_CHAR"), (1, u "T_FLOAT"), (1, u "T_DOUBLE"), (1, u "T_BYTE"), (1, u "T_SHORT"), (1, u "T_INT"), (1, u "T_LONG"), (1, u "SOFT_MAX_ARRAY_LENGTH")] 83

def k13m0 : Method := { name := "<init>", desc := "()V", sig := { parameters := [], returnType := none }, accessFlags := 2, code := none }
/-- jdk/internal/util/ArraysSupport -/
def k13 : Class := { plain "jdk/internal/util/ArraysSupport" (some 0) with
  accessFlags := 33
  interfaces := #[]
  cf := some (fileOf pool13 21 #[] #[{ accessFlags := 2, nameIndex := 9, descriptorIndex := 19, attributes := #[] }] 33 16 #[] #[{ accessFlags := 24, nameIndex := 28, descriptorIndex := 29, attributes := #[] }, { accessFlags := 26, nameIndex := 38, descriptorIndex := 39, attributes := #[] }, { accessFlags := 25, nameIndex := 121, descriptorIndex := 25, attributes := #[] }, { accessFlags := 25, nameIndex := 131, descriptorIndex := 25, attributes := #[] }, { accessFlags := 25, nameIndex := 137, descriptorIndex := 25, attributes := #[] }, { accessFlags := 25, nameIndex := 143, descriptorIndex := 25, attributes := #[] }, { accessFlags := 25, nameIndex := 53, descriptorIndex := 25, attributes := #[] }, { accessFlags := 25, nameIndex := 24, descriptorIndex := 25, attributes := #[] }, { accessFlags := 25, nameIndex := 162, descriptorIndex := 25, attributes := #[] }, { accessFlags := 25, nameIndex := 187, descriptorIndex := 25, attributes := #[] }, { accessFlags := 26, nameIndex := 48, descriptorIndex := 25, attributes := #[] }, { accessFlags := 25, nameIndex := 277, descriptorIndex := 25, attributes := #[] }, { accessFlags := 25, nameIndex := 280, descriptorIndex := 25, attributes := #[] }, { accessFlags := 25, nameIndex := 282, descriptorIndex := 25, attributes := #[] }, { accessFlags := 25, nameIndex := 284, descriptorIndex := 25, attributes := #[] }, { accessFlags := 25, nameIndex := 286, descriptorIndex := 25, attributes := #[] }, { accessFlags := 25, nameIndex := 288, descriptorIndex := 25, attributes := #[] }, { accessFlags := 25, nameIndex := 290, descriptorIndex := 25, attributes := #[] }, { accessFlags := 25, nameIndex := 292, descriptorIndex := 25, attributes := #[] }, { accessFlags := 26, nameIndex := 108, descriptorIndex := 109, attributes := #[] }, { accessFlags := 25, nameIndex := 294, descriptorIndex := 25, attributes := #[] }])
  fields := #[{ name := "U", type := (.object "jdk/internal/misc/Unsafe"), accessFlags := 24, slot := 0, constantValue := 0 }, { name := "BIG_ENDIAN", type := .boolean, accessFlags := 26, slot := 1, constantValue := 0 }, { name := "LOG2_ARRAY_BOOLEAN_INDEX_SCALE", type := .int, accessFlags := 25, slot := 2, constantValue := 0 }, { name := "LOG2_ARRAY_BYTE_INDEX_SCALE", type := .int, accessFlags := 25, slot := 3, constantValue := 0 }, { name := "LOG2_ARRAY_CHAR_INDEX_SCALE", type := .int, accessFlags := 25, slot := 4, constantValue := 0 }, { name := "LOG2_ARRAY_SHORT_INDEX_SCALE", type := .int, accessFlags := 25, slot := 5, constantValue := 0 }, { name := "LOG2_ARRAY_INT_INDEX_SCALE", type := .int, accessFlags := 25, slot := 6, constantValue := 0 }, { name := "LOG2_ARRAY_LONG_INDEX_SCALE", type := .int, accessFlags := 25, slot := 7, constantValue := 0 }, { name := "LOG2_ARRAY_FLOAT_INDEX_SCALE", type := .int, accessFlags := 25, slot := 8, constantValue := 0 }, { name := "LOG2_ARRAY_DOUBLE_INDEX_SCALE", type := .int, accessFlags := 25, slot := 9, constantValue := 0 }, { name := "LOG2_BYTE_BIT_SIZE", type := .int, accessFlags := 26, slot := 10, constantValue := 0 }, { name := "T_BOOLEAN", type := .int, accessFlags := 25, slot := 11, constantValue := 0 }, { name := "T_CHAR", type := .int, accessFlags := 25, slot := 12, constantValue := 0 }, { name := "T_FLOAT", type := .int, accessFlags := 25, slot := 13, constantValue := 0 }, { name := "T_DOUBLE", type := .int, accessFlags := 25, slot := 14, constantValue := 0 }, { name := "T_BYTE", type := .int, accessFlags := 25, slot := 15, constantValue := 0 }, { name := "T_SHORT", type := .int, accessFlags := 25, slot := 16, constantValue := 0 }, { name := "T_INT", type := .int, accessFlags := 25, slot := 17, constantValue := 0 }, { name := "T_LONG", type := .int, accessFlags := 25, slot := 18, constantValue := 0 }, { name := "JLA", type := (.object "jdk/internal/access/JavaLangAccess"), accessFlags := 26, slot := 19, constantValue := 0 }, { name := "SOFT_MAX_ARRAY_LENGTH", type := .int, accessFlags := 25, slot := 20, constantValue := 0 }]
  methods := #[k13m0]
  instanceTypes := #[]
  staticTypes := #[(.object "jdk/internal/misc/Unsafe"), .boolean, .int, .int, .int, .int, .int, .int, .int, .int, .int, .int, .int, .int, .int, .int, .int, .int, .int, (.object "jdk/internal/access/JavaLangAccess"), .int]
  resolved := Array.replicate 378 none
  statics := none }

def pool14 : Array CpInfo := pool [(1, u "java/lang/Cloneable"), (0, .class_ 1), (0, u "java/lang/Object"), (0, .class_ 3)] 3

/-- java/lang/Cloneable -/
def k14 : Class := { plain "java/lang/Cloneable" (some 0) with
  accessFlags := 1537
  interfaces := #[]
  cf := some (fileOf pool14 2 #[] #[] 1537 4 #[] #[])
  fields := #[]
  methods := #[]
  instanceTypes := #[]
  staticTypes := #[]
  resolved := Array.replicate 8 none
  statics := none }

/-- the primitive byte -/
def k15 : Class := { plain "byte" none with kind := .primitive 'B', accessFlags := 0x411 }
/-- [B -/
def k16 : Class := { plain "[B" (some 0) with kind := .array 15 .byte, interfaces := #[14, 3], accessFlags := 1041 }

/-- the primitive char -/
def k17 : Class := { plain "char" none with kind := .primitive 'C', accessFlags := 0x411 }
/-- [C -/
def k18 : Class := { plain "[C" (some 0) with kind := .array 17 .char, interfaces := #[14, 3], accessFlags := 1041 }

/-- the primitive int -/
def k19 : Class := { plain "int" none with kind := .primitive 'I', accessFlags := 0x411 }
/-- [I -/
def k20 : Class := { plain "[I" (some 0) with kind := .array 19 .int, interfaces := #[14, 3], accessFlags := 1041 }

/-- [Ljava/lang/String; -/
def k21 : Class := { plain "[Ljava/lang/String;" (some 0) with kind := .array 8 (.object "java/lang/String"), interfaces := #[14, 3], accessFlags := 1041 }

def heap : Heap := #[{ cls := 8, slots := #[.long 0, .int 1, .null, .int 0, .null, .int 0, .int 0], vm := .statics 8 },
  { cls := 10, slots := #[.null, .null, .null], vm := .statics 10 }]
def classes : Array Class := #[k0, k1, k2, k3, k4, k5, k6, k7, k8, k9, k10, k11, k12, k13, k14, k15, k16, k17, k18, k19, k20, k21]
def interned : List (Array UInt16 × Addr) := []
def slotsUsed : Nat := 10
def theMethod : MethodId := ⟨1, 5⟩
def args0 : Array Value := #[.int 5, .int 6, .int 77, .int 19]
def aboutOver (below : List Frame) : State where
  vm := { classes := classes, interned := interned.toArray }
  heap := heap
  slotsUsed := slotsUsed
  threads := #[{ frames := .invoking theMethod args0 :: below }]
def below0 : List Frame := [.native { method := ⟨0, 0⟩, args := #[] }]
def about1 : State := aboutOver below0
def p0 : Program := .bare "" "" ""
def e0 : Env := launch0.env 0 0 0
theorem w_frames : about1.frames = Frame.invoking theMethod args0 :: below0 := rfl
set_option maxRecDepth 65536 in
theorem w_args : argsFit about1.vm theMethod args0 = true := by decide +kernel
set_option maxRecDepth 65536 in
theorem w_heap : heapFits about1 = true := by decide +kernel
set_option maxRecDepth 65536 in
theorem w_runnable : about1.curStatus? = some .runnable := by decide +kernel
set_option maxRecDepth 65536 in
theorem w_alone : about1.alone = true := by decide +kernel
set_option maxRecDepth 65536 in
theorem w_named : about1.methodNamed? x = some theMethod := by decide +kernel
set_option maxRecDepth 65536 in
theorem w_hears : about1.hears theMethod below0 = true := by decide +kernel
set_option maxRecDepth 65536 in
theorem w_ripe : about1.ripe theMethod args0 below0 = true := by decide +kernel
theorem w_running : about1.status = .running := rfl
set_option maxRecDepth 65536 in
theorem w_room : about1.hasRoom e0.platform room_1 = true :=
  launch0.hasRoom_least _ room_1 (by decide +kernel) (by decide +kernel) (by decide +kernel) (by decide +kernel) (by decide +kernel) (by decide +kernel)
theorem allAtoms_all (ts : List Jvm.Cond) (a : Array Jvm.Value) (st : Jvm.State) : (allAtoms ts).before a st = ts.all (fun c => c.before a st) := by
  induction ts with
  | nil => rfl
  | cons c t ih =>
    show (Jvm.Cond.and c (allAtoms t)).before a st = _
    rw [Jvm.Cond.before_and, ih, List.all_cons]
def words1 : List Jvm.Cond := Jvm.Cond.code x code maxLocals ret :: tables_1
/-- a 'code' word, met by the world's own term for the bytes: nothing is compared byte by byte -/
theorem code_word {y : MethodName} {bytes : ByteArray} {mx : Nat} {rt : Option FieldType} {a : Array Value} {s : State} {m : MethodId} {meth : Method} {c : Code} (h1 : s.methodNamed? y = some m) (h2 : s.vm.method? m = some meth) (h3 : meth.code = some c) (h4 : c.code = bytes)
    (h5 : (c.maxLocals == mx && c.exceptionTable.isEmpty && decide (c.maxStack ≤ mostOperands) && decide (meth.sig.returnType = rt) && !meth.locks && decide (parseMethodDescriptor y.desc = some meth.sig)) = true) : (Jvm.Cond.code y bytes mx rt).before a s = true := by
  simp only [Bool.and_eq_true, beq_iff_eq, Bool.not_eq_true', decide_eq_true_eq] at h5
  obtain ⟨⟨⟨⟨⟨g1, g2⟩, g3⟩, g4⟩, g5⟩, g6⟩ := h5
  simp [Cond.before, Cond.holds, Cond.value, h1, h2, h3, h4, g1, g2, g3, g4, g5, g6]
def isCode : Jvm.Cond → Bool
  | .code _ _ _ _ => true
  | _ => false
theorem all_split {L : List Jvm.Cond} {P : Jvm.Cond → Bool} (h1 : L.all (fun c => isCode c || P c) = true) (h2 : ∀ c ∈ L.filter isCode, P c = true) : L.all P = true := by
  refine List.all_eq_true.mpr fun c hc => ?_
  have h := List.all_eq_true.mp h1 c hc
  rcases Bool.eq_false_or_eq_true (isCode c) with hi | hi
  · exact h2 c (List.mem_filter.mpr ⟨hc, hi⟩)
  · simpa [hi] using h
set_option maxRecDepth 65536 in
theorem w_c0 : (Jvm.Cond.code x code maxLocals ret).before args0 about1 = true := code_word (m := ⟨1, 5⟩) (meth := k1m5) (c := k1c5) (by decide +kernel) rfl rfl rfl (by decide +kernel)
set_option maxRecDepth 65536 in
theorem w_c1 : (Jvm.Cond.code ({ cls := "com/example/medis/medis/engine/ElementAttributesCollapseLastPinLaw", name := "ch", desc := "(I)C" } : Jvm.MethodName) method_2_code (1 : Nat) (Option.some Jvm.ClassFile.FieldType.char)).before args0 about1 = true := code_word (m := ⟨1, 1⟩) (meth := k1m1) (c := k1c1) (by decide +kernel) rfl rfl rfl (by decide +kernel)
set_option maxRecDepth 65536 in
theorem w_c2 : (Jvm.Cond.code ({ cls := "com/example/medis/medis/engine/ElementAttributes", name := "<init>", desc := "()V" } : Jvm.MethodName) prog_35_method_1_code (1 : Nat) (Option.none : Option Jvm.ClassFile.FieldType)).before args0 about1 = true := code_word (m := ⟨2, 0⟩) (meth := k2m0) (c := k2c0) (by decide +kernel) rfl rfl rfl (by decide +kernel)
set_option maxRecDepth 65536 in
theorem w_c3 : (Jvm.Cond.code ({ cls := "java/lang/Object", name := "<init>", desc := "()V" } : Jvm.MethodName) object_method_1_code (1 : Nat) (Option.none : Option Jvm.ClassFile.FieldType)).before args0 about1 = true := code_word (m := ⟨0, 0⟩) (meth := k0m0) (c := k0c0) (by decide +kernel) rfl rfl rfl (by decide +kernel)
set_option maxRecDepth 65536 in
theorem w_c4 : (Jvm.Cond.code ({ cls := "com/example/medis/medis/engine/ElementAttributes", name := "add", desc := "(Ljava/lang/String;I)V" } : Jvm.MethodName) prog_35_method_9_code (4 : Nat) (Option.none : Option Jvm.ClassFile.FieldType)).before args0 about1 = true := code_word (m := ⟨2, 3⟩) (meth := k2m3) (c := k2c3) (by decide +kernel) rfl rfl rfl (by decide +kernel)
set_option maxRecDepth 65536 in
theorem w_c5 : (Jvm.Cond.code ({ cls := "com/example/medis/medis/engine/ElementAttributes", name := "append", desc := "([CII)V" } : Jvm.MethodName) prog_35_method_12_code (5 : Nat) (Option.none : Option Jvm.ClassFile.FieldType)).before args0 about1 = true := code_word (m := ⟨2, 4⟩) (meth := k2m4) (c := k2c4) (by decide +kernel) rfl rfl rfl (by decide +kernel)
set_option maxRecDepth 65536 in
theorem w_c6 : (Jvm.Cond.code ({ cls := "com/example/medis/medis/engine/ElementAttributes", name := "collapseLast", desc := "()V" } : Jvm.MethodName) prog_35_method_13_code (5 : Nat) (Option.none : Option Jvm.ClassFile.FieldType)).before args0 about1 = true := code_word (m := ⟨2, 5⟩) (meth := k2m5) (c := k2c5) (by decide +kernel) rfl rfl rfl (by decide +kernel)
set_option maxRecDepth 65536 in
theorem w_c7 : (Jvm.Cond.code ({ cls := "com/example/medis/medis/engine/ElementAttributesCollapseLastPinLaw", name := "live", desc := "(IIC)Z" } : Jvm.MethodName) method_3_code (3 : Nat) (Option.some Jvm.ClassFile.FieldType.boolean)).before args0 about1 = true := code_word (m := ⟨1, 2⟩) (meth := k1m2) (c := k1c2) (by decide +kernel) rfl rfl rfl (by decide +kernel)
set_option maxRecDepth 65536 in
theorem w_c8 : (Jvm.Cond.code ({ cls := "com/example/medis/medis/engine/ElementAttributesCollapseLastPinLaw", name := "put", desc := "([CIZC)I" } : Jvm.MethodName) method_4_code (4 : Nat) (Option.some Jvm.ClassFile.FieldType.int)).before args0 about1 = true := code_word (m := ⟨1, 3⟩) (meth := k1m3) (c := k1c3) (by decide +kernel) rfl rfl rfl (by decide +kernel)
set_option maxRecDepth 65536 in
theorem w_c9 : (Jvm.Cond.code ({ cls := "com/example/medis/medis/engine/ElementAttributes", name := "value", desc := "(I)Ljava/lang/String;" } : Jvm.MethodName) prog_35_method_7_code (2 : Nat) (Option.some (Jvm.ClassFile.FieldType.object "java/lang/String"))).before args0 about1 = true := code_word (m := ⟨2, 2⟩) (meth := k2m2) (c := k2c2) (by decide +kernel) rfl rfl rfl (by decide +kernel)
set_option maxRecDepth 65536 in
theorem w_c10 : (Jvm.Cond.code ({ cls := "java/lang/String", name := "<init>", desc := "([CII)V" } : Jvm.MethodName) jdk_42_method_4_code (4 : Nat) (Option.none : Option Jvm.ClassFile.FieldType)).before args0 about1 = true := code_word (m := ⟨8, 2⟩) (meth := k8m2) (c := k8c2) (by decide +kernel) rfl rfl rfl (by decide +kernel)
set_option maxRecDepth 65536 in
theorem w_c11 : (Jvm.Cond.code ({ cls := "java/lang/String", name := "rangeCheck", desc := "([CII)Ljava/lang/Void;" } : Jvm.MethodName) jdk_42_method_5_code (3 : Nat) (Option.some (Jvm.ClassFile.FieldType.object "java/lang/Void"))).before args0 about1 = true := code_word (m := ⟨8, 3⟩) (meth := k8m3) (c := k8c3) (by decide +kernel) rfl rfl rfl (by decide +kernel)
set_option maxRecDepth 65536 in
theorem w_c12 : (Jvm.Cond.code ({ cls := "java/lang/String", name := "checkBoundsOffCount", desc := "(III)I" } : Jvm.MethodName) jdk_42_method_157_code (3 : Nat) (Option.some Jvm.ClassFile.FieldType.int)).before args0 about1 = true := code_word (m := ⟨8, 11⟩) (meth := k8m11) (c := k8c11) (by decide +kernel) rfl rfl rfl (by decide +kernel)
set_option maxRecDepth 65536 in
theorem w_c13 : (Jvm.Cond.code ({ cls := "jdk/internal/util/Preconditions", name := "checkFromIndexSize", desc := "(IIILjava/util/function/BiFunction;)I" } : Jvm.MethodName) jdk_41_method_13_code (4 : Nat) (Option.some Jvm.ClassFile.FieldType.int)).before args0 about1 = true := code_word (m := ⟨10, 2⟩) (meth := k10m2) (c := k10c2) (by decide +kernel) rfl rfl rfl (by decide +kernel)
set_option maxRecDepth 65536 in
theorem w_c14 : (Jvm.Cond.code ({ cls := "java/lang/String", name := "<init>", desc := "([CIILjava/lang/Void;)V" } : Jvm.MethodName) jdk_42_method_149_code (6 : Nat) (Option.none : Option Jvm.ClassFile.FieldType)).before args0 about1 = true := code_word (m := ⟨8, 7⟩) (meth := k8m7) (c := k8c7) (by decide +kernel) rfl rfl rfl (by decide +kernel)
set_option maxRecDepth 65536 in
theorem w_c15 : (Jvm.Cond.code ({ cls := "java/lang/StringUTF16", name := "compress", desc := "([CII)[B" } : Jvm.MethodName) jdk_52_method_16_code (6 : Nat) (Option.some (Jvm.ClassFile.FieldType.array Jvm.ClassFile.FieldType.byte))).before args0 about1 = true := code_word (m := ⟨11, 2⟩) (meth := k11m2) (c := k11c2) (by decide +kernel) rfl rfl rfl (by decide +kernel)
set_option maxRecDepth 65536 in
theorem w_c16 : (Jvm.Cond.code ({ cls := "java/lang/StringUTF16", name := "compress", desc := "([CI[BII)I" } : Jvm.MethodName) jdk_52_method_21_code (7 : Nat) (Option.some Jvm.ClassFile.FieldType.int)).before args0 about1 = true := code_word (m := ⟨11, 3⟩) (meth := k11m3) (c := k11c3) (by decide +kernel) rfl rfl rfl (by decide +kernel)
set_option maxRecDepth 65536 in
theorem w_c17 : (Jvm.Cond.code ({ cls := "java/lang/StringUTF16", name := "coderFromArrayLen", desc := "([BI)B" } : Jvm.MethodName) jdk_52_method_15_code (2 : Nat) (Option.some Jvm.ClassFile.FieldType.byte)).before args0 about1 = true := code_word (m := ⟨11, 1⟩) (meth := k11m1) (c := k11c1) (by decide +kernel) rfl rfl rfl (by decide +kernel)
set_option maxRecDepth 65536 in
theorem w_c18 : (Jvm.Cond.code ({ cls := "com/example/medis/medis/engine/ElementAttributes", name := "length", desc := "()I" } : Jvm.MethodName) prog_35_method_2_code (1 : Nat) (Option.some Jvm.ClassFile.FieldType.int)).before args0 about1 = true := code_word (m := ⟨2, 1⟩) (meth := k2m1) (c := k2c1) (by decide +kernel) rfl rfl rfl (by decide +kernel)
set_option maxRecDepth 65536 in
theorem w_c19 : (Jvm.Cond.code ({ cls := "java/lang/String", name := "length", desc := "()I" } : Jvm.MethodName) jdk_42_method_54_code (1 : Nat) (Option.some Jvm.ClassFile.FieldType.int)).before args0 about1 = true := code_word (m := ⟨8, 4⟩) (meth := k8m4) (c := k8c4) (by decide +kernel) rfl rfl rfl (by decide +kernel)
set_option maxRecDepth 65536 in
theorem w_c20 : (Jvm.Cond.code ({ cls := "java/lang/String", name := "coder", desc := "()B" } : Jvm.MethodName) jdk_42_method_152_code (1 : Nat) (Option.some Jvm.ClassFile.FieldType.byte)).before args0 about1 = true := code_word (m := ⟨8, 8⟩) (meth := k8m8) (c := k8c8) (by decide +kernel) rfl rfl rfl (by decide +kernel)
set_option maxRecDepth 65536 in
theorem w_c21 : (Jvm.Cond.code ({ cls := "com/example/medis/medis/engine/ElementAttributesCollapseLastPinLaw", name := "at", desc := "(Ljava/lang/String;[CII)Z" } : Jvm.MethodName) method_5_code (4 : Nat) (Option.some Jvm.ClassFile.FieldType.boolean)).before args0 about1 = true := code_word (m := ⟨1, 4⟩) (meth := k1m4) (c := k1c4) (by decide +kernel) rfl rfl rfl (by decide +kernel)
set_option maxRecDepth 65536 in
theorem w_c22 : (Jvm.Cond.code ({ cls := "java/lang/String", name := "charAt", desc := "(I)C" } : Jvm.MethodName) jdk_42_method_56_code (2 : Nat) (Option.some Jvm.ClassFile.FieldType.char)).before args0 about1 = true := code_word (m := ⟨8, 5⟩) (meth := k8m5) (c := k8c5) (by decide +kernel) rfl rfl rfl (by decide +kernel)
set_option maxRecDepth 65536 in
theorem w_c23 : (Jvm.Cond.code ({ cls := "java/lang/String", name := "isLatin1", desc := "()Z" } : Jvm.MethodName) jdk_42_method_154_code (1 : Nat) (Option.some Jvm.ClassFile.FieldType.boolean)).before args0 about1 = true := code_word (m := ⟨8, 9⟩) (meth := k8m9) (c := k8c9) (by decide +kernel) rfl rfl rfl (by decide +kernel)
set_option maxRecDepth 65536 in
theorem w_c24 : (Jvm.Cond.code ({ cls := "java/lang/StringLatin1", name := "charAt", desc := "([BI)C" } : Jvm.MethodName) jdk_43_method_2_code (2 : Nat) (Option.some Jvm.ClassFile.FieldType.char)).before args0 about1 = true := code_word (m := ⟨12, 1⟩) (meth := k12m1) (c := k12c1) (by decide +kernel) rfl rfl rfl (by decide +kernel)
set_option maxRecDepth 65536 in
theorem w_c25 : (Jvm.Cond.code ({ cls := "java/lang/String", name := "checkIndex", desc := "(II)V" } : Jvm.MethodName) jdk_42_method_155_code (2 : Nat) (Option.none : Option Jvm.ClassFile.FieldType)).before args0 about1 = true := code_word (m := ⟨8, 10⟩) (meth := k8m10) (c := k8c10) (by decide +kernel) rfl rfl rfl (by decide +kernel)
set_option maxRecDepth 65536 in
theorem w_c26 : (Jvm.Cond.code ({ cls := "jdk/internal/util/Preconditions", name := "checkIndex", desc := "(IILjava/util/function/BiFunction;)I" } : Jvm.MethodName) jdk_41_method_11_code (3 : Nat) (Option.some Jvm.ClassFile.FieldType.int)).before args0 about1 = true := code_word (m := ⟨10, 1⟩) (meth := k10m1) (c := k10c1) (by decide +kernel) rfl rfl rfl (by decide +kernel)
set_option maxRecDepth 65536 in
theorem w_c27 : (Jvm.Cond.code ({ cls := "java/lang/String", name := "<init>", desc := "([C)V" } : Jvm.MethodName) jdk_42_method_3_code (2 : Nat) (Option.none : Option Jvm.ClassFile.FieldType)).before args0 about1 = true := code_word (m := ⟨8, 1⟩) (meth := k8m1) (c := k8c1) (by decide +kernel) rfl rfl rfl (by decide +kernel)
set_option maxRecDepth 65536 in
theorem w_c28 : (Jvm.Cond.code ({ cls := "java/lang/String", name := "equals", desc := "(Ljava/lang/Object;)Z" } : Jvm.MethodName) jdk_42_method_66_code (3 : Nat) (Option.some Jvm.ClassFile.FieldType.boolean)).before args0 about1 = true := code_word (m := ⟨8, 6⟩) (meth := k8m6) (c := k8c6) (by decide +kernel) rfl rfl rfl (by decide +kernel)
set_option maxRecDepth 65536 in
theorem w_c29 : (Jvm.Cond.code ({ cls := "java/lang/StringLatin1", name := "equals", desc := "([B[B)Z" } : Jvm.MethodName) jdk_43_method_13_code (3 : Nat) (Option.some Jvm.ClassFile.FieldType.boolean)).before args0 about1 = true := code_word (m := ⟨12, 2⟩) (meth := k12m2) (c := k12c2) (by decide +kernel) rfl rfl rfl (by decide +kernel)
def codes1 : List Jvm.Cond := [Jvm.Cond.code x code maxLocals ret, Jvm.Cond.code ({ cls := "com/example/medis/medis/engine/ElementAttributesCollapseLastPinLaw", name := "ch", desc := "(I)C" } : Jvm.MethodName) method_2_code (1 : Nat) (Option.some Jvm.ClassFile.FieldType.char), Jvm.Cond.code ({ cls := "com/example/medis/medis/engine/ElementAttributes", name := "<init>", desc := "()V" } : Jvm.MethodName) prog_35_method_1_code (1 : Nat) (Option.none : Option Jvm.ClassFile.FieldType), Jvm.Cond.code ({ cls := "java/lang/Object", name := "<init>", desc := "()V" } : Jvm.MethodName) object_method_1_code (1 : Nat) (Option.none : Option Jvm.ClassFile.FieldType), Jvm.Cond.code ({ cls := "com/example/medis/medis/engine/ElementAttributes", name := "add", desc := "(Ljava/lang/String;I)V" } : Jvm.MethodName) prog_35_method_9_code (4 : Nat) (Option.none : Option Jvm.ClassFile.FieldType), Jvm.Cond.code ({ cls := "com/example/medis/medis/engine/ElementAttributes", name := "append", desc := "([CII)V" } : Jvm.MethodName) prog_35_method_12_code (5 : Nat) (Option.none : Option Jvm.ClassFile.FieldType), Jvm.Cond.code ({ cls := "com/example/medis/medis/engine/ElementAttributes", name := "collapseLast", desc := "()V" } : Jvm.MethodName) prog_35_method_13_code (5 : Nat) (Option.none : Option Jvm.ClassFile.FieldType), Jvm.Cond.code ({ cls := "com/example/medis/medis/engine/ElementAttributesCollapseLastPinLaw", name := "live", desc := "(IIC)Z" } : Jvm.MethodName) method_3_code (3 : Nat) (Option.some Jvm.ClassFile.FieldType.boolean), Jvm.Cond.code ({ cls := "com/example/medis/medis/engine/ElementAttributesCollapseLastPinLaw", name := "put", desc := "([CIZC)I" } : Jvm.MethodName) method_4_code (4 : Nat) (Option.some Jvm.ClassFile.FieldType.int), Jvm.Cond.code ({ cls := "com/example/medis/medis/engine/ElementAttributes", name := "value", desc := "(I)Ljava/lang/String;" } : Jvm.MethodName) prog_35_method_7_code (2 : Nat) (Option.some (Jvm.ClassFile.FieldType.object "java/lang/String")), Jvm.Cond.code ({ cls := "java/lang/String", name := "<init>", desc := "([CII)V" } : Jvm.MethodName) jdk_42_method_4_code (4 : Nat) (Option.none : Option Jvm.ClassFile.FieldType), Jvm.Cond.code ({ cls := "java/lang/String", name := "rangeCheck", desc := "([CII)Ljava/lang/Void;" } : Jvm.MethodName) jdk_42_method_5_code (3 : Nat) (Option.some (Jvm.ClassFile.FieldType.object "java/lang/Void")), Jvm.Cond.code ({ cls := "java/lang/String", name := "checkBoundsOffCount", desc := "(III)I" } : Jvm.MethodName) jdk_42_method_157_code (3 : Nat) (Option.some Jvm.ClassFile.FieldType.int), Jvm.Cond.code ({ cls := "jdk/internal/util/Preconditions", name := "checkFromIndexSize", desc := "(IIILjava/util/function/BiFunction;)I" } : Jvm.MethodName) jdk_41_method_13_code (4 : Nat) (Option.some Jvm.ClassFile.FieldType.int), Jvm.Cond.code ({ cls := "java/lang/String", name := "<init>", desc := "([CIILjava/lang/Void;)V" } : Jvm.MethodName) jdk_42_method_149_code (6 : Nat) (Option.none : Option Jvm.ClassFile.FieldType), Jvm.Cond.code ({ cls := "java/lang/StringUTF16", name := "compress", desc := "([CII)[B" } : Jvm.MethodName) jdk_52_method_16_code (6 : Nat) (Option.some (Jvm.ClassFile.FieldType.array Jvm.ClassFile.FieldType.byte)), Jvm.Cond.code ({ cls := "java/lang/StringUTF16", name := "compress", desc := "([CI[BII)I" } : Jvm.MethodName) jdk_52_method_21_code (7 : Nat) (Option.some Jvm.ClassFile.FieldType.int), Jvm.Cond.code ({ cls := "java/lang/StringUTF16", name := "coderFromArrayLen", desc := "([BI)B" } : Jvm.MethodName) jdk_52_method_15_code (2 : Nat) (Option.some Jvm.ClassFile.FieldType.byte), Jvm.Cond.code ({ cls := "com/example/medis/medis/engine/ElementAttributes", name := "length", desc := "()I" } : Jvm.MethodName) prog_35_method_2_code (1 : Nat) (Option.some Jvm.ClassFile.FieldType.int), Jvm.Cond.code ({ cls := "java/lang/String", name := "length", desc := "()I" } : Jvm.MethodName) jdk_42_method_54_code (1 : Nat) (Option.some Jvm.ClassFile.FieldType.int), Jvm.Cond.code ({ cls := "java/lang/String", name := "coder", desc := "()B" } : Jvm.MethodName) jdk_42_method_152_code (1 : Nat) (Option.some Jvm.ClassFile.FieldType.byte), Jvm.Cond.code ({ cls := "com/example/medis/medis/engine/ElementAttributesCollapseLastPinLaw", name := "at", desc := "(Ljava/lang/String;[CII)Z" } : Jvm.MethodName) method_5_code (4 : Nat) (Option.some Jvm.ClassFile.FieldType.boolean), Jvm.Cond.code ({ cls := "java/lang/String", name := "charAt", desc := "(I)C" } : Jvm.MethodName) jdk_42_method_56_code (2 : Nat) (Option.some Jvm.ClassFile.FieldType.char), Jvm.Cond.code ({ cls := "java/lang/String", name := "isLatin1", desc := "()Z" } : Jvm.MethodName) jdk_42_method_154_code (1 : Nat) (Option.some Jvm.ClassFile.FieldType.boolean), Jvm.Cond.code ({ cls := "java/lang/StringLatin1", name := "charAt", desc := "([BI)C" } : Jvm.MethodName) jdk_43_method_2_code (2 : Nat) (Option.some Jvm.ClassFile.FieldType.char), Jvm.Cond.code ({ cls := "java/lang/String", name := "checkIndex", desc := "(II)V" } : Jvm.MethodName) jdk_42_method_155_code (2 : Nat) (Option.none : Option Jvm.ClassFile.FieldType), Jvm.Cond.code ({ cls := "jdk/internal/util/Preconditions", name := "checkIndex", desc := "(IILjava/util/function/BiFunction;)I" } : Jvm.MethodName) jdk_41_method_11_code (3 : Nat) (Option.some Jvm.ClassFile.FieldType.int), Jvm.Cond.code ({ cls := "java/lang/String", name := "<init>", desc := "([C)V" } : Jvm.MethodName) jdk_42_method_3_code (2 : Nat) (Option.none : Option Jvm.ClassFile.FieldType), Jvm.Cond.code ({ cls := "java/lang/String", name := "equals", desc := "(Ljava/lang/Object;)Z" } : Jvm.MethodName) jdk_42_method_66_code (3 : Nat) (Option.some Jvm.ClassFile.FieldType.boolean), Jvm.Cond.code ({ cls := "java/lang/StringLatin1", name := "equals", desc := "([B[B)Z" } : Jvm.MethodName) jdk_43_method_13_code (3 : Nat) (Option.some Jvm.ClassFile.FieldType.boolean)]
set_option maxRecDepth 65536 in
theorem codes_eq : words1.filter isCode = codes1 := rfl
theorem w_codes : ∀ c ∈ words1.filter isCode, c.before args0 about1 = true := by
  rw [codes_eq]
  intro c hc
  simp only [codes1, List.mem_cons, List.not_mem_nil, or_false] at hc
  rcases hc with rfl | rfl | rfl | rfl | rfl | rfl | rfl | rfl | rfl | rfl | rfl | rfl | rfl | rfl | rfl | rfl | rfl | rfl | rfl | rfl | rfl | rfl | rfl | rfl | rfl | rfl | rfl | rfl | rfl | rfl
  · exact w_c0
  · exact w_c1
  · exact w_c2
  · exact w_c3
  · exact w_c4
  · exact w_c5
  · exact w_c6
  · exact w_c7
  · exact w_c8
  · exact w_c9
  · exact w_c10
  · exact w_c11
  · exact w_c12
  · exact w_c13
  · exact w_c14
  · exact w_c15
  · exact w_c16
  · exact w_c17
  · exact w_c18
  · exact w_c19
  · exact w_c20
  · exact w_c21
  · exact w_c22
  · exact w_c23
  · exact w_c24
  · exact w_c25
  · exact w_c26
  · exact w_c27
  · exact w_c28
  · exact w_c29
set_option maxRecDepth 65536 in
theorem w_t1 : (words1.take 24).all (fun c => isCode c || c.before args0 about1) = true := by decide +kernel
set_option maxRecDepth 65536 in
theorem w_t2 : ((words1.drop 24).take 24).all (fun c => isCode c || c.before args0 about1) = true := by decide +kernel
set_option maxRecDepth 65536 in
theorem w_t3 : (((words1.drop 24).drop 24).take 24).all (fun c => isCode c || c.before args0 about1) = true := by decide +kernel
set_option maxRecDepth 65536 in
theorem w_t4 : ((((words1.drop 24).drop 24).drop 24).take 24).all (fun c => isCode c || c.before args0 about1) = true := by decide +kernel
set_option maxRecDepth 65536 in
theorem w_t5 : (((((words1.drop 24).drop 24).drop 24).drop 24).take 24).all (fun c => isCode c || c.before args0 about1) = true := by decide +kernel
set_option maxRecDepth 65536 in
theorem w_t6 : ((((((words1.drop 24).drop 24).drop 24).drop 24).drop 24).take 24).all (fun c => isCode c || c.before args0 about1) = true := by decide +kernel
set_option maxRecDepth 65536 in
theorem w_t7 : ((((((words1.drop 24).drop 24).drop 24).drop 24).drop 24).drop 24).all (fun c => isCode c || c.before args0 about1) = true := by decide +kernel
theorem w_tables : (allAtoms (Jvm.Cond.code x code maxLocals ret :: tables_1)).before args0 about1 = true := by
  rw [allAtoms_all]
  show words1.all (fun c => c.before args0 about1) = true
  refine all_split ?_ w_codes
  rw [← List.take_append_drop 24 words1, List.all_append, w_t1, ← List.take_append_drop 24 (words1.drop 24), List.all_append, w_t2, ← List.take_append_drop 24 ((words1.drop 24).drop 24), List.all_append, w_t3, ← List.take_append_drop 24 (((words1.drop 24).drop 24).drop 24), List.all_append, w_t4, ← List.take_append_drop 24 ((((words1.drop 24).drop 24).drop 24).drop 24), List.all_append, w_t5, ← List.take_append_drop 24 (((((words1.drop 24).drop 24).drop 24).drop 24).drop 24), List.all_append, w_t6, w_t7]
  rfl
set_option maxRecDepth 65536 in
theorem w_rest : rest_1_c.before args0 about1 = true := by decide +kernel
set_option maxRecDepth 65536 in
theorem w_case : (Jvm.Cond.and given_1 narrow_1).before args0 about1 = true := by decide +kernel
set_option maxRecDepth 65536 in
theorem w_consts : constsHeld consts_1 about1 := Jvm.Lit.constsHeldB_iff.mp (by decide +kernel)
theorem w_applies : (headSpec (Jvm.Cond.code x code maxLocals ret :: tables_1) room_1).applies x e0.platform about1 = true :=
  (Spec.applies_iff w_frames).mpr ⟨w_running, w_runnable, w_alone, w_named, w_hears, w_ripe, w_room, w_tables⟩
theorem atStart : AtStart classFile x code maxLocals ret World_1 tables_1 room_1 Calls_1 rest_1 Pre_1 launch0 p0 e0 about1 theMethod args0 below0 :=
  ⟨lists_1, trivial, launch0.admits_env _ _ _, launch0.least_env, fairChoices_fair.cas, fairChoices_fair.clock, w_frames, w_args, w_heap, w_applies, ⟨w_consts, trivial⟩, w_rest, w_case⟩
end start1
theorem witness_1 : WitnessClaimed_1 := ⟨start1.p0, start1.e0, start1.about1, start1.theMethod, start1.args0, start1.below0, start1.atStart⟩
end Jvm.Pilot.@@N@@
