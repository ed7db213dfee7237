import JvmDerived
import JvmDerived.Pilot.@@N@@Statement
import JvmDerived.Pilot.@@N@@Code
set_option linter.unusedVariables false
set_option linter.unusedSimpArgs false
namespace Jvm.OwnK
open Jvm Sem ClassFile Op Lib Jvm.Stand Jvm.Free Jvm.LawKit Jvm.RoadKit
section A
variable {tabs : List Jvm.Cond} {a0 : Array Value} {Z : State} {own nm : String} {code : ByteArray} {ml : Nat} {ret : Option FieldType} {p : Program} {l : Launch} {e : Env} {R : Room} {s : State} {m : MethodId} {args : Array Value} {below : List Frame} {meth : Method} {c : Code} {n0 : Nat} {T : State} {h : Heap} {k n : Nat} {Q : Option Value → Heap → Prop} {G : Outcome → State → List Loc → Prop} {pc : Nat} {ls : Array Slot} {st : List Value}
/-- what stands fast through a method's walk -/
def Cx (tabs : List Jvm.Cond) (a0 : Array Value) (Z : State) (own nm : String) (code : ByteArray) (ml : Nat) (ret : Option FieldType) (p : Program) (s : State) (m : MethodId) (meth : Method) (c : Code) : Prop :=
  p.tables.exec = Jvm.exec ∧ Z.Warmed39 s.vm ∧ c.code = code ∧ c.maxLocals = ml ∧ s.vm.findClass own = some m.cls ∧ meth.sig.returnType = ret ∧ meth.locks = false ∧ meth.name = nm ∧ ∀ d ∈ tabs, d.before a0 Z = true
/-- where the walk stands: the heap h, k cells and n slots made so far, nothing below n0 written -/
def St (p : Program) (l : Launch) (e : Env) (R : Room) (s : State) (m : MethodId) (args : Array Value) (below : List Frame) (meth : Method) (c : Code) (n0 : Nat) (T : State) (h : Heap) (k n : Nat) : Prop :=
  ∃ locs, Stand p l e R s m args below meth c T locs k n ∧ T.heap = h ∧ Fr n0 locs ∧ n0 ≤ s.heap.size
/-- from this frame the method ends, and returns what Q says -/
def Run (p : Program) (e : Env) (below : List Frame) (n0 : Nat) (Q : Option Value → Heap → Prop) (G : Outcome → State → List Loc → Prop) (m : MethodId) (T : State) (pc : Nat) (ls : Array Slot) (st : List Value) : Prop :=
  ∃ s₂ o, Steps p.tables e below (T.setTop (mkF m pc ls st)) s₂ ∧ s₂.status = .running ∧ Ended s₂ below o ∧ ∃ v L, o = .returned v ∧ (Q v s₂.heap ∧ Fr n0 L) ∧ G o s₂ L
theorem Run.step {T' : State} {pc' : Nat} {ls' : Array Slot} {st' : List Value} (f : ∀ t, Steps p.tables e below (T'.setTop (mkF m pc' ls' st')) t → Steps p.tables e below (T.setTop (mkF m pc ls st)) t) (r : Run p e below n0 Q G m T' pc' ls' st') : Run p e below n0 Q G m T pc ls st := by
  obtain ⟨s₂, o, h1, h2⟩ := r
  exact ⟨s₂, o, f _ h1, h2⟩
theorem Run.steps {T' : State} {pc' : Nat} {ls' : Array Slot} {st' : List Value} (f : Steps p.tables e below (T.setTop (mkF m pc ls st)) (T'.setTop (mkF m pc' ls' st'))) (r : Run p e below n0 Q G m T' pc' ls' st') : Run p e below n0 Q G m T pc ls st := Run.step (fun _ q => f.trans q) r
theorem Run.cast {st' : List Value} (q : st = st') (r : Run p e below n0 Q G m T pc ls st') : Run p e below n0 Q G m T pc ls st := q ▸ r
theorem St.at' (X : St p l e R s m args below meth c n0 T h k n) : Jvm.At T m c below := by obtain ⟨_, X, -⟩ := X; exact X.here
theorem St.sz (X : St p l e R s m args below meth c n0 T h k n) : n0 ≤ h.size := by
  obtain ⟨_, X, rfl, -, q⟩ := X
  exact Nat.le_trans q X.same.2.1
theorem Cx.d {r : Except DecodeError (Instr × Nat)} (C : Cx tabs a0 Z own nm code ml ret p s m meth c) (q : decode code pc = r) : decode c.code pc = r := hb C.2.2.1 q
theorem Cx.w {d : Jvm.Cond} (C : Cx tabs a0 Z own nm code ml ret p s m meth c) (q : d ∈ tabs) : d.before a0 Z = true := C.2.2.2.2.2.2.2.2 d q
theorem s_iloadN (pc' : Nat) (C : Cx tabs a0 Z own nm code ml ret p s m meth c) (X : St p l e R s m args below meth c n0 T h k n) {i : Fin 4} {v : Int32} (hd : decode code pc = .ok (.iload_n i, 1)) (hl : ls[i.val]? = some (.val (.int v))) (r : Run p e below n0 Q G m T pc' ls (.int v :: st)) (hp : pc + 1 = pc' := by rfl) : Run p e below n0 Q G m T pc ls st := by
  subst hp
  exact Run.step (fun t q => XS.iloadN X.at' C.1 rfl (C.d hd) hl q) r
theorem s_iload (pc' : Nat) (C : Cx tabs a0 Z own nm code ml ret p s m meth c) (X : St p l e R s m args below meth c n0 T h k n) {i : Nat} {v : Int32} (hd : decode code pc = .ok (.iload i, 2)) (hl : ls[i]? = some (.val (.int v))) (r : Run p e below n0 Q G m T pc' ls (.int v :: st)) (hp : pc + 2 = pc' := by rfl) : Run p e below n0 Q G m T pc ls st := by
  subst hp
  exact Run.step (fun t q => XS.iload X.at' C.1 rfl (C.d hd) hl q) r
theorem s_aloadN (pc' : Nat) (C : Cx tabs a0 Z own nm code ml ret p s m meth c) (X : St p l e R s m args below meth c n0 T h k n) {i : Fin 4} {v : Value} (hd : decode code pc = .ok (.aload_n i, 1)) (hl : ls[i.val]? = some (.val v)) (hv : v.isRef = true) (r : Run p e below n0 Q G m T pc' ls (v :: st)) (hp : pc + 1 = pc' := by rfl) : Run p e below n0 Q G m T pc ls st := by
  subst hp
  exact Run.step (fun t q => XS.aloadN X.at' C.1 rfl (C.d hd) hl hv q) r
theorem s_aload (pc' : Nat) (C : Cx tabs a0 Z own nm code ml ret p s m meth c) (X : St p l e R s m args below meth c n0 T h k n) {i : Nat} {v : Value} (hd : decode code pc = .ok (.aload i, 2)) (hl : ls[i]? = some (.val v)) (hv : v.isRef = true) (r : Run p e below n0 Q G m T pc' ls (v :: st)) (hp : pc + 2 = pc' := by rfl) : Run p e below n0 Q G m T pc ls st := by
  subst hp
  exact Run.step (fun t q => XS.aload X.at' C.1 rfl (C.d hd) hl hv q) r
theorem s_istoreN (pc' : Nat) (C : Cx tabs a0 Z own nm code ml ret p s m meth c) (X : St p l e R s m args below meth c n0 T h k n) {i : Fin 4} {v : Int32} {l' : Array Slot} (hd : decode code pc = .ok (.istore_n i, 1)) (hl : storeLocals ls i.val (.int v) = some l') (r : Run p e below n0 Q G m T pc' l' st) (hp : pc + 1 = pc' := by rfl) : Run p e below n0 Q G m T pc ls (.int v :: st) := by
  subst hp
  exact Run.step (fun t q => XS.istoreN X.at' C.1 rfl (C.d hd) rfl hl q) r
theorem s_istore (pc' : Nat) (C : Cx tabs a0 Z own nm code ml ret p s m meth c) (X : St p l e R s m args below meth c n0 T h k n) {i : Nat} {v : Int32} {l' : Array Slot} (hd : decode code pc = .ok (.istore i, 2)) (hl : storeLocals ls i (.int v) = some l') (r : Run p e below n0 Q G m T pc' l' st) (hp : pc + 2 = pc' := by rfl) : Run p e below n0 Q G m T pc ls (.int v :: st) := by
  subst hp
  exact Run.step (fun t q => XS.istore X.at' C.1 rfl (C.d hd) rfl hl q) r
theorem s_astoreN (pc' : Nat) (C : Cx tabs a0 Z own nm code ml ret p s m meth c) (X : St p l e R s m args below meth c n0 T h k n) {i : Fin 4} {v : Value} {l' : Array Slot} (hd : decode code pc = .ok (.astore_n i, 1)) (hv : v.isRef = true) (hl : storeLocals ls i.val v = some l') (r : Run p e below n0 Q G m T pc' l' st) (hp : pc + 1 = pc' := by rfl) : Run p e below n0 Q G m T pc ls (v :: st) := by
  subst hp
  exact Run.step (fun t q => XS.astoreN X.at' C.1 rfl (C.d hd) rfl hv hl q) r
theorem s_astore (pc' : Nat) (C : Cx tabs a0 Z own nm code ml ret p s m meth c) (X : St p l e R s m args below meth c n0 T h k n) {i : Nat} {v : Value} {l' : Array Slot} (hd : decode code pc = .ok (.astore i, 2)) (hv : v.isRef = true) (hl : storeLocals ls i v = some l') (r : Run p e below n0 Q G m T pc' l' st) (hp : pc + 2 = pc' := by rfl) : Run p e below n0 Q G m T pc ls (v :: st) := by
  subst hp
  exact Run.step (fun t q => XS.astore X.at' C.1 rfl (C.d hd) rfl hv hl q) r
theorem s_iinc (pc' : Nat) (C : Cx tabs a0 Z own nm code ml ret p s m meth c) (X : St p l e R s m args below meth c n0 T h k n) {i : Nat} {cst : Int} {x z : Int32} {l' : Array Slot} (hd : decode code pc = .ok (.iinc i cst, 3)) (hz : Int32.ofInt cst = z) (hl : ls[i]? = some (.val (.int x))) (hl' : storeLocals ls i (.int (x + z)) = some l') (r : Run p e below n0 Q G m T pc' l' st) (hp : pc + 3 = pc' := by rfl) : Run p e below n0 Q G m T pc ls st := by
  subst hp
  exact Run.step (fun t q => XS.iinc X.at' C.1 rfl (C.d hd) hl (by rw [hz]; exact hl') q) r
theorem s_iconst (pc' : Nat) (C : Cx tabs a0 Z own nm code ml ret p s m meth c) (X : St p l e R s m args below meth c n0 T h k n) {i : Int} {z : Int32} (hd : decode code pc = .ok (.iconst i, 1)) (hz : Int32.ofInt i = z) (r : Run p e below n0 Q G m T pc' ls (.int z :: st)) (hp : pc + 1 = pc' := by rfl) : Run p e below n0 Q G m T pc ls st := by
  subst hp
  exact Run.step (fun t q => XS.iconst X.at' C.1 rfl (C.d hd) (by rw [hz]; exact q)) r
theorem s_bipush (pc' : Nat) (C : Cx tabs a0 Z own nm code ml ret p s m meth c) (X : St p l e R s m args below meth c n0 T h k n) {i : Int} {z : Int32} (hd : decode code pc = .ok (.bipush i, 2)) (hz : (Int8.ofInt i).toInt32 = z) (r : Run p e below n0 Q G m T pc' ls (.int z :: st)) (hp : pc + 2 = pc' := by rfl) : Run p e below n0 Q G m T pc ls st := by
  subst hp
  exact Run.step (fun t q => XS.bipush X.at' C.1 rfl (C.d hd) (by rw [hz]; exact q)) r
theorem s_sipush (pc' : Nat) (C : Cx tabs a0 Z own nm code ml ret p s m meth c) (X : St p l e R s m args below meth c n0 T h k n) {i : Int} {z : Int32} (hd : decode code pc = .ok (.sipush i, 3)) (hz : (Int16.ofInt i).toInt32 = z) (r : Run p e below n0 Q G m T pc' ls (.int z :: st)) (hp : pc + 3 = pc' := by rfl) : Run p e below n0 Q G m T pc ls st := by
  subst hp
  exact Run.step (fun t q => XS.sipush X.at' C.1 rfl (C.d hd) (by rw [hz]; exact q)) r
theorem s_iadd (pc' : Nat) (C : Cx tabs a0 Z own nm code ml ret p s m meth c) (X : St p l e R s m args below meth c n0 T h k n) {x y : Int32} (hd : decode code pc = .ok (.iadd, 1)) (r : Run p e below n0 Q G m T pc' ls (.int (x + y) :: st)) (hp : pc + 1 = pc' := by rfl) : Run p e below n0 Q G m T pc ls (.int y :: .int x :: st) := by
  subst hp
  exact Run.step (fun t q => XS.iadd X.at' C.1 rfl (C.d hd) rfl q) r
theorem s_isub (pc' : Nat) (C : Cx tabs a0 Z own nm code ml ret p s m meth c) (X : St p l e R s m args below meth c n0 T h k n) {x y : Int32} (hd : decode code pc = .ok (.isub, 1)) (r : Run p e below n0 Q G m T pc' ls (.int (x - y) :: st)) (hp : pc + 1 = pc' := by rfl) : Run p e below n0 Q G m T pc ls (.int y :: .int x :: st) := by
  subst hp
  exact Run.step (fun t q => XS.isub X.at' C.1 rfl (C.d hd) rfl q) r
theorem s_iand (pc' : Nat) (C : Cx tabs a0 Z own nm code ml ret p s m meth c) (X : St p l e R s m args below meth c n0 T h k n) {x y : Int32} (hd : decode code pc = .ok (.iand, 1)) (r : Run p e below n0 Q G m T pc' ls (.int (x &&& y) :: st)) (hp : pc + 1 = pc' := by rfl) : Run p e below n0 Q G m T pc ls (.int y :: .int x :: st) := by
  subst hp
  exact Run.step (fun t q => XS.iand X.at' C.1 rfl (C.d hd) rfl q) r
theorem s_imul (pc' : Nat) (C : Cx tabs a0 Z own nm code ml ret p s m meth c) (X : St p l e R s m args below meth c n0 T h k n) {x y : Int32} (hd : decode code pc = .ok (.imul, 1)) (r : Run p e below n0 Q G m T pc' ls (.int (x * y) :: st)) (hp : pc + 1 = pc' := by rfl) : Run p e below n0 Q G m T pc ls (.int y :: .int x :: st) := by
  subst hp
  exact Run.step (fun t q => XS.imul X.at' C.1 rfl (C.d hd) rfl q) r
theorem s_iushr (pc' : Nat) (C : Cx tabs a0 Z own nm code ml ret p s m meth c) (X : St p l e R s m args below meth c n0 T h k n) {x y : Int32} (hd : decode code pc = .ok (.iushr, 1)) (r : Run p e below n0 Q G m T pc' ls (.int ((x.toUInt32 >>> (y &&& 31).toUInt32).toInt32) :: st)) (hp : pc + 1 = pc' := by rfl) : Run p e below n0 Q G m T pc ls (.int y :: .int x :: st) := by
  subst hp
  exact Run.step (fun t q => XT.iushr X.at' C.1 rfl (C.d hd) rfl q) r
theorem s_irem (pc' : Nat) (C : Cx tabs a0 Z own nm code ml ret p s m meth c) (X : St p l e R s m args below meth c n0 T h k n) {x y : Int32} (hd : decode code pc = .ok (.irem, 1)) (hy : y ≠ 0) (r : Run p e below n0 Q G m T pc' ls (.int (x % y) :: st)) (hp : pc + 1 = pc' := by rfl) : Run p e below n0 Q G m T pc ls (.int y :: .int x :: st) := by
  subst hp
  exact Run.step (fun t q => XS.irem X.at' C.1 rfl (C.d hd) rfl hy (by rw [show x - x / y * y = x % y from irem_eq_mod x y]; exact q)) r
theorem s_i2b (pc' : Nat) (C : Cx tabs a0 Z own nm code ml ret p s m meth c) (X : St p l e R s m args below meth c n0 T h k n) {x : Int32} (hd : decode code pc = .ok (.i2b, 1)) (r : Run p e below n0 Q G m T pc' ls (.int x.toInt8.toInt32 :: st)) (hp : pc + 1 = pc' := by rfl) : Run p e below n0 Q G m T pc ls (.int x :: st) := by
  subst hp
  exact Run.step (fun t q => XT.i2b X.at' C.1 rfl (C.d hd) rfl q) r
theorem s_dup (pc' : Nat) (C : Cx tabs a0 Z own nm code ml ret p s m meth c) (X : St p l e R s m args below meth c n0 T h k n) {v : Value} (hd : decode code pc = .ok (.dup, 1)) (hc : v.category = 1) (r : Run p e below n0 Q G m T pc' ls (v :: v :: st)) (hp : pc + 1 = pc' := by rfl) : Run p e below n0 Q G m T pc ls (v :: st) := by
  subst hp
  exact Run.step (fun t q => XS.dup X.at' C.1 rfl (C.d hd) rfl hc q) r
theorem s_goto (pc' : Nat) (C : Cx tabs a0 Z own nm code ml ret p s m meth c) (X : St p l e R s m args below meth c n0 T h k n) {o : Int} (hd : decode code pc = .ok (.goto o, 3)) (r : Run p e below n0 Q G m T pc' ls st) (hp : 0 ≤ (pc : Int) + o ∧ ((pc : Int) + o).toNat = pc' := by decide) : Run p e below n0 Q G m T pc ls st := by
  exact Run.step (fun t q => XS.goto X.at' C.1 rfl rfl (C.d hd) hp.1 hp.2 q) r
theorem s_icmp_lt (pY pN : Nat) (C : Cx tabs a0 Z own nm code ml ret p s m meth c) (X : St p l e R s m args below meth c n0 T h k n) {x y : Int32} {o : Int} (hd : decode code pc = .ok (.if_icmp .lt o, 3)) (ry : x < y → Run p e below n0 Q G m T pY ls st) (rn : ¬ x < y → Run p e below n0 Q G m T pN ls st) (hp : 0 ≤ (pc : Int) + o ∧ ((pc : Int) + o).toNat = pY ∧ pc + 3 = pN := by decide) : Run p e below n0 Q G m T pc ls (.int y :: .int x :: st) := by
  by_cases g : x < y
  · exact Run.step (fun t q => XS.icmpYes X.at' C.1 rfl rfl (C.d hd) rfl (tlt g).1 hp.1 hp.2.1 q) (ry g)
  · obtain rfl := hp.2.2
    exact Run.step (fun t q => XS.icmpNo X.at' C.1 rfl (C.d hd) rfl (flt g).1 q) (rn g)
theorem s_icmp_ge (pY pN : Nat) (C : Cx tabs a0 Z own nm code ml ret p s m meth c) (X : St p l e R s m args below meth c n0 T h k n) {x y : Int32} {o : Int} (hd : decode code pc = .ok (.if_icmp .ge o, 3)) (ry : ¬ x < y → Run p e below n0 Q G m T pY ls st) (rn : x < y → Run p e below n0 Q G m T pN ls st) (hp : 0 ≤ (pc : Int) + o ∧ ((pc : Int) + o).toNat = pY ∧ pc + 3 = pN := by decide) : Run p e below n0 Q G m T pc ls (.int y :: .int x :: st) := by
  by_cases g : x < y
  · obtain rfl := hp.2.2
    exact Run.step (fun t q => XS.icmpNo X.at' C.1 rfl (C.d hd) rfl (tlt g).2.1 q) (rn g)
  · exact Run.step (fun t q => XS.icmpYes X.at' C.1 rfl rfl (C.d hd) rfl (flt g).2.1 hp.1 hp.2.1 q) (ry g)
theorem s_if_ge (pY pN : Nat) (C : Cx tabs a0 Z own nm code ml ret p s m meth c) (X : St p l e R s m args below meth c n0 T h k n) {x : Int32} {o : Int} (hd : decode code pc = .ok (.ifCond .ge o, 3)) (ry : ¬ x < (0 : Int32) → Run p e below n0 Q G m T pY ls st) (rn : x < (0 : Int32) → Run p e below n0 Q G m T pN ls st) (hp : 0 ≤ (pc : Int) + o ∧ ((pc : Int) + o).toNat = pY ∧ pc + 3 = pN := by decide) : Run p e below n0 Q G m T pc ls (.int x :: st) := by
  by_cases g : x < (0 : Int32)
  · obtain rfl := hp.2.2
    exact Run.step (fun t q => XS.ifNo X.at' C.1 rfl (C.d hd) rfl ((if0 _ _).trans (tlt g).2.1) q) (rn g)
  · exact Run.step (fun t q => XS.ifYes X.at' C.1 rfl rfl (C.d hd) rfl ((if0 _ _).trans (flt g).2.1) hp.1 hp.2.1 q) (ry g)
theorem s_icmp_le (pY pN : Nat) (C : Cx tabs a0 Z own nm code ml ret p s m meth c) (X : St p l e R s m args below meth c n0 T h k n) {x y : Int32} {o : Int} (hd : decode code pc = .ok (.if_icmp .le o, 3)) (ry : ¬ y < x → Run p e below n0 Q G m T pY ls st) (rn : y < x → Run p e below n0 Q G m T pN ls st) (hp : 0 ≤ (pc : Int) + o ∧ ((pc : Int) + o).toNat = pY ∧ pc + 3 = pN := by decide) : Run p e below n0 Q G m T pc ls (.int y :: .int x :: st) := by
  by_cases g : y < x
  · obtain rfl := hp.2.2
    exact Run.step (fun t q => XS.icmpNo X.at' C.1 rfl (C.d hd) rfl (tlt g).2.2.2 q) (rn g)
  · exact Run.step (fun t q => XS.icmpYes X.at' C.1 rfl rfl (C.d hd) rfl (flt g).2.2.2 hp.1 hp.2.1 q) (ry g)
theorem s_if_le (pY pN : Nat) (C : Cx tabs a0 Z own nm code ml ret p s m meth c) (X : St p l e R s m args below meth c n0 T h k n) {x : Int32} {o : Int} (hd : decode code pc = .ok (.ifCond .le o, 3)) (ry : ¬ (0 : Int32) < x → Run p e below n0 Q G m T pY ls st) (rn : (0 : Int32) < x → Run p e below n0 Q G m T pN ls st) (hp : 0 ≤ (pc : Int) + o ∧ ((pc : Int) + o).toNat = pY ∧ pc + 3 = pN := by decide) : Run p e below n0 Q G m T pc ls (.int x :: st) := by
  by_cases g : (0 : Int32) < x
  · obtain rfl := hp.2.2
    exact Run.step (fun t q => XS.ifNo X.at' C.1 rfl (C.d hd) rfl ((if0 _ _).trans (tlt g).2.2.2) q) (rn g)
  · exact Run.step (fun t q => XS.ifYes X.at' C.1 rfl rfl (C.d hd) rfl ((if0 _ _).trans (flt g).2.2.2) hp.1 hp.2.1 q) (ry g)
theorem s_icmp_eq (pY pN : Nat) (C : Cx tabs a0 Z own nm code ml ret p s m meth c) (X : St p l e R s m args below meth c n0 T h k n) {x y : Int32} {o : Int} (hd : decode code pc = .ok (.if_icmp .eq o, 3)) (ry : x = y → Run p e below n0 Q G m T pY ls st) (rn : ¬ x = y → Run p e below n0 Q G m T pN ls st) (hp : 0 ≤ (pc : Int) + o ∧ ((pc : Int) + o).toNat = pY ∧ pc + 3 = pN := by decide) : Run p e below n0 Q G m T pc ls (.int y :: .int x :: st) := by
  by_cases g : x = y
  · exact Run.step (fun t q => XS.icmpYes X.at' C.1 rfl rfl (C.d hd) rfl (teq g).1 hp.1 hp.2.1 q) (ry g)
  · obtain rfl := hp.2.2
    exact Run.step (fun t q => XS.icmpNo X.at' C.1 rfl (C.d hd) rfl (feq g).1 q) (rn g)
theorem s_if_eq (pY pN : Nat) (C : Cx tabs a0 Z own nm code ml ret p s m meth c) (X : St p l e R s m args below meth c n0 T h k n) {x : Int32} {o : Int} (hd : decode code pc = .ok (.ifCond .eq o, 3)) (ry : x = (0 : Int32) → Run p e below n0 Q G m T pY ls st) (rn : ¬ x = (0 : Int32) → Run p e below n0 Q G m T pN ls st) (hp : 0 ≤ (pc : Int) + o ∧ ((pc : Int) + o).toNat = pY ∧ pc + 3 = pN := by decide) : Run p e below n0 Q G m T pc ls (.int x :: st) := by
  by_cases g : x = (0 : Int32)
  · exact Run.step (fun t q => XS.ifYes X.at' C.1 rfl rfl (C.d hd) rfl ((if0 _ _).trans (teq g).1) hp.1 hp.2.1 q) (ry g)
  · obtain rfl := hp.2.2
    exact Run.step (fun t q => XS.ifNo X.at' C.1 rfl (C.d hd) rfl ((if0 _ _).trans (feq g).1) q) (rn g)
theorem s_icmp_ne (pY pN : Nat) (C : Cx tabs a0 Z own nm code ml ret p s m meth c) (X : St p l e R s m args below meth c n0 T h k n) {x y : Int32} {o : Int} (hd : decode code pc = .ok (.if_icmp .ne o, 3)) (ry : ¬ x = y → Run p e below n0 Q G m T pY ls st) (rn : x = y → Run p e below n0 Q G m T pN ls st) (hp : 0 ≤ (pc : Int) + o ∧ ((pc : Int) + o).toNat = pY ∧ pc + 3 = pN := by decide) : Run p e below n0 Q G m T pc ls (.int y :: .int x :: st) := by
  by_cases g : x = y
  · obtain rfl := hp.2.2
    exact Run.step (fun t q => XS.icmpNo X.at' C.1 rfl (C.d hd) rfl (teq g).2 q) (rn g)
  · exact Run.step (fun t q => XS.icmpYes X.at' C.1 rfl rfl (C.d hd) rfl (feq g).2 hp.1 hp.2.1 q) (ry g)
theorem s_if_ne (pY pN : Nat) (C : Cx tabs a0 Z own nm code ml ret p s m meth c) (X : St p l e R s m args below meth c n0 T h k n) {x : Int32} {o : Int} (hd : decode code pc = .ok (.ifCond .ne o, 3)) (ry : ¬ x = (0 : Int32) → Run p e below n0 Q G m T pY ls st) (rn : x = (0 : Int32) → Run p e below n0 Q G m T pN ls st) (hp : 0 ≤ (pc : Int) + o ∧ ((pc : Int) + o).toNat = pY ∧ pc + 3 = pN := by decide) : Run p e below n0 Q G m T pc ls (.int x :: st) := by
  by_cases g : x = (0 : Int32)
  · obtain rfl := hp.2.2
    exact Run.step (fun t q => XS.ifNo X.at' C.1 rfl (C.d hd) rfl ((if0 _ _).trans (teq g).2) q) (rn g)
  · exact Run.step (fun t q => XS.ifYes X.at' C.1 rfl rfl (C.d hd) rfl ((if0 _ _).trans (feq g).2) hp.1 hp.2.1 q) (ry g)
theorem s_acmp_ne (pY pN : Nat) (C : Cx tabs a0 Z own nm code ml ret p s m meth c) (X : St p l e R s m args below meth c n0 T h k n) {v w : Value} {o : Int} (hd : decode code pc = .ok (.if_acmp .ne o, 3)) (hv : v.isRef = true) (hw : w.isRef = true) (ry : ¬ v = w → Run p e below n0 Q G m T pY ls st) (rn : v = w → Run p e below n0 Q G m T pN ls st) (hp : 0 ≤ (pc : Int) + o ∧ ((pc : Int) + o).toNat = pY ∧ pc + 3 = pN := by decide) : Run p e below n0 Q G m T pc ls (w :: v :: st) := by
  by_cases g : v = w
  · obtain rfl := hp.2.2; exact Run.step (fun t q => XT.acmpNo X.at' C.1 rfl (C.d hd) rfl hv hw (by simp [XT.acmp, g]) q) (rn g)
  · exact Run.step (fun t q => XT.acmpYes X.at' C.1 rfl rfl (C.d hd) rfl hv hw (by simp [XT.acmp, g]) hp.1 hp.2.1 q) (ry g)
theorem FE_mono {kc ks : Nat} (hk : k ≤ kc) (hn : n ≤ ks) : ∀ (v : Option Value) (t : State) (L : List Loc), FrameEnd s (.returned v) t L k n → FrameEnd s (.returned v) t L kc ks := fun v t L h => ⟨h.1, h.2.1, h.2.2.mono hk hn⟩
theorem Run.done (C : Cx tabs a0 Z own nm code ml ret p s m meth c) (X : St p l e R s m args below meth c n0 T h k n) {v : Option Value} (hv : ret = none → v = none) (hG : ∀ (v : Option Value) (t : State) (L : List Loc), FrameEnd s (.returned v) t L k n → G (.returned v) t L) (q : Q v h) (f : ∀ locs fs, Stand p l e R s m args below meth c T locs k n → (∀ (f : JFrame) (acts : List Action), f.method = m → f.locked = none → f.entered = [] → (doReturn e (T.setTop f) acts v).1 = T.setFrames fs) → Steps p.tables e below (T.setTop (mkF m pc ls st)) (T.setFrames fs)) : Run p e below n0 Q G m T pc ls st := by
  obtain ⟨locs, Y, rfl, N, -⟩ := X
  obtain ⟨fs, hr, hrun, hended, hW, hsame⟩ := Y.leave (v := v) (by rw [C.2.2.2.2.2.1]; exact hv) C.2.2.2.2.2.2.1
  exact ⟨_, _, f locs fs Y hr, hrun, hended, _, _, rfl, ⟨q, N⟩, hG _ _ _ ⟨⟨_, rfl⟩, hW, hsame⟩⟩
theorem s_return (C : Cx tabs a0 Z own nm code ml ret p s m meth c) (X : St p l e R s m args below meth c n0 T h k n) (hd : decode code pc = .ok (.return_, 1)) (hr : ret = none) (q : Q none h) (hG : ∀ (v : Option Value) (t : State) (L : List Loc), FrameEnd s (.returned v) t L k n → G (.returned v) t L := by exact FE_mono (by decide) (by decide)) : Run p e below n0 Q G m T pc ls [] := by
  subst hr
  exact Run.done C X (fun _ => rfl) hG q (fun locs fs Y hr => Y.returnOut C.1 C.2.2.2.2.2.1 (C.d hd) hr)
theorem s_ireturn (C : Cx tabs a0 Z own nm code ml ret p s m meth c) (X : St p l e R s m args below meth c n0 T h k n) {z : Int32} (hd : decode code pc = .ok (.ireturn, 1)) (hr : ret = some .int) (q : Q (some (.int z)) h) (hG : ∀ (v : Option Value) (t : State) (L : List Loc), FrameEnd s (.returned v) t L k n → G (.returned v) t L := by exact FE_mono (by decide) (by decide)) : Run p e below n0 Q G m T pc ls (.int z :: st) := by
  subst hr
  refine Run.done C X (fun w => by cases w) hG q (fun locs fs Y hr => ?_)
  exact retOut Y C.1 C.2.2.2.2.2.1 (t := .int) rfl (Or.inl ⟨rfl, Or.inl rfl, _, rfl⟩) (C.d hd) hr
theorem s_nreturn (C : Cx tabs a0 Z own nm code ml ret p s m meth c) (X : St p l e R s m args below meth c n0 T h k n) {z z' : Int32} {t : FieldType} (hd : decode code pc = .ok (.ireturn, 1)) (hr : ret = some t) (ht : t = .boolean ∨ t = .byte ∨ t = .char ∨ t = .short) (hz : nar t z = z') (q : Q (some (.int z')) h) (hG : ∀ (v : Option Value) (t : State) (L : List Loc), FrameEnd s (.returned v) t L k n → G (.returned v) t L := by exact FE_mono (by decide) (by decide)) : Run p e below n0 Q G m T pc ls (.int z :: st) := by
  subst hr hz
  refine Run.done C X (fun w => by cases w) hG q (fun locs fs Y hr => ?_)
  exact retN Y C.1 C.2.2.2.2.2.1 ht (C.d hd) hr
theorem s_areturn (C : Cx tabs a0 Z own nm code ml ret p s m meth c) (X : St p l e R s m args below meth c n0 T h k n) {v : Value} {t : FieldType} (hd : decode code pc = .ok (.areturn, 1)) (hr : ret = some t) (ht : t.isReference = true) (hv : v.isRef = true) (q : Q (some v) h) (hG : ∀ (v : Option Value) (t : State) (L : List Loc), FrameEnd s (.returned v) t L k n → G (.returned v) t L := by exact FE_mono (by decide) (by decide)) : Run p e below n0 Q G m T pc ls (v :: st) := by
  subst hr
  refine Run.done C X (fun w => by cases w) hG q (fun locs fs Y hr => ?_)
  exact retOut Y C.1 C.2.2.2.2.2.1 (t := t) (by rcases ref_cases hv with rfl | ⟨_, rfl⟩ <;> cases t <;> first | rfl | simp [FieldType.isReference] at ht) (Or.inr (Or.inr (Or.inr (Or.inr ⟨rfl, ht, hv⟩)))) (C.d hd) hr
theorem s_getfield (pc' : Nat) (C : Cx tabs a0 Z own nm code ml ret p s m meth c) (X : St p l e R s m args below meth c n0 T h k n) {R0 O fn d host : String} {idx : Nat} {a : Addr} {v : Value} (hd : decode code pc = .ok (.getfield idx, 3)) (w : Jvm.Cond.fieldLink own idx R0 fn d ∈ tabs ∨ Jvm.Cond.fieldLinkNest own idx R0 fn d host ∈ tabs) (via : Via Z R0 O fn d) (F : Fld Z h a O fn d v) (r : ∀ T', St p l e R s m args below meth c n0 T' h k n → Run p e below n0 Q G m T' pc' ls (v :: st)) (hp : pc + 3 = pc' := by rfl) : Run p e below n0 Q G m T pc ls (.ref a :: st) := by
  subst hp
  obtain ⟨locs, Y, eT, N, q⟩ := X
  obtain ⟨T', Y', e', f⟩ := getF (host := host) Y C.1 C.2.1 C.2.2.2.2.1 (w.imp C.w C.w) via eT F (g := mkF m pc ls (.ref a :: st)) rfl rfl (C.d hd)
  exact Run.step f (r T' ⟨locs, Y', e', N, q⟩)
theorem s_getstatic (pc' : Nat) (C : Cx tabs a0 Z own nm code ml ret p s m meth c) (X : St p l e R s m args below meth c n0 T h k n) {R0 O fn d host : String} {idx : Nat} {v : Value} (hd : decode code pc = .ok (.getstatic idx, 3)) (w : Jvm.Cond.fieldLink own idx R0 fn d ∈ tabs ∨ Jvm.Cond.fieldLinkNest own idx R0 fn d host ∈ tabs) (via : Via Z R0 O fn d) (F : Sta Z h O fn d v) (r : ∀ T', St p l e R s m args below meth c n0 T' h k n → Run p e below n0 Q G m T' pc' ls (v :: st)) (hp : pc + 3 = pc' := by rfl) : Run p e below n0 Q G m T pc ls st := by
  subst hp
  obtain ⟨locs, Y, eT, N, q⟩ := X
  obtain ⟨T', Y', e', f⟩ := getS2 (host := host) Y C.1 C.2.1 C.2.2.2.2.1 (w.imp C.w C.w) via eT F (g := mkF m pc ls st) rfl (C.d hd)
  exact Run.step f (r T' ⟨locs, Y', e', N, q⟩)
theorem s_new (pc' : Nat) (C : Cx tabs a0 Z own nm code ml ret p s m meth c) (X : St p l e R s m args below meth c n0 T h k n) {K : String} {idx nn : Nat} (hd : decode code pc = .ok (.new idx, 3)) (w1 : Jvm.Cond.classLink own idx K ∈ tabs) (w2 : Jvm.Cond.instantiable K nn ∈ tabs) (w3 : Jvm.Cond.initialized K ∈ tabs)
    (r : ∀ T' h' b, h.size = b → St p l e R s m args below meth c n0 T' h' (k + 1) (n + nn) → Ext h h' → Exa Z h' b K → (∀ {O fn d : String} {ty : FieldType}, Laid Z a0 K O fn d → parseFieldDescriptor d = some ty → Fld Z h' b O fn d (defaultValue ty)) → n0 ≤ b → Run p e below n0 Q G m T' pc' ls (.ref b :: st)) (hp : pc + 3 = pc' := by rfl) (hc : k + 1 ≤ R.cells ∧ n + nn ≤ R.slots := by decide) : Run p e below n0 Q G m T pc ls st := by
  subst hp
  have hz := X.sz
  obtain ⟨locs, Y, eT, N, q⟩ := X
  obtain ⟨T', h', Y', e', E, A, D, -, f⟩ := newO Y C.1 C.2.1 C.2.2.2.2.1 (C.w w1) (C.w w2) (C.w w3) eT (g := mkF m pc ls st) rfl (C.d hd) hc.1 hc.2
  exact Run.step f (r T' h' _ rfl ⟨locs, Y', e', N, q⟩ E A D hz)
theorem s_castY (pc' : Nat) (C : Cx tabs a0 Z own nm code ml ret p s m meth c) (X : St p l e R s m args below meth c n0 T h k n) {K : String} {idx : Nat} {a : Addr} (hd : decode code pc = .ok (.checkcast idx, 3)) (w : Jvm.Cond.classLink own idx K ∈ tabs) (F : Ins Z h a K true) (r : ∀ T', St p l e R s m args below meth c n0 T' h k n → Run p e below n0 Q G m T' pc' ls (.ref a :: st)) (hp : pc + 3 = pc' := by rfl) : Run p e below n0 Q G m T pc ls (.ref a :: st) := by
  subst hp
  obtain ⟨locs, Y, eT, N, q⟩ := X
  obtain ⟨T', Y', e', f⟩ := castY Y C.1 C.2.1 C.2.2.2.2.1 (C.w w) eT F (g := mkF m pc ls (.ref a :: st)) rfl rfl (C.d hd)
  exact Run.step f (r T' ⟨locs, Y', e', N, q⟩)
theorem s_newarray (pc' : Nat) (cap : Nat) (C : Cx tabs a0 Z own nm code ml ret p s m meth c) (X : St p l e R s m args below meth c n0 T h k n) {aty : ArrayType} {z : Int32} (hd : decode code pc = .ok (.newarray aty, 2)) (w : Jvm.Cond.arrayClass (newarray.typeOf aty) ∈ tabs) (hz : ¬ z < 0) (hcap : z.toNatClampNeg ≤ cap)
    (r : ∀ T' h' b kA, h.size = b → St p l e R s m args below meth c n0 T' h' (k + 1) (n + cap) → Ext h h' → Arv Z h' b kA (newarray.typeOf aty) z [] (defaultValue (newarray.typeOf aty)) → n0 ≤ b → Run p e below n0 Q G m T' pc' ls (.ref b :: st)) (hp : pc + 2 = pc' := by rfl) (hc : cap * 8 ≤ 536870912 ∧ k + 1 ≤ R.cells ∧ n + cap ≤ R.slots := by decide) : Run p e below n0 Q G m T pc ls (.int z :: st) := by
  subst hp
  have hs := X.sz
  obtain ⟨locs, Y, eT, N, q⟩ := X
  obtain ⟨T', h', kA, Y', e', E, A, f⟩ := newP Y C.1 C.2.1 (C.w w) eT (g := mkF m pc ls (.int z :: st)) rfl (C.d hd) rfl hz hcap hc.1 hc.2.1 hc.2.2
  exact Run.step f (r T' h' _ kA rfl ⟨locs, Y', e', N, q⟩ E (Arv.new A hz) hs)
theorem s_iastore (pc' : Nat) (i : Nat) (C : Cx tabs a0 Z own nm code ml ret p s m meth c) (X : St p l e R s m args below meth c n0 T h k n) {a : Addr} {kA : ClassId} {z j : Int32} {x : Int32} {vs : List Value} {dv : Value} (hd : decode code pc = .ok (.iastore, 1)) (F : Arv Z h a kA .int z vs dv) (ge : n0 ≤ a) (hj : ¬ j < 0 ∧ j < z) (hi : j.toNatClampNeg = i) (hl : i < vs.length)
    (r : ∀ T' h', St p l e R s m args below meth c n0 T' h' k n → Wr h h' a j.toNatClampNeg (.int x) → Arv Z h' a kA .int z (vs.set i (.int x)) dv → Run p e below n0 Q G m T' pc' ls st) (hp : pc + 1 = pc' := by rfl) : Run p e below n0 Q G m T pc ls (.int x :: .int j :: .ref a :: st) := by
  subst hp
  obtain ⟨locs, Y, eT, N, q⟩ := X
  obtain ⟨cl, A, q1, S, q3, H, G⟩ := F
  obtain ⟨T', h', Y', e', W, f⟩ := stI Y C.1 C.2.1 eT A (j := j) (inb_of S hj) (g := mkF m pc ls (.int x :: .int j :: .ref a :: st)) rfl rfl (C.d hd)
  exact Run.step f (r T' h' ⟨_, Y', e', Fr.snoc Y' N ge, q⟩ W (Arv.set A q1 S q3 H G (rfl) W i hi hl))
theorem s_bastore (pc' : Nat) (i : Nat) (C : Cx tabs a0 Z own nm code ml ret p s m meth c) (X : St p l e R s m args below meth c n0 T h k n) {a : Addr} {kA : ClassId} {z j : Int32} {x : Int32} {vs : List Value} {dv : Value} (hd : decode code pc = .ok (.bastore, 1)) (F : Arv Z h a kA .byte z vs dv) (ge : n0 ≤ a) (hj : ¬ j < 0 ∧ j < z) (hi : j.toNatClampNeg = i) (hl : i < vs.length)
    (r : ∀ T' h', St p l e R s m args below meth c n0 T' h' k n → Wr h h' a j.toNatClampNeg (.int (nar .byte x)) → Arv Z h' a kA .byte z (vs.set i (.int (nar .byte x))) dv → Run p e below n0 Q G m T' pc' ls st) (hp : pc + 1 = pc' := by rfl) : Run p e below n0 Q G m T pc ls (.int x :: .int j :: .ref a :: st) := by
  subst hp
  obtain ⟨locs, Y, eT, N, q⟩ := X
  obtain ⟨cl, A, q1, S, q3, H, G⟩ := F
  obtain ⟨T', h', Y', e', W, f⟩ := stB Y C.1 C.2.1 eT A (j := j) (inb_of S hj) (g := mkF m pc ls (.int x :: .int j :: .ref a :: st)) rfl rfl (C.d hd)
  exact Run.step f (r T' h' ⟨_, Y', e', Fr.snoc Y' N ge, q⟩ W (Arv.set A q1 S q3 H G (fits_nar_byte x) W i hi hl))
theorem s_iaload (pc' : Nat) (C : Cx tabs a0 Z own nm code ml ret p s m meth c) (X : St p l e R s m args below meth c n0 T h k n) {a : Addr} {kA : ClassId} {z j : Int32} {v : Value} {vs : List Value} {dv : Value} (hd : decode code pc = .ok (.iaload, 1)) (F : Arv Z h a kA .int z vs dv) (hj : ¬ j < 0 ∧ j < z) (hv : vs.getD j.toNatClampNeg dv = v)
    (r : Run p e below n0 Q G m T pc' ls (v :: st)) (hp : pc + 1 = pc' := by rfl) : Run p e below n0 Q G m T pc ls (.int j :: .ref a :: st) := by
  subst hp
  obtain ⟨locs, Y, eT, N, q⟩ := X
  obtain ⟨cl, A, q1, S, q3, H, G⟩ := F
  exact Run.step (fun t q => Y.iaload C.1 (j := j) (v := v) (by rw [eT]; exact A.1) (State.isArrayOf_alike C.2.1.alike A.2.1) A.2.2 (inb_of S hj) (H.at (inb_of S hj) hv) (g := mkF m pc ls (.int j :: .ref a :: st)) rfl rfl (C.d hd) t q) r
theorem s_baload (pc' : Nat) (C : Cx tabs a0 Z own nm code ml ret p s m meth c) (X : St p l e R s m args below meth c n0 T h k n) {a : Addr} {kA : ClassId} {z j : Int32} {v : Value} {vs : List Value} {dv : Value} (hd : decode code pc = .ok (.baload, 1)) (F : Arv Z h a kA .byte z vs dv) (hj : ¬ j < 0 ∧ j < z) (hv : vs.getD j.toNatClampNeg dv = v)
    (r : Run p e below n0 Q G m T pc' ls (v :: st)) (hp : pc + 1 = pc' := by rfl) : Run p e below n0 Q G m T pc ls (.int j :: .ref a :: st) := by
  subst hp
  obtain ⟨locs, Y, eT, N, q⟩ := X
  obtain ⟨cl, A, q1, S, q3, H, G⟩ := F
  exact Run.step (fun t q => Y.baloadBytes C.1 (j := j) (v := v) (by rw [eT]; exact A.1) (State.isArrayOf_alike C.2.1.alike A.2.1) A.2.2 (inb_of S hj) (H.at (inb_of S hj) hv) (g := mkF m pc ls (.int j :: .ref a :: st)) rfl rfl (C.d hd) t q) r
theorem s_aaload (pc' : Nat) (C : Cx tabs a0 Z own nm code ml ret p s m meth c) (X : St p l e R s m args below meth c n0 T h k n) {a : Addr} {kA : ClassId} {z j : Int32} {v : Value} {ty : FieldType} {vs : List Value} {dv : Value} (hd : decode code pc = .ok (.aaload, 1)) (F : Arv Z h a kA ty z vs dv) (ht : ty.isReference = true) (hj : ¬ j < 0 ∧ j < z) (hv : vs.getD j.toNatClampNeg dv = v)
    (r : Run p e below n0 Q G m T pc' ls (v :: st)) (hp : pc + 1 = pc' := by rfl) : Run p e below n0 Q G m T pc ls (.int j :: .ref a :: st) := by
  subst hp
  obtain ⟨locs, Y, eT, N, q⟩ := X
  obtain ⟨cl, A, q1, S, q3, H, G⟩ := F
  exact Run.step (fun t q => Y.aaload C.1 (j := j) (v := v) (by rw [eT]; exact A.1) (State.isArrayOf_alike C.2.1.alike A.2.1) ht A.2.2 (inb_of S hj) (H.at (inb_of S hj) hv) (g := mkF m pc ls (.int j :: .ref a :: st)) rfl rfl (C.d hd) t q) r
theorem s_arraylength (pc' : Nat) (C : Cx tabs a0 Z own nm code ml ret p s m meth c) (X : St p l e R s m args below meth c n0 T h k n) {a : Addr} {kA : ClassId} {z : Int32} {ty : FieldType} {vs : List Value} {dv : Value} (hd : decode code pc = .ok (.arraylength, 1)) (F : Arv Z h a kA ty z vs dv)
    (r : Run p e below n0 Q G m T pc' ls (.int z :: st)) (hp : pc + 1 = pc' := by rfl) : Run p e below n0 Q G m T pc ls (.ref a :: st) := by
  subst hp
  obtain ⟨locs, Y, eT, N, q⟩ := X
  obtain ⟨cl, A, q1, S, q3, H, G⟩ := F
  rw [← len_of S q3] at r
  exact Run.step (fun t q => Y.arraylength C.1 (by rw [eT]; exact A.1) (State.isArrayOf_alike C.2.1.alike A.2.1) (g := mkF m pc ls (.ref a :: st)) rfl rfl (C.d hd) t q) r
theorem Arv.of_arh {a : Addr} {kA : ClassId} {ty : FieldType} {z : Int32} {vs : List Value} {dv : Value} (F : Arh Z h a kA ty z [] vs dv) : Arv Z h a kA ty z vs dv := by
  obtain ⟨c, q1, q2, q3, q4, q5, q6⟩ := F
  exact ⟨c, q1, q2, q3, q4, q5, q6⟩
theorem s_clone (pc' : Nat) (cap : Nat) (W : Nat) (C : Cx tabs a0 Z own nm code ml ret p s m meth c) (X : St p l e R s m args below meth c n0 T h k n) {ad : String} {idx : Nat} {a : Addr} {kA : ClassId} {ty : FieldType} {z : Int32} {vs : List Value} {dv : Value} (hd : decode code pc = .ok (.invokevirtual idx, 3)) (w1 : Jvm.Cond.methodLink own idx ⟨ad, "clone", "()Ljava/lang/Object;"⟩ ∈ tabs) (w2 : Jvm.Cond.sameMethod ad "java/lang/Object" "clone" "()Ljava/lang/Object;" ∈ tabs) (w3 : Jvm.Cond.native ⟨"java/lang/Object", "clone", "()Ljava/lang/Object;"⟩ ∈ tabs) (w4 : Jvm.Cond.instanceMethod ⟨"java/lang/Object", "clone", "()Ljava/lang/Object;"⟩ ∈ tabs) (w5 : Jvm.Cond.selects ad ⟨ad, "clone", "()Ljava/lang/Object;"⟩ ⟨"java/lang/Object", "clone", "()Ljava/lang/Object;"⟩ ∈ tabs) (w6 : Jvm.Cond.castable ad "java/lang/Cloneable" ∈ tabs)
    (F : Arv Z h a kA ty z vs dv) (E : Exa Z h a ad) (hsz : ls.size = ml) (hW : (st.map fun v => v.category).sum = W) (hcap : z.toNatClampNeg ≤ cap)
    (r : ∀ T' h' b, h.size = b → St p l e R s m args below meth c n0 T' h' (k + 1) (n + cap) → Ext h h' → Arv Z h' b kA ty z vs dv → Exa Z h' b ad → n0 ≤ b → Run p e below n0 Q G m T' pc' ls (.ref b :: st)) (hp : pc + 3 = pc' := by rfl) (hc : 1 ≤ R.frames ∧ W + 14 ≤ R.locals ∧ k + 1 ≤ R.cells ∧ n + cap ≤ R.slots := by decide) : Run p e below n0 Q G m T pc ls (.ref a :: st) := by
  subst hp
  have hs := X.sz
  obtain ⟨locs, Y, eT, N, q⟩ := X
  obtain ⟨T', h', Y', e', E', F', EA, f⟩ := cloneH Y C.1 C.2.1 C.2.2.2.2.1 (C.w w1) (C.w w2) (C.w w3) (C.w w4) (C.w w5) (C.w w6) eT F.arh E (g := mkF m pc ls (.ref a :: st)) rfl (hsz.trans C.2.2.2.1.symm) rfl (C.d hd) hc.1 (W := W) (by show 2 * 0 + _ ≤ _; rw [hW]; omega) hc.2.1 hcap hc.2.2.1 hc.2.2.2
  exact Run.step f (r T' h' _ rfl ⟨locs, Y', e', N, q⟩ E' (Arv.of_arh F') EA hs)
/-- a method's contract at given arguments and a given heap -/
def Met (l : Launch) (Z : State) (y : MethodName) (bytes : ByteArray) (ml : Nat) (ret : Option FieldType) (rm : Room) (ws : List Jvm.Cond) (as : Array Value) (h : Heap) (n0 : Nat) (Q : Option Value → Heap → Prop) : Prop :=
  MetFree l y (head1 (Jvm.Cond.code y bytes ml ret :: ws) rm) (fun a U => a = as ∧ Z.Warmed39 U.vm ∧ U.heap = h) (fun _ _ _ _ _ => True) (fun _ U o U' => ∃ v L, o = .returned v ∧ (Q v U'.heap ∧ Fr n0 L) ∧ FrameEnd U o U' L rm.cells rm.slots)
theorem Met.mk {y : MethodName} {rm : Room} {ws : List Jvm.Cond} {as : Array Value} {ls0 : Array Slot} (hpl : plainFor y = true) (hw : ∀ d ∈ tabs, d.before a0 Z = true) (hn : n0 ≤ h.size) (hef : ∀ m, entryFrame m as ml = mkF m 0 ls0 [])
    (body : ∀ p e s m below meth c T, Cx tabs a0 Z y.cls y.name code ml ret p s m meth c → St p l e rm s m as below meth c n0 T h 0 0 → Run p e below n0 Q (fun o t L => FrameEnd s o t L rm.cells rm.slots) m T 0 ls0 []) : Met l Z y code ml ret rm ws as h n0 Q := by
  refine MetFree.of_bodySF hpl hisR ?_
  intro p e s m args below meth c s₁ Bd hml0 hP hK
  obtain ⟨rfl, hZ, rfl⟩ := hP
  have X0 : Stand p l e rm s m args below meth c s₁ [] 0 0 := Stand.of_body Bd
  have e0 : s₁.heap = s.heap := by rw [Bd.state]; rfl
  have r := body p e s m below meth c s₁ ⟨Bd.exec, hZ, Bd.bytes, hml0, findClass_of_methodNamed Bd.named, Bd.returns, Bd.notSynchronized, (name_of_methodNamed Bd.named Bd.method).1, hw⟩ ⟨[], X0, e0, Fr.nil n0, hn⟩
  obtain ⟨s₂, o, h1, h2⟩ := r
  exact ⟨s₂, o, castTop (hef m) h1, h2⟩
theorem Met.imp {y : MethodName} {rm : Room} {ws : List Jvm.Cond} {as : Array Value} {Q' : Option Value → Heap → Prop} (M : Met l Z y code ml ret rm ws as h n0 Q) (f : ∀ v h', Q v h' → Q' v h') : Met l Z y code ml ret rm ws as h n0 Q' := fun p e a b c s m x y z w u v => by
  obtain ⟨s2, o, h1, h2, h3, v', L, h4, h5, h6⟩ := M p e a b c s m x y z w u v
  exact ⟨s2, o, h1, h2, h3, v', L, h4, ⟨f _ _ h5.1, h5.2⟩, h6⟩
theorem s_callS (pc' : Nat) (argsL rest : List Value) (W : Nat) (C : Cx tabs a0 Z own nm code ml ret p s m meth c) (X : St p l e R s m args below meth c n0 T h k n) {idx : Nat} {y : MethodName} {bytes : ByteArray} {maxL : Nat} {rt : Option FieldType} {rm : Room} {stk : List Value} {Q1 : Option Value → Heap → Prop} (hd : decode code pc = .ok (.invokestatic idx, 3)) (w1 : Jvm.Cond.methodLink own idx y ∈ tabs) (w2 : Jvm.Cond.static y ∈ tabs) (w3 : Jvm.Cond.initialized y.cls ∈ tabs) (w4 : Jvm.Cond.code y bytes maxL rt ∈ tabs)
    (M : Met l Z y bytes maxL rt rm [] argsL.toArray h n0 Q1) (hlen : ∀ sig, parseMethodDescriptor y.desc = some sig → argsL.length = sig.parameters.length) (hs : stk = argsL.reverse ++ rest) (hsz : ls.size = ml) (hW : (rest.map fun v => v.category).sum = W)
    (r : ∀ T' v h', St p l e R s m args below meth c n0 T' h' (k + rm.cells) (n + rm.slots) → Q1 v h' → Run p e below n0 Q G m T' pc' ls (v.toList ++ rest)) (hp : pc + 3 = pc' := by rfl) (hr : rm.frames + 1 ≤ R.frames ∧ W + (maxL + 11) + rm.locals ≤ R.locals ∧ k + rm.cells ≤ R.cells ∧ n + rm.slots ≤ R.slots := by decide) (hy : y.cls ≠ "java/lang/invoke/MethodHandle" ∧ y.cls ≠ "java/lang/invoke/VarHandle" := by decide) : Run p e below n0 Q G m T pc ls stk := by
  subst hp hs
  obtain ⟨locs, Y, eT, N, q⟩ := X
  obtain ⟨v, _, ⟨T1, L1, k1, n1⟩, -, Y', ⟨Lc, hQ, l1, y1, z1⟩, f⟩ := Jvm.LawKit.callS Y C.1 C.2.2.2.2.1 (mvT C.2.1 (C.w w1)) (mvT C.2.1 (C.w w2)) (mvT C.2.1 (C.w w3)) (mvT C.2.1 (C.w w4)) hy (backOf (W := W) (Q := fun v h L => Q1 v h ∧ Fr n0 L) M C.2.1 (C.w w4) (C.w w3) hr.1 hr.2.1) (g := mkF m pc ls (argsL.reverse ++ rest)) rfl (hsz.trans C.2.2.2.1.symm) (argsL := argsL) (rest := rest) hlen rfl (by show 2 * 0 + _ ≤ _; rw [hW]; omega) (C.d hd) (fun _ _ => ⟨rfl, eT, hr.2.2.1, hr.2.2.2⟩)
  dsimp only [Pt.U, Pt.locs, Pt.cells, Pt.slots] at Y' l1 y1 z1 f hQ
  subst l1 y1 z1
  exact Run.step f (r T1 v _ ⟨_, Y', rfl, Fr.app N hQ.2, q⟩ hQ.1)
end A
end Jvm.OwnK
namespace Jvm.Pilot.@@N@@
open Jvm Jvm.ClassFile Sem Op Lib Jvm.Free Jvm.Stand Jvm.LawKit Jvm.RoadKit Bundle Jvm.OwnK Jvm.Pilot.@@N@@.Jvm.D
theorem pn_java_util_Arrays : plainName "java/util/Arrays" = true := by first | (simp [plainName, overriddenIn]; done) | decide +kernel
theorem d7_0 : decode jdk_65_method_30_code 0 = .ok (.iload_n 1, 1) := by decide +kernel
theorem d7_1 : decode jdk_65_method_30_code 1 = .ok (.iload_n 2, 1) := by decide +kernel
theorem d7_2 : decode jdk_65_method_30_code 2 = .ok (.if_icmp .le 44, 3) := by decide +kernel
theorem d7_46 : decode jdk_65_method_30_code 46 = .ok (.iload_n 1, 1) := by decide +kernel
theorem d7_47 : decode jdk_65_method_30_code 47 = .ok (.ifCond .ge 12, 3) := by decide +kernel
theorem d7_59 : decode jdk_65_method_30_code 59 = .ok (.iload_n 2, 1) := by decide +kernel
theorem d7_60 : decode jdk_65_method_30_code 60 = .ok (.iload_n 0, 1) := by decide +kernel
theorem d7_61 : decode jdk_65_method_30_code 61 = .ok (.if_icmp .le 12, 3) := by decide +kernel
theorem d7_73 : decode jdk_65_method_30_code 73 = .ok (.return_, 1) := by decide +kernel
theorem pn_jdk_internal_util_ArraysSupport : plainName "jdk/internal/util/ArraysSupport" = true := by first | (simp [plainName, overriddenIn]; done) | decide +kernel
theorem d8_0 : decode jdk_48_method_14_code 0 = .ok (.iconst 0, 1) := by decide +kernel
theorem kc_iconst_0 : Int32.ofInt 0 = (0 : Int32) := by decide +kernel
theorem d8_1 : decode jdk_48_method_14_code 1 = .ok (.istore 5, 2) := by decide +kernel
theorem d8_3 : decode jdk_48_method_14_code 3 = .ok (.iload 4, 2) := by decide +kernel
theorem d8_5 : decode jdk_48_method_14_code 5 = .ok (.bipush 7, 2) := by decide +kernel
theorem kc_bipush_7 : (Int8.ofInt 7).toInt32 = (7 : Int32) := by decide +kernel
theorem d8_7 : decode jdk_48_method_14_code 7 = .ok (.if_icmp .le 63, 3) := by decide +kernel
theorem d8_70 : decode jdk_48_method_14_code 70 = .ok (.iload 5, 2) := by decide +kernel
theorem d8_72 : decode jdk_48_method_14_code 72 = .ok (.iload 4, 2) := by decide +kernel
theorem d8_74 : decode jdk_48_method_14_code 74 = .ok (.if_icmp .ge 27, 3) := by decide +kernel
theorem d8_101 : decode jdk_48_method_14_code 101 = .ok (.iconst (-1), 1) := by decide +kernel
theorem kc_iconst_m1 : Int32.ofInt (-1) = (-1 : Int32) := by decide +kernel
theorem d8_102 : decode jdk_48_method_14_code 102 = .ok (.ireturn, 1) := by decide +kernel
theorem d8_77 : decode jdk_48_method_14_code 77 = .ok (.aload_n 0, 1) := by decide +kernel
theorem d8_78 : decode jdk_48_method_14_code 78 = .ok (.iload_n 1, 1) := by decide +kernel
theorem d8_79 : decode jdk_48_method_14_code 79 = .ok (.iload 5, 2) := by decide +kernel
theorem d8_81 : decode jdk_48_method_14_code 81 = .ok (.iadd, 1) := by decide +kernel
theorem d8_82 : decode jdk_48_method_14_code 82 = .ok (.baload, 1) := by decide +kernel
theorem d8_83 : decode jdk_48_method_14_code 83 = .ok (.aload_n 2, 1) := by decide +kernel
theorem d8_84 : decode jdk_48_method_14_code 84 = .ok (.iload_n 3, 1) := by decide +kernel
theorem d8_85 : decode jdk_48_method_14_code 85 = .ok (.iload 5, 2) := by decide +kernel
theorem d8_87 : decode jdk_48_method_14_code 87 = .ok (.iadd, 1) := by decide +kernel
theorem d8_88 : decode jdk_48_method_14_code 88 = .ok (.baload, 1) := by decide +kernel
theorem d8_89 : decode jdk_48_method_14_code 89 = .ok (.if_icmp .eq 6, 3) := by decide +kernel
theorem d8_95 : decode jdk_48_method_14_code 95 = .ok (.iinc 5 1, 3) := by decide +kernel
theorem kc_iconst_1 : Int32.ofInt 1 = (1 : Int32) := by decide +kernel
theorem d8_98 : decode jdk_48_method_14_code 98 = .ok (.goto (-28), 3) := by decide +kernel
theorem d8_92 : decode jdk_48_method_14_code 92 = .ok (.iload 5, 2) := by decide +kernel
theorem d8_94 : decode jdk_48_method_14_code 94 = .ok (.ireturn, 1) := by decide +kernel
theorem d6_0 : decode jdk_65_method_90_code 0 = .ok (.aload_n 0, 1) := by decide +kernel
theorem d6_1 : decode jdk_65_method_90_code 1 = .ok (.arraylength, 1) := by decide +kernel
theorem d6_2 : decode jdk_65_method_90_code 2 = .ok (.iload_n 1, 1) := by decide +kernel
theorem d6_3 : decode jdk_65_method_90_code 3 = .ok (.iload_n 2, 1) := by decide +kernel
theorem d6_4 : decode jdk_65_method_90_code 4 = .ok (.invokestatic 13, 3) := by decide +kernel
theorem pd__III_V : parseMethodDescriptor "(III)V" = some ⟨[.int, .int, .int], none⟩ := by decide +kernel
theorem d6_7 : decode jdk_65_method_90_code 7 = .ok (.aload_n 3, 1) := by decide +kernel
theorem d6_8 : decode jdk_65_method_90_code 8 = .ok (.arraylength, 1) := by decide +kernel
theorem d6_9 : decode jdk_65_method_90_code 9 = .ok (.iload 4, 2) := by decide +kernel
theorem d6_11 : decode jdk_65_method_90_code 11 = .ok (.iload 5, 2) := by decide +kernel
theorem d6_13 : decode jdk_65_method_90_code 13 = .ok (.invokestatic 13, 3) := by decide +kernel
theorem d6_16 : decode jdk_65_method_90_code 16 = .ok (.iload_n 2, 1) := by decide +kernel
theorem d6_17 : decode jdk_65_method_90_code 17 = .ok (.iload_n 1, 1) := by decide +kernel
theorem d6_18 : decode jdk_65_method_90_code 18 = .ok (.isub, 1) := by decide +kernel
theorem d6_19 : decode jdk_65_method_90_code 19 = .ok (.istore 6, 2) := by decide +kernel
theorem d6_21 : decode jdk_65_method_90_code 21 = .ok (.iload 5, 2) := by decide +kernel
theorem d6_23 : decode jdk_65_method_90_code 23 = .ok (.iload 4, 2) := by decide +kernel
theorem d6_25 : decode jdk_65_method_90_code 25 = .ok (.isub, 1) := by decide +kernel
theorem d6_26 : decode jdk_65_method_90_code 26 = .ok (.istore 7, 2) := by decide +kernel
theorem d6_28 : decode jdk_65_method_90_code 28 = .ok (.iload 6, 2) := by decide +kernel
theorem d6_30 : decode jdk_65_method_90_code 30 = .ok (.iload 7, 2) := by decide +kernel
theorem d6_32 : decode jdk_65_method_90_code 32 = .ok (.if_icmp .eq 5, 3) := by decide +kernel
theorem d6_37 : decode jdk_65_method_90_code 37 = .ok (.aload_n 0, 1) := by decide +kernel
theorem d6_38 : decode jdk_65_method_90_code 38 = .ok (.iload_n 1, 1) := by decide +kernel
theorem d6_39 : decode jdk_65_method_90_code 39 = .ok (.aload_n 3, 1) := by decide +kernel
theorem d6_40 : decode jdk_65_method_90_code 40 = .ok (.iload 4, 2) := by decide +kernel
theorem d6_42 : decode jdk_65_method_90_code 42 = .ok (.iload 6, 2) := by decide +kernel
theorem d6_44 : decode jdk_65_method_90_code 44 = .ok (.invokestatic 275, 3) := by decide +kernel
theorem pd___BI_BII_I : parseMethodDescriptor "([BI[BII)I" = some ⟨[(.array .byte), .int, (.array .byte), .int, .int], some .int⟩ := by decide +kernel
theorem d6_47 : decode jdk_65_method_90_code 47 = .ok (.ifCond .ge 7, 3) := by decide +kernel
theorem d6_54 : decode jdk_65_method_90_code 54 = .ok (.iconst 0, 1) := by decide +kernel
theorem d6_55 : decode jdk_65_method_90_code 55 = .ok (.ireturn, 1) := by decide +kernel
theorem d6_50 : decode jdk_65_method_90_code 50 = .ok (.iconst 1, 1) := by decide +kernel
theorem d6_51 : decode jdk_65_method_90_code 51 = .ok (.goto 4, 3) := by decide +kernel
theorem pn_com_example_shapelint_shapelint_io_XmlEncodingFamily : plainName "com/example/shapelint/shapelint/io/XmlEncodingFamily" = true := by first | (simp [plainName, overriddenIn]; done) | decide +kernel
theorem d5_0 : decode prog_14_method_9_code 0 = .ok (.aload_n 1, 1) := by decide +kernel
theorem d5_1 : decode prog_14_method_9_code 1 = .ok (.arraylength, 1) := by decide +kernel
theorem d5_2 : decode prog_14_method_9_code 2 = .ok (.ifCond .le 28, 3) := by decide +kernel
theorem d5_30 : decode prog_14_method_9_code 30 = .ok (.iconst 0, 1) := by decide +kernel
theorem d5_31 : decode prog_14_method_9_code 31 = .ok (.ireturn, 1) := by decide +kernel
theorem d5_5 : decode prog_14_method_9_code 5 = .ok (.aload_n 0, 1) := by decide +kernel
theorem d5_6 : decode prog_14_method_9_code 6 = .ok (.arraylength, 1) := by decide +kernel
theorem d5_7 : decode prog_14_method_9_code 7 = .ok (.aload_n 1, 1) := by decide +kernel
theorem d5_8 : decode prog_14_method_9_code 8 = .ok (.arraylength, 1) := by decide +kernel
theorem d5_9 : decode prog_14_method_9_code 9 = .ok (.if_icmp .lt 21, 3) := by decide +kernel
theorem d5_12 : decode prog_14_method_9_code 12 = .ok (.aload_n 0, 1) := by decide +kernel
theorem d5_13 : decode prog_14_method_9_code 13 = .ok (.iconst 0, 1) := by decide +kernel
theorem d5_14 : decode prog_14_method_9_code 14 = .ok (.aload_n 1, 1) := by decide +kernel
theorem d5_15 : decode prog_14_method_9_code 15 = .ok (.arraylength, 1) := by decide +kernel
theorem d5_16 : decode prog_14_method_9_code 16 = .ok (.aload_n 1, 1) := by decide +kernel
theorem d5_17 : decode prog_14_method_9_code 17 = .ok (.iconst 0, 1) := by decide +kernel
theorem d5_18 : decode prog_14_method_9_code 18 = .ok (.aload_n 1, 1) := by decide +kernel
theorem d5_19 : decode prog_14_method_9_code 19 = .ok (.arraylength, 1) := by decide +kernel
theorem d5_20 : decode prog_14_method_9_code 20 = .ok (.invokestatic 64, 3) := by decide +kernel
theorem pd___BII_BII_Z : parseMethodDescriptor "([BII[BII)Z" = some ⟨[(.array .byte), .int, .int, (.array .byte), .int, .int], some .boolean⟩ := by decide +kernel
theorem d5_23 : decode prog_14_method_9_code 23 = .ok (.ifCond .eq 7, 3) := by decide +kernel
theorem d5_26 : decode prog_14_method_9_code 26 = .ok (.iconst 1, 1) := by decide +kernel
theorem d5_27 : decode prog_14_method_9_code 27 = .ok (.goto 4, 3) := by decide +kernel
theorem d2_0 : decode method_2_code 0 = .ok (.bipush 32, 2) := by decide +kernel
theorem kc_bipush_32 : (Int8.ofInt 32).toInt32 = (32 : Int32) := by decide +kernel
theorem d2_2 : decode method_2_code 2 = .ok (.newarray .int, 2) := by decide +kernel
theorem d2_4 : decode method_2_code 4 = .ok (.dup, 1) := by decide +kernel
theorem d2_5 : decode method_2_code 5 = .ok (.iconst 0, 1) := by decide +kernel
theorem d2_6 : decode method_2_code 6 = .ok (.sipush 239, 3) := by decide +kernel
theorem kc_sipush_239 : (Int16.ofInt 239).toInt32 = (239 : Int32) := by decide +kernel
theorem d2_9 : decode method_2_code 9 = .ok (.iastore, 1) := by decide +kernel
theorem d2_10 : decode method_2_code 10 = .ok (.dup, 1) := by decide +kernel
theorem d2_11 : decode method_2_code 11 = .ok (.iconst 1, 1) := by decide +kernel
theorem d2_12 : decode method_2_code 12 = .ok (.sipush 187, 3) := by decide +kernel
theorem kc_sipush_187 : (Int16.ofInt 187).toInt32 = (187 : Int32) := by decide +kernel
theorem d2_15 : decode method_2_code 15 = .ok (.iastore, 1) := by decide +kernel
theorem d2_16 : decode method_2_code 16 = .ok (.dup, 1) := by decide +kernel
theorem d2_17 : decode method_2_code 17 = .ok (.iconst 2, 1) := by decide +kernel
theorem kc_iconst_2 : Int32.ofInt 2 = (2 : Int32) := by decide +kernel
theorem d2_18 : decode method_2_code 18 = .ok (.sipush 191, 3) := by decide +kernel
theorem kc_sipush_191 : (Int16.ofInt 191).toInt32 = (191 : Int32) := by decide +kernel
theorem d2_21 : decode method_2_code 21 = .ok (.iastore, 1) := by decide +kernel
theorem d2_22 : decode method_2_code 22 = .ok (.dup, 1) := by decide +kernel
theorem d2_23 : decode method_2_code 23 = .ok (.iconst 3, 1) := by decide +kernel
theorem kc_iconst_3 : Int32.ofInt 3 = (3 : Int32) := by decide +kernel
theorem d2_24 : decode method_2_code 24 = .ok (.bipush 60, 2) := by decide +kernel
theorem kc_bipush_60 : (Int8.ofInt 60).toInt32 = (60 : Int32) := by decide +kernel
theorem d2_26 : decode method_2_code 26 = .ok (.iastore, 1) := by decide +kernel
theorem d2_27 : decode method_2_code 27 = .ok (.dup, 1) := by decide +kernel
theorem d2_28 : decode method_2_code 28 = .ok (.iconst 4, 1) := by decide +kernel
theorem kc_iconst_4 : Int32.ofInt 4 = (4 : Int32) := by decide +kernel
theorem d2_29 : decode method_2_code 29 = .ok (.sipush 254, 3) := by decide +kernel
theorem kc_sipush_254 : (Int16.ofInt 254).toInt32 = (254 : Int32) := by decide +kernel
theorem d2_32 : decode method_2_code 32 = .ok (.iastore, 1) := by decide +kernel
theorem d2_33 : decode method_2_code 33 = .ok (.dup, 1) := by decide +kernel
theorem d2_34 : decode method_2_code 34 = .ok (.iconst 5, 1) := by decide +kernel
theorem kc_iconst_5 : Int32.ofInt 5 = (5 : Int32) := by decide +kernel
theorem d2_35 : decode method_2_code 35 = .ok (.sipush 255, 3) := by decide +kernel
theorem kc_sipush_255 : (Int16.ofInt 255).toInt32 = (255 : Int32) := by decide +kernel
theorem d2_38 : decode method_2_code 38 = .ok (.iastore, 1) := by decide +kernel
theorem d2_39 : decode method_2_code 39 = .ok (.dup, 1) := by decide +kernel
theorem d2_40 : decode method_2_code 40 = .ok (.bipush 6, 2) := by decide +kernel
theorem kc_bipush_6 : (Int8.ofInt 6).toInt32 = (6 : Int32) := by decide +kernel
theorem d2_42 : decode method_2_code 42 = .ok (.iconst 0, 1) := by decide +kernel
theorem d2_43 : decode method_2_code 43 = .ok (.iastore, 1) := by decide +kernel
theorem d2_44 : decode method_2_code 44 = .ok (.dup, 1) := by decide +kernel
theorem d2_45 : decode method_2_code 45 = .ok (.bipush 7, 2) := by decide +kernel
theorem d2_47 : decode method_2_code 47 = .ok (.bipush 60, 2) := by decide +kernel
theorem d2_49 : decode method_2_code 49 = .ok (.iastore, 1) := by decide +kernel
theorem d2_50 : decode method_2_code 50 = .ok (.dup, 1) := by decide +kernel
theorem d2_51 : decode method_2_code 51 = .ok (.bipush 8, 2) := by decide +kernel
theorem kc_bipush_8 : (Int8.ofInt 8).toInt32 = (8 : Int32) := by decide +kernel
theorem d2_53 : decode method_2_code 53 = .ok (.sipush 255, 3) := by decide +kernel
theorem d2_56 : decode method_2_code 56 = .ok (.iastore, 1) := by decide +kernel
theorem d2_57 : decode method_2_code 57 = .ok (.dup, 1) := by decide +kernel
theorem d2_58 : decode method_2_code 58 = .ok (.bipush 9, 2) := by decide +kernel
theorem kc_bipush_9 : (Int8.ofInt 9).toInt32 = (9 : Int32) := by decide +kernel
theorem d2_60 : decode method_2_code 60 = .ok (.sipush 254, 3) := by decide +kernel
theorem d2_63 : decode method_2_code 63 = .ok (.iastore, 1) := by decide +kernel
theorem d2_64 : decode method_2_code 64 = .ok (.dup, 1) := by decide +kernel
theorem d2_65 : decode method_2_code 65 = .ok (.bipush 10, 2) := by decide +kernel
theorem kc_bipush_10 : (Int8.ofInt 10).toInt32 = (10 : Int32) := by decide +kernel
theorem d2_67 : decode method_2_code 67 = .ok (.bipush 63, 2) := by decide +kernel
theorem kc_bipush_63 : (Int8.ofInt 63).toInt32 = (63 : Int32) := by decide +kernel
theorem d2_69 : decode method_2_code 69 = .ok (.iastore, 1) := by decide +kernel
theorem d2_70 : decode method_2_code 70 = .ok (.dup, 1) := by decide +kernel
theorem d2_71 : decode method_2_code 71 = .ok (.bipush 11, 2) := by decide +kernel
theorem kc_bipush_11 : (Int8.ofInt 11).toInt32 = (11 : Int32) := by decide +kernel
theorem d2_73 : decode method_2_code 73 = .ok (.iconst 0, 1) := by decide +kernel
theorem d2_74 : decode method_2_code 74 = .ok (.iastore, 1) := by decide +kernel
theorem d2_75 : decode method_2_code 75 = .ok (.dup, 1) := by decide +kernel
theorem d2_76 : decode method_2_code 76 = .ok (.bipush 12, 2) := by decide +kernel
theorem kc_bipush_12 : (Int8.ofInt 12).toInt32 = (12 : Int32) := by decide +kernel
theorem d2_78 : decode method_2_code 78 = .ok (.iconst 0, 1) := by decide +kernel
theorem d2_79 : decode method_2_code 79 = .ok (.iastore, 1) := by decide +kernel
theorem d2_80 : decode method_2_code 80 = .ok (.dup, 1) := by decide +kernel
theorem d2_81 : decode method_2_code 81 = .ok (.bipush 13, 2) := by decide +kernel
theorem kc_bipush_13 : (Int8.ofInt 13).toInt32 = (13 : Int32) := by decide +kernel
theorem d2_83 : decode method_2_code 83 = .ok (.bipush 60, 2) := by decide +kernel
theorem d2_85 : decode method_2_code 85 = .ok (.iastore, 1) := by decide +kernel
theorem d2_86 : decode method_2_code 86 = .ok (.dup, 1) := by decide +kernel
theorem d2_87 : decode method_2_code 87 = .ok (.bipush 14, 2) := by decide +kernel
theorem kc_bipush_14 : (Int8.ofInt 14).toInt32 = (14 : Int32) := by decide +kernel
theorem d2_89 : decode method_2_code 89 = .ok (.iconst 0, 1) := by decide +kernel
theorem d2_90 : decode method_2_code 90 = .ok (.iastore, 1) := by decide +kernel
theorem d2_91 : decode method_2_code 91 = .ok (.dup, 1) := by decide +kernel
theorem d2_92 : decode method_2_code 92 = .ok (.bipush 15, 2) := by decide +kernel
theorem kc_bipush_15 : (Int8.ofInt 15).toInt32 = (15 : Int32) := by decide +kernel
theorem d2_94 : decode method_2_code 94 = .ok (.bipush 63, 2) := by decide +kernel
theorem d2_96 : decode method_2_code 96 = .ok (.iastore, 1) := by decide +kernel
theorem d2_97 : decode method_2_code 97 = .ok (.dup, 1) := by decide +kernel
theorem d2_98 : decode method_2_code 98 = .ok (.bipush 16, 2) := by decide +kernel
theorem kc_bipush_16 : (Int8.ofInt 16).toInt32 = (16 : Int32) := by decide +kernel
theorem d2_100 : decode method_2_code 100 = .ok (.bipush 60, 2) := by decide +kernel
theorem d2_102 : decode method_2_code 102 = .ok (.iastore, 1) := by decide +kernel
theorem d2_103 : decode method_2_code 103 = .ok (.dup, 1) := by decide +kernel
theorem d2_104 : decode method_2_code 104 = .ok (.bipush 17, 2) := by decide +kernel
theorem kc_bipush_17 : (Int8.ofInt 17).toInt32 = (17 : Int32) := by decide +kernel
theorem d2_106 : decode method_2_code 106 = .ok (.iconst 0, 1) := by decide +kernel
theorem d2_107 : decode method_2_code 107 = .ok (.iastore, 1) := by decide +kernel
theorem d2_108 : decode method_2_code 108 = .ok (.dup, 1) := by decide +kernel
theorem d2_109 : decode method_2_code 109 = .ok (.bipush 18, 2) := by decide +kernel
theorem kc_bipush_18 : (Int8.ofInt 18).toInt32 = (18 : Int32) := by decide +kernel
theorem d2_111 : decode method_2_code 111 = .ok (.bipush 63, 2) := by decide +kernel
theorem d2_113 : decode method_2_code 113 = .ok (.iastore, 1) := by decide +kernel
theorem d2_114 : decode method_2_code 114 = .ok (.dup, 1) := by decide +kernel
theorem d2_115 : decode method_2_code 115 = .ok (.bipush 19, 2) := by decide +kernel
theorem kc_bipush_19 : (Int8.ofInt 19).toInt32 = (19 : Int32) := by decide +kernel
theorem d2_117 : decode method_2_code 117 = .ok (.iconst 0, 1) := by decide +kernel
theorem d2_118 : decode method_2_code 118 = .ok (.iastore, 1) := by decide +kernel
theorem d2_119 : decode method_2_code 119 = .ok (.dup, 1) := by decide +kernel
theorem d2_120 : decode method_2_code 120 = .ok (.bipush 20, 2) := by decide +kernel
theorem kc_bipush_20 : (Int8.ofInt 20).toInt32 = (20 : Int32) := by decide +kernel
theorem d2_122 : decode method_2_code 122 = .ok (.iconst 0, 1) := by decide +kernel
theorem d2_123 : decode method_2_code 123 = .ok (.iastore, 1) := by decide +kernel
theorem d2_124 : decode method_2_code 124 = .ok (.dup, 1) := by decide +kernel
theorem d2_125 : decode method_2_code 125 = .ok (.bipush 21, 2) := by decide +kernel
theorem kc_bipush_21 : (Int8.ofInt 21).toInt32 = (21 : Int32) := by decide +kernel
theorem d2_127 : decode method_2_code 127 = .ok (.iconst 0, 1) := by decide +kernel
theorem d2_128 : decode method_2_code 128 = .ok (.iastore, 1) := by decide +kernel
theorem d2_129 : decode method_2_code 129 = .ok (.dup, 1) := by decide +kernel
theorem d2_130 : decode method_2_code 130 = .ok (.bipush 22, 2) := by decide +kernel
theorem kc_bipush_22 : (Int8.ofInt 22).toInt32 = (22 : Int32) := by decide +kernel
theorem d2_132 : decode method_2_code 132 = .ok (.iconst 0, 1) := by decide +kernel
theorem d2_133 : decode method_2_code 133 = .ok (.iastore, 1) := by decide +kernel
theorem d2_134 : decode method_2_code 134 = .ok (.dup, 1) := by decide +kernel
theorem d2_135 : decode method_2_code 135 = .ok (.bipush 23, 2) := by decide +kernel
theorem kc_bipush_23 : (Int8.ofInt 23).toInt32 = (23 : Int32) := by decide +kernel
theorem d2_137 : decode method_2_code 137 = .ok (.bipush 60, 2) := by decide +kernel
theorem d2_139 : decode method_2_code 139 = .ok (.iastore, 1) := by decide +kernel
theorem d2_140 : decode method_2_code 140 = .ok (.dup, 1) := by decide +kernel
theorem d2_141 : decode method_2_code 141 = .ok (.bipush 24, 2) := by decide +kernel
theorem kc_bipush_24 : (Int8.ofInt 24).toInt32 = (24 : Int32) := by decide +kernel
theorem d2_143 : decode method_2_code 143 = .ok (.bipush 60, 2) := by decide +kernel
theorem d2_145 : decode method_2_code 145 = .ok (.iastore, 1) := by decide +kernel
theorem d2_146 : decode method_2_code 146 = .ok (.dup, 1) := by decide +kernel
theorem d2_147 : decode method_2_code 147 = .ok (.bipush 25, 2) := by decide +kernel
theorem kc_bipush_25 : (Int8.ofInt 25).toInt32 = (25 : Int32) := by decide +kernel
theorem d2_149 : decode method_2_code 149 = .ok (.iconst 0, 1) := by decide +kernel
theorem d2_150 : decode method_2_code 150 = .ok (.iastore, 1) := by decide +kernel
theorem d2_151 : decode method_2_code 151 = .ok (.dup, 1) := by decide +kernel
theorem d2_152 : decode method_2_code 152 = .ok (.bipush 26, 2) := by decide +kernel
theorem kc_bipush_26 : (Int8.ofInt 26).toInt32 = (26 : Int32) := by decide +kernel
theorem d2_154 : decode method_2_code 154 = .ok (.iconst 0, 1) := by decide +kernel
theorem d2_155 : decode method_2_code 155 = .ok (.iastore, 1) := by decide +kernel
theorem d2_156 : decode method_2_code 156 = .ok (.dup, 1) := by decide +kernel
theorem d2_157 : decode method_2_code 157 = .ok (.bipush 27, 2) := by decide +kernel
theorem kc_bipush_27 : (Int8.ofInt 27).toInt32 = (27 : Int32) := by decide +kernel
theorem d2_159 : decode method_2_code 159 = .ok (.iconst 0, 1) := by decide +kernel
theorem d2_160 : decode method_2_code 160 = .ok (.iastore, 1) := by decide +kernel
theorem d2_161 : decode method_2_code 161 = .ok (.dup, 1) := by decide +kernel
theorem d2_162 : decode method_2_code 162 = .ok (.bipush 28, 2) := by decide +kernel
theorem kc_bipush_28 : (Int8.ofInt 28).toInt32 = (28 : Int32) := by decide +kernel
theorem d2_164 : decode method_2_code 164 = .ok (.bipush 76, 2) := by decide +kernel
theorem kc_bipush_76 : (Int8.ofInt 76).toInt32 = (76 : Int32) := by decide +kernel
theorem d2_166 : decode method_2_code 166 = .ok (.iastore, 1) := by decide +kernel
theorem d2_167 : decode method_2_code 167 = .ok (.dup, 1) := by decide +kernel
theorem d2_168 : decode method_2_code 168 = .ok (.bipush 29, 2) := by decide +kernel
theorem kc_bipush_29 : (Int8.ofInt 29).toInt32 = (29 : Int32) := by decide +kernel
theorem d2_170 : decode method_2_code 170 = .ok (.bipush 111, 2) := by decide +kernel
theorem kc_bipush_111 : (Int8.ofInt 111).toInt32 = (111 : Int32) := by decide +kernel
theorem d2_172 : decode method_2_code 172 = .ok (.iastore, 1) := by decide +kernel
theorem d2_173 : decode method_2_code 173 = .ok (.dup, 1) := by decide +kernel
theorem d2_174 : decode method_2_code 174 = .ok (.bipush 30, 2) := by decide +kernel
theorem kc_bipush_30 : (Int8.ofInt 30).toInt32 = (30 : Int32) := by decide +kernel
theorem d2_176 : decode method_2_code 176 = .ok (.sipush 167, 3) := by decide +kernel
theorem kc_sipush_167 : (Int16.ofInt 167).toInt32 = (167 : Int32) := by decide +kernel
theorem d2_179 : decode method_2_code 179 = .ok (.iastore, 1) := by decide +kernel
theorem d2_180 : decode method_2_code 180 = .ok (.dup, 1) := by decide +kernel
theorem d2_181 : decode method_2_code 181 = .ok (.bipush 31, 2) := by decide +kernel
theorem kc_bipush_31 : (Int8.ofInt 31).toInt32 = (31 : Int32) := by decide +kernel
theorem d2_183 : decode method_2_code 183 = .ok (.sipush 148, 3) := by decide +kernel
theorem kc_sipush_148 : (Int16.ofInt 148).toInt32 = (148 : Int32) := by decide +kernel
theorem d2_186 : decode method_2_code 186 = .ok (.iastore, 1) := by decide +kernel
theorem d2_187 : decode method_2_code 187 = .ok (.astore_n 2, 1) := by decide +kernel
theorem d2_188 : decode method_2_code 188 = .ok (.aload_n 2, 1) := by decide +kernel
theorem d2_189 : decode method_2_code 189 = .ok (.iload_n 0, 1) := by decide +kernel
theorem d2_190 : decode method_2_code 190 = .ok (.iconst 4, 1) := by decide +kernel
theorem d2_191 : decode method_2_code 191 = .ok (.imul, 1) := by decide +kernel
theorem d2_192 : decode method_2_code 192 = .ok (.iload_n 1, 1) := by decide +kernel
theorem d2_193 : decode method_2_code 193 = .ok (.iadd, 1) := by decide +kernel
theorem d2_194 : decode method_2_code 194 = .ok (.iaload, 1) := by decide +kernel
theorem d2_195 : decode method_2_code 195 = .ok (.ireturn, 1) := by decide +kernel
theorem pn_com_example_shapelint_shapelint_io_XmlEncodingFamilyOfPinLaw : plainName "com/example/shapelint/shapelint/io/XmlEncodingFamilyOfPinLaw" = true := by first | (simp [plainName, overriddenIn]; done) | decide +kernel
theorem d1_0 : decode method_3_code 0 = .ok (.iload_n 0, 1) := by decide +kernel
theorem d1_1 : decode method_3_code 1 = .ok (.iconst 3, 1) := by decide +kernel
theorem d1_2 : decode method_3_code 2 = .ok (.iload_n 2, 1) := by decide +kernel
theorem d1_3 : decode method_3_code 3 = .ok (.iadd, 1) := by decide +kernel
theorem d1_4 : decode method_3_code 4 = .ok (.iushr, 1) := by decide +kernel
theorem d1_5 : decode method_3_code 5 = .ok (.iconst 1, 1) := by decide +kernel
theorem d1_6 : decode method_3_code 6 = .ok (.iand, 1) := by decide +kernel
theorem d1_7 : decode method_3_code 7 = .ok (.ifCond .ne 11, 3) := by decide +kernel
theorem d1_18 : decode method_3_code 18 = .ok (.iload_n 3, 1) := by decide +kernel
theorem d1_19 : decode method_3_code 19 = .ok (.sipush 255, 3) := by decide +kernel
theorem d1_22 : decode method_3_code 22 = .ok (.iand, 1) := by decide +kernel
theorem d1_23 : decode method_3_code 23 = .ok (.ireturn, 1) := by decide +kernel
theorem d1_10 : decode method_3_code 10 = .ok (.iload_n 1, 1) := by decide +kernel
theorem d1_11 : decode method_3_code 11 = .ok (.iload_n 2, 1) := by decide +kernel
theorem d1_12 : decode method_3_code 12 = .ok (.invokestatic 7, 3) := by decide +kernel
theorem pd__II_I : parseMethodDescriptor "(II)I" = some ⟨[.int, .int], some .int⟩ := by decide +kernel
theorem d1_15 : decode method_3_code 15 = .ok (.goto 8, 3) := by decide +kernel
theorem d4_0 : decode prog_14_method_1_code 0 = .ok (.getstatic 22, 3) := by decide +kernel
theorem d4_3 : decode prog_14_method_1_code 3 = .ok (.invokevirtual 26, 3) := by decide +kernel
theorem d4_6 : decode prog_14_method_1_code 6 = .ok (.checkcast 27, 3) := by decide +kernel
theorem d4_9 : decode prog_14_method_1_code 9 = .ok (.areturn, 1) := by decide +kernel
theorem d3_0 : decode prog_14_method_4_code 0 = .ok (.getstatic 3, 3) := by decide +kernel
theorem d3_3 : decode prog_14_method_4_code 3 = .ok (.astore_n 1, 1) := by decide +kernel
theorem d3_4 : decode prog_14_method_4_code 4 = .ok (.invokestatic 56, 3) := by decide +kernel
theorem pd____Lcom_example_shapelint_shapelint_io_XmlEncodingFamily_ : parseMethodDescriptor "()[Lcom/example/shapelint/shapelint/io/XmlEncodingFamily;" = some ⟨[], some (.array (.object "com/example/shapelint/shapelint/io/XmlEncodingFamily"))⟩ := by decide +kernel
theorem d3_7 : decode prog_14_method_4_code 7 = .ok (.astore_n 2, 1) := by decide +kernel
theorem d3_8 : decode prog_14_method_4_code 8 = .ok (.aload_n 2, 1) := by decide +kernel
theorem d3_9 : decode prog_14_method_4_code 9 = .ok (.arraylength, 1) := by decide +kernel
theorem d3_10 : decode prog_14_method_4_code 10 = .ok (.istore_n 3, 1) := by decide +kernel
theorem d3_11 : decode prog_14_method_4_code 11 = .ok (.iconst 0, 1) := by decide +kernel
theorem d3_12 : decode prog_14_method_4_code 12 = .ok (.istore 4, 2) := by decide +kernel
theorem d3_14 : decode prog_14_method_4_code 14 = .ok (.iload 4, 2) := by decide +kernel
theorem d3_16 : decode prog_14_method_4_code 16 = .ok (.iload_n 3, 1) := by decide +kernel
theorem d3_17 : decode prog_14_method_4_code 17 = .ok (.if_icmp .ge 45, 3) := by decide +kernel
theorem d3_20 : decode prog_14_method_4_code 20 = .ok (.aload_n 2, 1) := by decide +kernel
theorem d3_21 : decode prog_14_method_4_code 21 = .ok (.iload 4, 2) := by decide +kernel
theorem d3_23 : decode prog_14_method_4_code 23 = .ok (.aaload, 1) := by decide +kernel
theorem d3_24 : decode prog_14_method_4_code 24 = .ok (.astore 5, 2) := by decide +kernel
theorem d3_26 : decode prog_14_method_4_code 26 = .ok (.aload_n 0, 1) := by decide +kernel
theorem d3_27 : decode prog_14_method_4_code 27 = .ok (.aload 5, 2) := by decide +kernel
theorem d3_29 : decode prog_14_method_4_code 29 = .ok (.getfield 49, 3) := by decide +kernel
theorem d3_32 : decode prog_14_method_4_code 32 = .ok (.invokestatic 60, 3) := by decide +kernel
theorem pd___B_B_Z : parseMethodDescriptor "([B[B)Z" = some ⟨[(.array .byte), (.array .byte)], some .boolean⟩ := by decide +kernel
theorem d3_35 : decode prog_14_method_4_code 35 = .ok (.ifCond .ne 15, 3) := by decide +kernel
theorem d3_50 : decode prog_14_method_4_code 50 = .ok (.aload 5, 2) := by decide +kernel
theorem d3_52 : decode prog_14_method_4_code 52 = .ok (.astore_n 1, 1) := by decide +kernel
theorem d3_53 : decode prog_14_method_4_code 53 = .ok (.goto 9, 3) := by decide +kernel
theorem d3_62 : decode prog_14_method_4_code 62 = .ok (.aload_n 1, 1) := by decide +kernel
theorem d3_63 : decode prog_14_method_4_code 63 = .ok (.areturn, 1) := by decide +kernel
theorem d3_38 : decode prog_14_method_4_code 38 = .ok (.aload_n 0, 1) := by decide +kernel
theorem d3_39 : decode prog_14_method_4_code 39 = .ok (.aload 5, 2) := by decide +kernel
theorem d3_41 : decode prog_14_method_4_code 41 = .ok (.getfield 53, 3) := by decide +kernel
theorem d3_44 : decode prog_14_method_4_code 44 = .ok (.invokestatic 60, 3) := by decide +kernel
theorem d3_47 : decode prog_14_method_4_code 47 = .ok (.ifCond .eq 9, 3) := by decide +kernel
theorem d3_56 : decode prog_14_method_4_code 56 = .ok (.iinc 4 1, 3) := by decide +kernel
theorem d3_59 : decode prog_14_method_4_code 59 = .ok (.goto (-45), 3) := by decide +kernel
theorem pd__IIII_I : parseMethodDescriptor "(IIII)I" = some ⟨[.int, .int, .int, .int], some .int⟩ := by decide +kernel
theorem pd___B_Lcom_example_shapelint_shapelint_io_XmlEncodingFamily_ : parseMethodDescriptor "([B)Lcom/example/shapelint/shapelint/io/XmlEncodingFamily;" = some ⟨[(.array .byte)], some (.object "com/example/shapelint/shapelint/io/XmlEncodingFamily")⟩ := by decide +kernel
theorem own_i {i : Int32} {j : Nat} {n : Int32} (hi : i.toInt = j) (h : (j : Int) < n.toInt) : ¬ i < 0 ∧ i < n := by
  have k0 : (0 : Int32).toInt = 0 := by decide
  rw [Int32.lt_iff_toInt_lt, Int32.lt_iff_toInt_lt]
  omega
theorem own_nat {i : Int32} {j : Nat} (hi : i.toInt = j) : i.toNatClampNeg = j := by
  have k0 : (0 : Int32).toInt = 0 := by decide
  have q : ¬ i < 0 := by rw [Int32.lt_iff_toInt_lt]; omega
  have z := nat_of q
  omega
theorem own_inc {i : Int32} {j : Nat} {n : Int32} (hi : i.toInt = j) (h : (j : Int) < n.toInt) : (i + 1).toInt = (j + 1 : Nat) := by
  have k1 : (1 : Int32).toInt = 1 := by decide
  have h2 := c_iadd i 1
  have r := rng32 (i + 1)
  have r2 := rng32 n
  omega
theorem own_haslAux (c : Cell) : ∀ (vs : List Value) (i : Nat), (∀ j, j < vs.length → c.slots[i + j]? = some (vs.getD j .null)) → HasL c i vs
  | [], _, _ => trivial
  | v :: r, i, h => ⟨by have q := h 0 (by simp); simpa using q, own_haslAux c r (i + 1) fun j hj => by
      have q := h (j + 1) (by simp; omega)
      have e : i + (j + 1) = i + 1 + j := by omega
      rw [e] at q
      simpa using q⟩
theorem own_hasl (c : Cell) : HasL c 0 c.slots.toList := own_haslAux c _ 0 fun j hj => by
  have hj' : j < c.slots.size := by simpa using hj
  rw [Nat.zero_add, List.getD_eq_getElem?_getD, Array.getElem?_toList, Array.getElem?_eq_getElem hj']; rfl
def nth4 (a b c d : Int32) : Nat → Int32
  | 0 => a
  | 1 => b
  | 2 => c
  | 3 => d
  | _ => 0
def bb (x : Int32) : Int32 := nar .byte (x.toInt8.toInt32)
theorem own_bb (x : Int32) : 0 ≤ (x &&& 255).toInt ∧ (x &&& 255).toInt ≤ 255 ∧ (((bb x).toInt = (x &&& 255).toInt ∧ (x &&& 255).toInt < 128) ∨ ((bb x).toInt = (x &&& 255).toInt - 256 ∧ 128 ≤ (x &&& 255).toInt)) := by
  have e : bb x = x.toInt8.toInt32 := by simp [bb, nar]
  rw [e]
  have h1 := c_i2b x
  have h2 := c_mask x 255 8 (by decide) (by decide)
  have h3 := c_and x 255 (by decide)
  have k : (255 : Int32).toInt = 255 := by decide
  have e8 : (((2 ^ 8 : Nat) : Int)) = 256 := by decide
  rw [e8] at h2
  omega
theorem own_sw0 {fa fb : Nat → Int32} {na : Int32} : ¬ (0 < (0 : Int32).toInt ∧ (0 : Int32).toInt ≤ na.toInt ∧ ∀ i : Nat, (i : Int) < (0 : Int32).toInt → fa i = fb i) := fun q => absurd q.1 (by decide)
theorem own_sw2 {fa : Nat → Int32} {na a b c d : Int32} : (0 < (2 : Int32).toInt ∧ (2 : Int32).toInt ≤ na.toInt ∧ ∀ i : Nat, (i : Int) < (2 : Int32).toInt → fa i = nth4 a b c d i) ↔ (2 ≤ na.toInt ∧ (fa 0).toInt = a.toInt ∧ (fa 1).toInt = b.toInt) := by
  have k : (2 : Int32).toInt = 2 := by decide
  rw [k]
  constructor
  · intro q
    exact ⟨q.2.1, congrArg Int32.toInt (q.2.2 0 (by decide)), congrArg Int32.toInt (q.2.2 1 (by decide))⟩
  · intro q
    refine ⟨by decide, q.1, fun i hi => ?_⟩
    rcases i with _ | _ | i
    · exact Int32.toInt_inj.mp q.2.1
    · exact Int32.toInt_inj.mp q.2.2
    · exfalso; omega
theorem own_sw3 {fa : Nat → Int32} {na a b c d : Int32} : (0 < (3 : Int32).toInt ∧ (3 : Int32).toInt ≤ na.toInt ∧ ∀ i : Nat, (i : Int) < (3 : Int32).toInt → fa i = nth4 a b c d i) ↔ (3 ≤ na.toInt ∧ (fa 0).toInt = a.toInt ∧ (fa 1).toInt = b.toInt ∧ (fa 2).toInt = c.toInt) := by
  have k : (3 : Int32).toInt = 3 := by decide
  rw [k]
  constructor
  · intro q
    exact ⟨q.2.1, congrArg Int32.toInt (q.2.2 0 (by decide)), congrArg Int32.toInt (q.2.2 1 (by decide)), congrArg Int32.toInt (q.2.2 2 (by decide))⟩
  · intro q
    refine ⟨by decide, q.1, fun i hi => ?_⟩
    rcases i with _ | _ | _ | i
    · exact Int32.toInt_inj.mp q.2.1
    · exact Int32.toInt_inj.mp q.2.2.1
    · exact Int32.toInt_inj.mp q.2.2.2
    · exfalso; omega
theorem own_sw4 {fa : Nat → Int32} {na a b c d : Int32} : (0 < (4 : Int32).toInt ∧ (4 : Int32).toInt ≤ na.toInt ∧ ∀ i : Nat, (i : Int) < (4 : Int32).toInt → fa i = nth4 a b c d i) ↔ (4 ≤ na.toInt ∧ (fa 0).toInt = a.toInt ∧ (fa 1).toInt = b.toInt ∧ (fa 2).toInt = c.toInt ∧ (fa 3).toInt = d.toInt) := by
  have k : (4 : Int32).toInt = 4 := by decide
  rw [k]
  constructor
  · intro q
    exact ⟨q.2.1, congrArg Int32.toInt (q.2.2 0 (by decide)), congrArg Int32.toInt (q.2.2 1 (by decide)), congrArg Int32.toInt (q.2.2 2 (by decide)), congrArg Int32.toInt (q.2.2 3 (by decide))⟩
  · intro q
    refine ⟨by decide, q.1, fun i hi => ?_⟩
    rcases i with _ | _ | _ | _ | i
    · exact Int32.toInt_inj.mp q.2.1
    · exact Int32.toInt_inj.mp q.2.2.1
    · exact Int32.toInt_inj.mp q.2.2.2.1
    · exact Int32.toInt_inj.mp q.2.2.2.2
    · exfalso; omega
/-- what an array of bytes holds at the start, read off the words of the case -/
theorem own_bytes {s : State} {args : Array Value} {t : Term} {a : Addr} {z : Int32} (hf : Fit s) (et : t.eval args s none [] s = some (.ref a)) (w1 : (Jvm.Cond.arrayOf t .byte).value args s none s [] = some true) (w2 : (Jvm.Cond.eq (Term.length t) (Term.int z)).value args s none s [] = some true) (hz : ¬ z < 0) :
    ∃ (k : ClassId) (vs : List Value), Arv s s.heap a k .byte z vs (.int 0) ∧ ∀ (i : Int32) (x : Int32), (Jvm.Cond.eq (Term.elem t (Term.int i)) (Term.int x)).value args s none s [] = some true → vs.getD i.toNatClampNeg (.int 0) = .int x := by
  obtain ⟨cl, A⟩ := Arr.start et w1
  have L := eqv_i (Term.int_eval _) w2
  have fin := A.fin (Vm.Alike.refl _)
  have hl : cl.slots.size < 2 ^ 31 := by
    by_cases g : cl.slots.size < 2 ^ 31
    · exact g
    · simp [Term.eval, et, fin, g] at L
  have e : cl.slots.size.toInt32 = z := by
    have q := len_f et fin hl
    exact Value.int.inj (Option.some.inj (q.symm.trans L))
  refine ⟨cl.cls, cl.slots.toList, Arv.start hf A hl e hz ?_ ?_, fun i x w => ?_⟩
  · rw [Array.length_toList, ← e]
    have c1 := len_toInt hl
    simp only [Int32.toNatClampNeg, c1]; rfl
  · exact own_hasl cl
  · have L2 := eqv_i (Term.int_eval _) w
    obtain ⟨q1, q2⟩ := elem_in L2 et (Term.int_eval _) A.1
    rw [List.getD_eq_getElem?_getD, Array.getElem?_toList, q2]; rfl
def famI (x0 x1 x2 x3 : Int) : Nat := if x0 = 239 ∧ x1 = 187 ∧ x2 = 191 then 0 else if x0 = 254 ∧ x1 = 255 then 1 else if x0 = 0 ∧ x1 = 60 ∧ x2 = 0 ∧ x3 = 63 then 1 else if x0 = 255 ∧ x1 = 254 then 2 else if x0 = 60 ∧ x1 = 0 ∧ x2 = 63 ∧ x3 = 0 then 2 else if x0 = 0 ∧ x1 = 0 ∧ x2 = 0 ∧ x3 = 60 then 3 else if x0 = 60 ∧ x1 = 0 ∧ x2 = 0 ∧ x3 = 0 then 4 else if x0 = 76 ∧ x1 = 111 ∧ x2 = 167 ∧ x3 = 148 then 5 else 0
def famS (n b0 b1 b2 b3 : Int) : Nat := if 3 ≤ n ∧ b0 = -17 ∧ b1 = -69 ∧ b2 = -65 then 0 else if 2 ≤ n ∧ b0 = -2 ∧ b1 = -1 then 1 else if 4 ≤ n ∧ b0 = 0 ∧ b1 = 60 ∧ b2 = 0 ∧ b3 = 63 then 1 else if 2 ≤ n ∧ b0 = -1 ∧ b1 = -2 then 2 else if 4 ≤ n ∧ b0 = 60 ∧ b1 = 0 ∧ b2 = 63 ∧ b3 = 0 then 2 else if 4 ≤ n ∧ b0 = 0 ∧ b1 = 0 ∧ b2 = 0 ∧ b3 = 60 then 3 else if 4 ≤ n ∧ b0 = 60 ∧ b1 = 0 ∧ b2 = 0 ∧ b3 = 0 then 4 else if 4 ≤ n ∧ b0 = 76 ∧ b1 = 111 ∧ b2 = -89 ∧ b3 = -108 then 5 else 0
def nthA (a b c d e f : Addr) : Nat → Addr
  | 0 => a
  | 1 => b
  | 2 => c
  | 3 => d
  | 4 => e
  | _ => f
def okB : Value → Bool
  | .int z => decide (0 ≤ z.toInt ∧ z.toInt ≤ 255)
  | _ => false
theorem own_okB {v : Value} (h : okB v = true) : ∃ z : Int32, v = .int z ∧ 0 ≤ z.toInt ∧ z.toInt ≤ 255 := by
  cases v with
  | int z => exact ⟨z, rfl, of_decide_eq_true h⟩
  | _ => cases h
theorem own_6 {x k : Int32} (e : k = (x &&& 7) % 6) : k = 0 ∨ k = 1 ∨ k = 2 ∨ k = 3 ∨ k = 4 ∨ k = 5 := by
  subst e
  have h := (c_and x 7 (by decide)).1
  have q := (c_iremV (x &&& 7) 6).1 h (by decide)
  have k0 : (0 : Int32).toInt = 0 := by decide
  have k1 : (1 : Int32).toInt = 1 := by decide
  have k2 : (2 : Int32).toInt = 2 := by decide
  have k3 : (3 : Int32).toInt = 3 := by decide
  have k4 : (4 : Int32).toInt = 4 := by decide
  have k5 : (5 : Int32).toInt = 5 := by decide
  have k6 : (6 : Int32).toInt = 6 := by decide
  simp only [← Int32.toInt_inj]
  omega
theorem own_n7 (x : Int32) : 0 ≤ (x &&& 7).toInt ∧ (x &&& 7).toInt ≤ 7 := c_and x 7 (by decide)
theorem own_255 (x : Int32) : 0 ≤ (x &&& 255).toInt ∧ (x &&& 255).toInt ≤ 255 := c_and x 255 (by decide)
theorem own_bbc {x : Int32} (h : 0 ≤ x.toInt ∧ x.toInt ≤ 255) : ((bb x).toInt = x.toInt ∧ x.toInt < 128) ∨ ((bb x).toInt = x.toInt - 256 ∧ 128 ≤ x.toInt) := by
  have e : bb x = x.toInt8.toInt32 := by simp [bb, nar]
  rw [e]
  have h1 := c_i2b x
  omega
theorem own_idx {k : Int32} (i : Int32) (hk : 0 ≤ k.toInt ∧ k.toInt ≤ 7) (hi : 0 ≤ i.toInt ∧ i.toInt ≤ 3) : 0 ≤ (k * 4 + i).toInt ∧ (k * 4 + i).toInt < 32 := by
  have a := c_imul k 4
  have b := c_iadd (k * 4) i
  have k4 : (4 : Int32).toInt = 4 := by decide
  have r1 := rng32 (k * 4)
  have r2 := rng32 (k * 4 + i)
  rw [k4] at a
  omega
theorem own_32 {x : Int32} (h : 0 ≤ x.toInt ∧ x.toInt < 32) : (¬ x < 0 ∧ x < 32) ∧ x.toNatClampNeg < 32 := by
  have k0 : (0 : Int32).toInt = 0 := by decide
  have k1 : (32 : Int32).toInt = 32 := by decide
  have q : ¬ x < 0 := by rw [Int32.lt_iff_toInt_lt]; omega
  have z := nat_of q
  exact ⟨⟨q, by rw [Int32.lt_iff_toInt_lt]; omega⟩, by omega⟩
set_option maxHeartbeats 4000000 in
theorem own_same {n b0 b1 b2 b3 x0 x1 x2 x3 : Int} (h0 : (0 < n ∧ ((b0 = x0 ∧ 0 ≤ x0 ∧ x0 < 128) ∨ (b0 = x0 - 256 ∧ 128 ≤ x0 ∧ x0 ≤ 255))) ∨ (n ≤ 0 ∧ x0 = -1)) (h1 : (1 < n ∧ ((b1 = x1 ∧ 0 ≤ x1 ∧ x1 < 128) ∨ (b1 = x1 - 256 ∧ 128 ≤ x1 ∧ x1 ≤ 255))) ∨ (n ≤ 1 ∧ x1 = -1))
    (h2 : (2 < n ∧ ((b2 = x2 ∧ 0 ≤ x2 ∧ x2 < 128) ∨ (b2 = x2 - 256 ∧ 128 ≤ x2 ∧ x2 ≤ 255))) ∨ (n ≤ 2 ∧ x2 = -1)) (h3 : (3 < n ∧ ((b3 = x3 ∧ 0 ≤ x3 ∧ x3 < 128) ∨ (b3 = x3 - 256 ∧ 128 ≤ x3 ∧ x3 ≤ 255))) ∨ (n ≤ 3 ∧ x3 = -1)) : famS n b0 b1 b2 b3 = famI x0 x1 x2 x3 := by
  have e0 : (3 ≤ n ∧ b0 = -17 ∧ b1 = -69 ∧ b2 = -65) ↔ (x0 = 239 ∧ x1 = 187 ∧ x2 = 191) := by
    clear h3
    constructor
    · intro q; omega
    · intro q; omega
  have e1 : (2 ≤ n ∧ b0 = -2 ∧ b1 = -1) ↔ (x0 = 254 ∧ x1 = 255) := by
    clear e0 h2 h3
    constructor
    · intro q; omega
    · intro q; omega
  have e2 : (4 ≤ n ∧ b0 = 0 ∧ b1 = 60 ∧ b2 = 0 ∧ b3 = 63) ↔ (x0 = 0 ∧ x1 = 60 ∧ x2 = 0 ∧ x3 = 63) := by
    clear e0 e1
    constructor
    · intro q; omega
    · intro q; omega
  have e3 : (2 ≤ n ∧ b0 = -1 ∧ b1 = -2) ↔ (x0 = 255 ∧ x1 = 254) := by
    clear e0 e1 e2 h2 h3
    constructor
    · intro q; omega
    · intro q; omega
  have e4 : (4 ≤ n ∧ b0 = 60 ∧ b1 = 0 ∧ b2 = 63 ∧ b3 = 0) ↔ (x0 = 60 ∧ x1 = 0 ∧ x2 = 63 ∧ x3 = 0) := by
    clear e0 e1 e2 e3
    constructor
    · intro q; omega
    · intro q; omega
  have e5 : (4 ≤ n ∧ b0 = 0 ∧ b1 = 0 ∧ b2 = 0 ∧ b3 = 60) ↔ (x0 = 0 ∧ x1 = 0 ∧ x2 = 0 ∧ x3 = 60) := by
    clear e0 e1 e2 e3 e4
    constructor
    · intro q; omega
    · intro q; omega
  have e6 : (4 ≤ n ∧ b0 = 60 ∧ b1 = 0 ∧ b2 = 0 ∧ b3 = 0) ↔ (x0 = 60 ∧ x1 = 0 ∧ x2 = 0 ∧ x3 = 0) := by
    clear e0 e1 e2 e3 e4 e5
    constructor
    · intro q; omega
    · intro q; omega
  have e7 : (4 ≤ n ∧ b0 = 76 ∧ b1 = 111 ∧ b2 = -89 ∧ b3 = -108) ↔ (x0 = 76 ∧ x1 = 111 ∧ x2 = 167 ∧ x3 = 148) := by
    clear e0 e1 e2 e3 e4 e5 e6
    constructor
    · intro q; omega
    · intro q; omega
  simp only [famS, famI, e0, e1, e2, e3, e4, e5, e6, e7]
theorem kz_m108 : (-108 : Int32).toInt = -108 := by decide
theorem kz_m89 : (-89 : Int32).toInt = -89 := by decide
theorem kz_m69 : (-69 : Int32).toInt = -69 := by decide
theorem kz_m65 : (-65 : Int32).toInt = -65 := by decide
theorem kz_m17 : (-17 : Int32).toInt = -17 := by decide
theorem kz_m2 : (-2 : Int32).toInt = -2 := by decide
theorem kz_m1 : (-1 : Int32).toInt = -1 := by decide
theorem kz_0 : (0 : Int32).toInt = 0 := by decide
theorem kz_60 : (60 : Int32).toInt = 60 := by decide
theorem kz_63 : (63 : Int32).toInt = 63 := by decide
theorem kz_76 : (76 : Int32).toInt = 76 := by decide
theorem kz_111 : (111 : Int32).toInt = 111 := by decide
theorem own_eqR {t u : Term} {args : Array Value} {s : State} {a : Addr} (h : (Jvm.Cond.eq t u).value args s none s [] = some true) (hu : u.eval args s none [] s = some (.ref a)) : t.eval args s none [] s = some (.ref a) := by
  obtain ⟨x, y, e1, e2, k1, k2⟩ := cmp_v (Or.inl h)
  cases hu.symm.trans e2
  have hx : x.isRef = true := k2.2
  have q := eq_R e1 hu hx rfl
  rw [h] at q
  rw [e1, of_decide_eq_true (Option.some.inj q).symm]
theorem own_refs6 {s : State} {args : Array Value} {t : Term} {a f0 f1 f2 f3 f4 f5 : Addr} {K : String} (hf : Fit s) (et : t.eval args s none [] s = some (.ref a)) (w1 : (Jvm.Cond.arrayOf t (.object K)).value args s none s [] = some true) (w2 : (Jvm.Cond.eq (Term.length t) (Term.int 6)).value args s none s [] = some true)
    (h0 : (Term.elem t (Term.int 0)).eval args s none [] s = some (.ref f0)) (h1 : (Term.elem t (Term.int 1)).eval args s none [] s = some (.ref f1)) (h2 : (Term.elem t (Term.int 2)).eval args s none [] s = some (.ref f2)) (h3 : (Term.elem t (Term.int 3)).eval args s none [] s = some (.ref f3)) (h4 : (Term.elem t (Term.int 4)).eval args s none [] s = some (.ref f4)) (h5 : (Term.elem t (Term.int 5)).eval args s none [] s = some (.ref f5)) :
    ∃ k : ClassId, Arv s s.heap a k (.object K) 6 [(.ref f0), (.ref f1), (.ref f2), (.ref f3), (.ref f4), (.ref f5)] .null := by
  obtain ⟨cl, A⟩ := Arr.start et w1
  have L := eqv_i (Term.int_eval _) w2
  have fin := A.fin (Vm.Alike.refl _)
  have hl : cl.slots.size < 2 ^ 31 := by
    by_cases g : cl.slots.size < 2 ^ 31
    · exact g
    · simp [Term.eval, et, fin, g] at L
  have e : cl.slots.size.toInt32 = 6 := Value.int.inj (Option.some.inj ((len_f et fin hl).symm.trans L))
  have el := fun (i : Int32) (x : Addr) (w : (Term.elem t (Term.int i)).eval args s none [] s = some (.ref x)) => (elem_in w et (Term.int_eval _) A.1).2
  exact ⟨cl.cls, Arv.start hf A hl e (by decide) rfl ⟨el 0 _ h0, el 1 _ h1, el 2 _ h2, el 3 _ h3, el 4 _ h4, el 5 _ h5, trivial⟩⟩
set_option maxRecDepth 65536 in
set_option maxHeartbeats 40000000 in
theorem rm_rc (l : Launch) (Z : State) (a0 : Array Value) (hw : ∀ d ∈ tables_1, d.before a0 Z = true) (x0 x2 : Int32) (h0 : Heap) (n0 : Nat) (Z0 : n0 ≤ h0.size) (h2 : ¬ x2 < 0) (h61 : ¬ x0 < x2) :
    Met l Z (⟨"java/util/Arrays", "rangeCheck", "(III)V"⟩ : MethodName) jdk_65_method_30_code 3 none { frames := 0, cells := 0, slots := 0, locals := 0 } [] #[(.int x0), (.int (0 : Int32)), (.int x2)] h0 n0 (fun v h => v = none ∧ h = h0) := by
  refine Met.mk (tabs := tables_1) (a0 := a0) (ls0 := #[.val (.int x0), .val (.int (0 : Int32)), .val (.int x2)]) (plainFor_of_name pn_java_util_Arrays) hw Z0 (fun m => by first | (simp [entryFrame, mkF, argsToLocals, Value.category]; done) | rfl) ?_
  intro p e s m below meth c T C X
  refine s_iloadN 1 C X d7_0 rfl ?_
  refine s_iloadN 2 C X d7_1 rfl ?_
  refine s_icmp_le 46 5 C X d7_2 (fun c2 => ?_) (fun c => absurd c h2)
  have t_c2 : ¬ ((x2).toInt < (0 : Int)) := fun q => c2 (Int32.lt_iff_toInt_lt.mpr q)
  refine s_iloadN 47 C X d7_46 rfl ?_
  refine s_if_ge 59 50 C X d7_47 (fun _ => ?_) (fun c => absurd c (by decide))
  refine s_iloadN 60 C X d7_59 rfl ?_
  refine s_iloadN 61 C X d7_60 rfl ?_
  refine s_icmp_le 73 64 C X d7_61 (fun c61 => ?_) (fun c => absurd c h61)
  have t_c61 : ¬ ((x0).toInt < (x2).toInt) := fun q => c61 (Int32.lt_iff_toInt_lt.mpr q)
  refine s_return C X d7_73 rfl ?_
  exact ⟨rfl, rfl⟩
set_option maxRecDepth 65536 in
set_option maxHeartbeats 40000000 in
theorem rm_mis (l : Launch) (Z : State) (a0 : Array Value) (hw : ∀ d ∈ tables_1, d.before a0 Z = true) (a b : Addr) (na nb : Int32) (k_a k_b : ClassId) (va vb : List Value) (da db : Value) (fa fb : Nat → Int32) (ln : Int32) (h0 : Heap) (n0 : Nat) (Z0 : n0 ≤ h0.size) (A_a : Arv Z h0 a k_a .byte na va da) (A_b : Arv Z h0 b k_b .byte nb vb db) (hl : ¬ ln.toInt < 0) (h7 : ¬ (7 : Int32) < ln) (hla : ln.toInt ≤ na.toInt) (hlb : ln.toInt ≤ nb.toInt) (ha : ∀ i : Nat, (i : Int) < ln.toInt → va.getD i da = .int (fa i)) (hb : ∀ i : Nat, (i : Int) < ln.toInt → vb.getD i db = .int (fb i)) :
    Met l Z (⟨"jdk/internal/util/ArraysSupport", "mismatch", "([BI[BII)I"⟩ : MethodName) jdk_48_method_14_code 8 (some .int) { frames := 0, cells := 0, slots := 0, locals := 0 } [] #[(.ref a), (.int (0 : Int32)), (.ref b), (.int (0 : Int32)), (.int ln)] h0 n0 (fun v h => ∃ z, v = some (.int z) ∧ (z.toInt < 0 ↔ (∀ i : Nat, (i : Int) < ln.toInt → fa i = fb i)) ∧ h = h0) := by
  refine Met.mk (tabs := tables_1) (a0 := a0) (ls0 := #[.val (.ref a), .val (.int (0 : Int32)), .val (.ref b), .val (.int (0 : Int32)), .val (.int ln), .unset, .unset, .unset]) (plainFor_of_name pn_jdk_internal_util_ArraysSupport) hw Z0 (fun m => by first | (simp [entryFrame, mkF, argsToLocals, Value.category]; done) | rfl) ?_
  intro p e s m below meth c T C X
  refine s_iconst 1 C X d8_0 kc_iconst_0 ?_
  refine s_istore 3 C X (l' := #[.val (.ref a), .val (.int (0 : Int32)), .val (.ref b), .val (.int (0 : Int32)), .val (.int ln), .val (.int (0 : Int32)), .unset, .unset]) d8_1 rfl ?_
  refine s_iload 5 C X d8_3 rfl ?_
  refine s_bipush 7 C X d8_5 kc_bipush_7 ?_
  refine s_icmp_le 70 10 C X d8_7 (fun c7 => ?_) (fun c => absurd c h7)
  have t_c7 : ¬ ((7 : Int) < (ln).toInt) := fun q => c7 (Int32.lt_iff_toInt_lt.mpr q)
  have loop : ∀ (d j : Nat) (i : Int32) (T : State), (d : Int) = ln.toInt - j → i.toInt = j → (∀ k : Nat, k < j → fa k = fb k) → St p l e ({ frames := 0, cells := 0, slots := 0, locals := 0 } : Room) s m #[(.ref a), (.int (0 : Int32)), (.ref b), (.int (0 : Int32)), (.int ln)] below meth c n0 T h0 0 0 → Run p e below n0 (fun (v : Option Value) (h : Heap) => ∃ z, v = some (.int z) ∧ (z.toInt < 0 ↔ (∀ i : Nat, (i : Int) < ln.toInt → fa i = fb i)) ∧ h = h0) (fun o t L => FrameEnd s o t L ({ frames := 0, cells := 0, slots := 0, locals := 0 } : Room).cells ({ frames := 0, cells := 0, slots := 0, locals := 0 } : Room).slots) m T 70 #[.val (.ref a), .val (.int (0 : Int32)), .val (.ref b), .val (.int (0 : Int32)), .val (.int ln), .val (.int i), .unset, .unset] [] := by
    intro d
    induction d with
    | zero =>
      intro j i T hd hi H X
      refine s_iload 72 C X d8_70 rfl ?_
      refine s_iload 74 C X d8_72 rfl ?_
      refine s_icmp_ge 101 77 C X d8_74 (fun c74 => ?_) (fun c => absurd (Int32.lt_iff_toInt_lt.mp c) (by omega))
      have t_c74 : ¬ ((i).toInt < (ln).toInt) := fun q => c74 (Int32.lt_iff_toInt_lt.mpr q)
      refine s_iconst 102 C X d8_101 kc_iconst_m1 ?_
      refine s_ireturn C X d8_102 rfl ?_
      exact ⟨_, rfl, ⟨fun _ i hi' => H i (by omega), fun _ => by decide⟩, rfl⟩
    | succ d ih =>
      intro j i T hd hi H X
      refine s_iload 72 C X d8_70 rfl ?_
      refine s_iload 74 C X d8_72 rfl ?_
      refine s_icmp_ge 101 77 C X d8_74 (fun c => absurd (Int32.lt_iff_toInt_lt.mpr (by omega)) c) (fun c74 => ?_)
      have t_c74 : (i).toInt < (ln).toInt := Int32.lt_iff_toInt_lt.mp c74
      refine s_aloadN 78 C X d8_77 rfl rfl ?_
      refine s_iloadN 79 C X d8_78 rfl ?_
      refine s_iload 81 C X d8_79 rfl ?_
      refine s_iadd 82 C X d8_81 ?_
      refine Run.cast (st' := [(.int i), (.ref a)]) (by rw [Int32.zero_add]) ?_
      refine s_baload 83 C X d8_82 A_a (own_i hi (by omega : (j : Int) < na.toInt)) (v := (.int (fa j))) (by rw [own_nat hi]; exact ha j (by omega)) ?_
      refine s_aloadN 84 C X d8_83 rfl rfl ?_
      refine s_iloadN 85 C X d8_84 rfl ?_
      refine s_iload 87 C X d8_85 rfl ?_
      refine s_iadd 88 C X d8_87 ?_
      refine Run.cast (st' := [(.int i), (.ref b), (.int (fa j))]) (by rw [Int32.zero_add]) ?_
      refine s_baload 89 C X d8_88 A_b (own_i hi (by omega : (j : Int) < nb.toInt)) (v := (.int (fb j))) (by rw [own_nat hi]; exact hb j (by omega)) ?_
      refine s_icmp_eq 95 92 C X d8_89 (fun c89 => ?_) (fun c89 => ?_)
      · have t_c89 : ((fa j)).toInt = ((fb j)).toInt := congrArg Int32.toInt c89
        refine s_iinc 98 C X (l' := #[.val (.ref a), .val (.int (0 : Int32)), .val (.ref b), .val (.int (0 : Int32)), .val (.int ln), .val (.int (i + (1 : Int32))), .unset, .unset]) d8_95 kc_iconst_1 rfl rfl ?_
        refine s_goto 70 C X d8_98 ?_
        refine ih (j + 1) _ T (by omega) (own_inc (n := ln) hi (by omega)) (fun k hk => ?_) X
        rcases Nat.lt_succ_iff_lt_or_eq.mp hk with g | rfl
        · exact H k g
        · exact c89
      have t_c89 : ¬ (((fa j)).toInt = ((fb j)).toInt) := fun q => c89 (Int32.toInt_inj.mp q)
      refine s_iload 94 C X d8_92 rfl ?_
      refine s_ireturn C X d8_94 rfl ?_
      exact ⟨_, rfl, ⟨fun q => absurd q (by omega), fun q => absurd (q j (by omega)) c89⟩, rfl⟩
  exact loop ln.toInt.toNat 0 0 T (by omega) (by decide) (fun k hk => absurd hk (by omega)) X
set_option maxRecDepth 65536 in
set_option maxHeartbeats 40000000 in
theorem rm_aeq (l : Launch) (Z : State) (a0 : Array Value) (hw : ∀ d ∈ tables_1, d.before a0 Z = true) (a b : Addr) (na nb : Int32) (k_a k_b : ClassId) (va vb : List Value) (da db : Value) (fa fb : Nat → Int32) (h0 : Heap) (n0 : Nat) (Z0 : n0 ≤ h0.size) (A_a : Arv Z h0 a k_a .byte na va da) (A_b : Arv Z h0 b k_b .byte nb vb db) (hl : ¬ nb.toInt < 0) (h7 : ¬ (7 : Int32) < nb) (hla : nb.toInt ≤ na.toInt) (ha : ∀ i : Nat, (i : Int) < nb.toInt → va.getD i da = .int (fa i)) (hb : ∀ i : Nat, (i : Int) < nb.toInt → vb.getD i db = .int (fb i)) :
    Met l Z (⟨"java/util/Arrays", "equals", "([BII[BII)Z"⟩ : MethodName) jdk_65_method_90_code 8 (some .boolean) { frames := 1, cells := 0, slots := 0, locals := 20 } [] #[(.ref a), (.int (0 : Int32)), (.int nb), (.ref b), (.int (0 : Int32)), (.int nb)] h0 n0 (fun v h => ((v = some (.int 1) ∧ (∀ i : Nat, (i : Int) < nb.toInt → fa i = fb i)) ∨ (v = some (.int 0) ∧ ¬ (∀ i : Nat, (i : Int) < nb.toInt → fa i = fb i))) ∧ h = h0) := by
  refine Met.mk (tabs := tables_1) (a0 := a0) (ls0 := #[.val (.ref a), .val (.int (0 : Int32)), .val (.int nb), .val (.ref b), .val (.int (0 : Int32)), .val (.int nb), .unset, .unset]) (plainFor_of_name pn_java_util_Arrays) hw Z0 (fun m => by first | (simp [entryFrame, mkF, argsToLocals, Value.category]; done) | rfl) ?_
  intro p e s m below meth c T C X
  refine s_aloadN 1 C X d6_0 rfl rfl ?_
  refine s_arraylength 2 C X d6_1 A_a ?_
  refine s_iloadN 3 C X d6_2 rfl ?_
  refine s_iloadN 4 C X d6_3 rfl ?_
  refine s_callS 7 [(.int na), (.int (0 : Int32)), (.int nb)] [] 0 C X d6_4 (List.mem_of_getElem? (i := 44) rfl) (List.mem_of_getElem? (i := 45) rfl) (List.mem_of_getElem? (i := 42) rfl) (List.mem_of_getElem? (i := 46) rfl) (rm_rc l Z a0 hw na nb _ n0 X.sz (fun q => hl (Int32.lt_iff_toInt_lt.mp q)) (fun q => absurd (Int32.lt_iff_toInt_lt.mp q) (by omega))) (lenOf pd__III_V rfl) rfl rfl rfl (fun T v h0 X q => ?_)
  obtain ⟨rfl, hE⟩ := q
  rw [hE] at X
  refine Run.cast (st' := []) rfl ?_
  refine s_aloadN 8 C X d6_7 rfl rfl ?_
  refine s_arraylength 9 C X d6_8 A_b ?_
  refine s_iload 11 C X d6_9 rfl ?_
  refine s_iload 13 C X d6_11 rfl ?_
  refine s_callS 16 [(.int nb), (.int (0 : Int32)), (.int nb)] [] 0 C X d6_13 (List.mem_of_getElem? (i := 44) rfl) (List.mem_of_getElem? (i := 45) rfl) (List.mem_of_getElem? (i := 42) rfl) (List.mem_of_getElem? (i := 46) rfl) (rm_rc l Z a0 hw nb nb _ n0 X.sz (fun q => hl (Int32.lt_iff_toInt_lt.mp q)) (fun q => absurd (Int32.lt_iff_toInt_lt.mp q) (by omega))) (lenOf pd__III_V rfl) rfl rfl rfl (fun T v h1 X q => ?_)
  obtain ⟨rfl, hE⟩ := q
  rw [hE] at X
  refine Run.cast (st' := []) rfl ?_
  refine s_iloadN 17 C X d6_16 rfl ?_
  refine s_iloadN 18 C X d6_17 rfl ?_
  refine s_isub 19 C X d6_18 ?_
  refine Run.cast (st' := [(.int nb)]) (by rw [Int32.sub_zero]) ?_
  refine s_istore 21 C X (l' := #[.val (.ref a), .val (.int (0 : Int32)), .val (.int nb), .val (.ref b), .val (.int (0 : Int32)), .val (.int nb), .val (.int nb), .unset]) d6_19 rfl ?_
  refine s_iload 23 C X d6_21 rfl ?_
  refine s_iload 25 C X d6_23 rfl ?_
  refine s_isub 26 C X d6_25 ?_
  refine Run.cast (st' := [(.int nb)]) (by rw [Int32.sub_zero]) ?_
  refine s_istore 28 C X (l' := #[.val (.ref a), .val (.int (0 : Int32)), .val (.int nb), .val (.ref b), .val (.int (0 : Int32)), .val (.int nb), .val (.int nb), .val (.int nb)]) d6_26 rfl ?_
  refine s_iload 30 C X d6_28 rfl ?_
  refine s_iload 32 C X d6_30 rfl ?_
  refine s_icmp_eq 37 35 C X d6_32 (fun _ => ?_) (fun c => absurd rfl c)
  refine s_aloadN 38 C X d6_37 rfl rfl ?_
  refine s_iloadN 39 C X d6_38 rfl ?_
  refine s_aloadN 40 C X d6_39 rfl rfl ?_
  refine s_iload 42 C X d6_40 rfl ?_
  refine s_iload 44 C X d6_42 rfl ?_
  refine s_callS 47 [(.ref a), (.int (0 : Int32)), (.ref b), (.int (0 : Int32)), (.int nb)] [] 0 C X d6_44 (List.mem_of_getElem? (i := 47) rfl) (List.mem_of_getElem? (i := 48) rfl) (List.mem_of_getElem? (i := 49) rfl) (List.mem_of_getElem? (i := 50) rfl) (rm_mis l Z a0 hw a b na nb k_a k_b va vb da db fa fb nb _ n0 X.sz A_a A_b hl h7 hla (by omega) ha hb) (lenOf pd___BI_BII_I rfl) rfl rfl rfl (fun T v h2 X q => ?_)
  obtain ⟨z, rfl, hz, hE⟩ := q
  rw [hE] at X
  refine Run.cast (st' := [(.int z)]) rfl ?_
  refine s_if_ge 54 50 C X d6_47 (fun c47 => ?_) (fun c47 => ?_)
  · have t_c47 : ¬ ((z).toInt < (0 : Int)) := fun q => c47 (Int32.lt_iff_toInt_lt.mpr q)
    refine s_iconst 55 C X d6_54 kc_iconst_0 ?_
    refine s_nreturn C X d6_55 rfl (by simp) rfl ?_
    exact ⟨Or.inr ⟨rfl, fun q => absurd (hz.mpr q) t_c47⟩, rfl⟩
  have t_c47 : (z).toInt < (0 : Int) := Int32.lt_iff_toInt_lt.mp c47
  refine s_iconst 51 C X d6_50 kc_iconst_1 ?_
  refine s_goto 55 C X d6_51 ?_
  refine s_nreturn C X d6_55 rfl (by simp) rfl ?_
  exact ⟨Or.inl ⟨rfl, hz.mp t_c47⟩, rfl⟩
set_option maxRecDepth 65536 in
set_option maxHeartbeats 40000000 in
theorem rm_sw (l : Launch) (Z : State) (a0 : Array Value) (hw : ∀ d ∈ tables_1, d.before a0 Z = true) (a b : Addr) (na nb : Int32) (k_a k_b : ClassId) (va vb : List Value) (da db : Value) (fa fb : Nat → Int32) (h0 : Heap) (n0 : Nat) (Z0 : n0 ≤ h0.size) (A_a : Arv Z h0 a k_a .byte na va da) (A_b : Arv Z h0 b k_b .byte nb vb db) (h7 : ¬ (7 : Int32) < nb) (ha : ∀ i : Nat, (i : Int) < na.toInt → va.getD i da = .int (fa i)) (hb : ∀ i : Nat, (i : Int) < nb.toInt → vb.getD i db = .int (fb i)) :
    Met l Z (⟨"com/example/shapelint/shapelint/io/XmlEncodingFamily", "startsWith", "([B[B)Z"⟩ : MethodName) prog_14_method_9_code 2 (some .boolean) { frames := 2, cells := 0, slots := 0, locals := 45 } [] #[(.ref a), (.ref b)] h0 n0 (fun v h => ((v = some (.int 1) ∧ (0 < nb.toInt ∧ nb.toInt ≤ na.toInt ∧ (∀ i : Nat, (i : Int) < nb.toInt → fa i = fb i))) ∨ (v = some (.int 0) ∧ ¬ (0 < nb.toInt ∧ nb.toInt ≤ na.toInt ∧ (∀ i : Nat, (i : Int) < nb.toInt → fa i = fb i)))) ∧ h = h0) := by
  refine Met.mk (tabs := tables_1) (a0 := a0) (ls0 := #[.val (.ref a), .val (.ref b)]) (plainFor_of_name pn_com_example_shapelint_shapelint_io_XmlEncodingFamily) hw Z0 (fun m => by first | (simp [entryFrame, mkF, argsToLocals, Value.category]; done) | rfl) ?_
  intro p e s m below meth c T C X
  refine s_aloadN 1 C X d5_0 rfl rfl ?_
  refine s_arraylength 2 C X d5_1 A_b ?_
  refine s_if_le 30 5 C X d5_2 (fun c2 => ?_) (fun c2 => ?_)
  · have t_c2 : ¬ ((0 : Int) < (nb).toInt) := fun q => c2 (Int32.lt_iff_toInt_lt.mpr q)
    refine s_iconst 31 C X d5_30 kc_iconst_0 ?_
    refine s_nreturn C X d5_31 rfl (by simp) rfl ?_
    exact ⟨Or.inr ⟨rfl, fun q => by omega⟩, rfl⟩
  have t_c2 : (0 : Int) < (nb).toInt := Int32.lt_iff_toInt_lt.mp c2
  refine s_aloadN 6 C X d5_5 rfl rfl ?_
  refine s_arraylength 7 C X d5_6 A_a ?_
  refine s_aloadN 8 C X d5_7 rfl rfl ?_
  refine s_arraylength 9 C X d5_8 A_b ?_
  refine s_icmp_lt 30 12 C X d5_9 (fun c9 => ?_) (fun c9 => ?_)
  · have t_c9 : (na).toInt < (nb).toInt := Int32.lt_iff_toInt_lt.mp c9
    refine s_iconst 31 C X d5_30 kc_iconst_0 ?_
    refine s_nreturn C X d5_31 rfl (by simp) rfl ?_
    exact ⟨Or.inr ⟨rfl, fun q => by omega⟩, rfl⟩
  have t_c9 : ¬ ((na).toInt < (nb).toInt) := fun q => c9 (Int32.lt_iff_toInt_lt.mpr q)
  refine s_aloadN 13 C X d5_12 rfl rfl ?_
  refine s_iconst 14 C X d5_13 kc_iconst_0 ?_
  refine s_aloadN 15 C X d5_14 rfl rfl ?_
  refine s_arraylength 16 C X d5_15 A_b ?_
  refine s_aloadN 17 C X d5_16 rfl rfl ?_
  refine s_iconst 18 C X d5_17 kc_iconst_0 ?_
  refine s_aloadN 19 C X d5_18 rfl rfl ?_
  refine s_arraylength 20 C X d5_19 A_b ?_
  refine s_callS 23 [(.ref a), (.int (0 : Int32)), (.int nb), (.ref b), (.int (0 : Int32)), (.int nb)] [] 0 C X d5_20 (List.mem_of_getElem? (i := 40) rfl) (List.mem_of_getElem? (i := 41) rfl) (List.mem_of_getElem? (i := 42) rfl) (List.mem_of_getElem? (i := 43) rfl) (rm_aeq l Z a0 hw a b na nb k_a k_b va vb da db fa fb _ n0 X.sz A_a A_b (by omega) h7 (by omega) (fun i hi => ha i (by omega)) hb) (lenOf pd___BII_BII_Z rfl) rfl rfl rfl (fun T v h0 X q => ?_)
  obtain ⟨⟨rfl, hz⟩ | ⟨rfl, hz⟩, hE⟩ := q
  · rw [hE] at X
    refine Run.cast (st' := [(.int (1 : Int32))]) rfl ?_
    refine s_if_eq 30 26 C X d5_23 (fun c => absurd c (by decide)) (fun _ => ?_)
    refine s_iconst 27 C X d5_26 kc_iconst_1 ?_
    refine s_goto 31 C X d5_27 ?_
    refine s_nreturn C X d5_31 rfl (by simp) rfl ?_
    exact ⟨Or.inl ⟨rfl, by omega, by omega, hz⟩, rfl⟩
  · rw [hE] at X
    refine Run.cast (st' := [(.int (0 : Int32))]) rfl ?_
    refine s_if_eq 30 26 C X d5_23 (fun _ => ?_) (fun c => absurd (by decide : (0 : Int32) = (0 : Int32)) c)
    refine s_iconst 31 C X d5_30 kc_iconst_0 ?_
    refine s_nreturn C X d5_31 rfl (by simp) rfl ?_
    exact ⟨Or.inr ⟨rfl, fun q => hz q.2.2⟩, rfl⟩
set_option maxRecDepth 65536 in
set_option maxHeartbeats 40000000 in
theorem rm_tpl (l : Launch) (Z : State) (a0 : Array Value) (hw : ∀ d ∈ tables_1, d.before a0 Z = true) (k i : Int32) (h0 : Heap) (n0 : Nat) (Z0 : n0 ≤ h0.size) (hk : 0 ≤ k.toInt ∧ k.toInt ≤ 7) (hi : 0 ≤ i.toInt ∧ i.toInt ≤ 3) :
    Met l Z (⟨"com/example/shapelint/shapelint/io/XmlEncodingFamilyOfPinLaw", "tpl", "(II)I"⟩ : MethodName) method_2_code 3 (some .int) { frames := 0, cells := 1, slots := 32, locals := 0 } [] #[(.int k), (.int i)] h0 n0 (fun v h => ∃ z : Int32, v = some (.int z) ∧ 0 ≤ z.toInt ∧ z.toInt ≤ 255 ∧ Keep h0 h []) := by
  refine Met.mk (tabs := tables_1) (a0 := a0) (ls0 := #[.val (.int k), .val (.int i), .unset]) (plainFor_of_name pn_com_example_shapelint_shapelint_io_XmlEncodingFamilyOfPinLaw) hw Z0 (fun m => by first | (simp [entryFrame, mkF, argsToLocals, Value.category]; done) | rfl) ?_
  intro p e s m below meth c T C X
  have Kp : Keep h0 h0 [] := Keep.refl _ _
  refine s_bipush 2 C X d2_0 kc_bipush_32 ?_
  refine s_newarray 4 32 C X d2_2 (List.mem_of_getElem? (i := 7) rfl) (by decide) (by decide) (fun T hh o1 k_o1 hb_o1 X E A_o1 g_o1 => ?_)
  have sz_o1 := Nat.le_trans Kp.1 (Nat.le_of_eq hb_o1)
  have Kp := Kp.ext E
  have A_o1 : Arv Z _ o1 k_o1 .int (32 : Int32) [(.int (0 : Int32)), (.int (0 : Int32)), (.int (0 : Int32)), (.int (0 : Int32)), (.int (0 : Int32)), (.int (0 : Int32)), (.int (0 : Int32)), (.int (0 : Int32)), (.int (0 : Int32)), (.int (0 : Int32)), (.int (0 : Int32)), (.int (0 : Int32)), (.int (0 : Int32)), (.int (0 : Int32)), (.int (0 : Int32)), (.int (0 : Int32)), (.int (0 : Int32)), (.int (0 : Int32)), (.int (0 : Int32)), (.int (0 : Int32)), (.int (0 : Int32)), (.int (0 : Int32)), (.int (0 : Int32)), (.int (0 : Int32)), (.int (0 : Int32)), (.int (0 : Int32)), (.int (0 : Int32)), (.int (0 : Int32)), (.int (0 : Int32)), (.int (0 : Int32)), (.int (0 : Int32)), (.int (0 : Int32))] (.int (0 : Int32)) := A_o1.pad (pad_rep [] _ 32)
  refine s_dup 5 C X d2_4 rfl ?_
  refine s_iconst 6 C X d2_5 kc_iconst_0 ?_
  refine s_sipush 9 C X d2_6 kc_sipush_239 ?_
  refine s_iastore 10 0 C X d2_9 A_o1 g_o1 ⟨by decide, by decide⟩ rfl (Nat.le_of_ble_eq_true rfl) (fun T hh X W A_o1 => ?_)
  have A_o1 : Arv Z _ o1 k_o1 .int (32 : Int32) [(.int (239 : Int32)), (.int (0 : Int32)), (.int (0 : Int32)), (.int (0 : Int32)), (.int (0 : Int32)), (.int (0 : Int32)), (.int (0 : Int32)), (.int (0 : Int32)), (.int (0 : Int32)), (.int (0 : Int32)), (.int (0 : Int32)), (.int (0 : Int32)), (.int (0 : Int32)), (.int (0 : Int32)), (.int (0 : Int32)), (.int (0 : Int32)), (.int (0 : Int32)), (.int (0 : Int32)), (.int (0 : Int32)), (.int (0 : Int32)), (.int (0 : Int32)), (.int (0 : Int32)), (.int (0 : Int32)), (.int (0 : Int32)), (.int (0 : Int32)), (.int (0 : Int32)), (.int (0 : Int32)), (.int (0 : Int32)), (.int (0 : Int32)), (.int (0 : Int32)), (.int (0 : Int32)), (.int (0 : Int32))] (.int (0 : Int32)) := A_o1
  have Kp := Kp.wr W (Or.inr sz_o1)
  refine s_dup 11 C X d2_10 rfl ?_
  refine s_iconst 12 C X d2_11 kc_iconst_1 ?_
  refine s_sipush 15 C X d2_12 kc_sipush_187 ?_
  refine s_iastore 16 1 C X d2_15 A_o1 g_o1 ⟨by decide, by decide⟩ rfl (Nat.le_of_ble_eq_true rfl) (fun T hh X W A_o1 => ?_)
  have A_o1 : Arv Z _ o1 k_o1 .int (32 : Int32) [(.int (239 : Int32)), (.int (187 : Int32)), (.int (0 : Int32)), (.int (0 : Int32)), (.int (0 : Int32)), (.int (0 : Int32)), (.int (0 : Int32)), (.int (0 : Int32)), (.int (0 : Int32)), (.int (0 : Int32)), (.int (0 : Int32)), (.int (0 : Int32)), (.int (0 : Int32)), (.int (0 : Int32)), (.int (0 : Int32)), (.int (0 : Int32)), (.int (0 : Int32)), (.int (0 : Int32)), (.int (0 : Int32)), (.int (0 : Int32)), (.int (0 : Int32)), (.int (0 : Int32)), (.int (0 : Int32)), (.int (0 : Int32)), (.int (0 : Int32)), (.int (0 : Int32)), (.int (0 : Int32)), (.int (0 : Int32)), (.int (0 : Int32)), (.int (0 : Int32)), (.int (0 : Int32)), (.int (0 : Int32))] (.int (0 : Int32)) := A_o1
  have Kp := Kp.wr W (Or.inr sz_o1)
  refine s_dup 17 C X d2_16 rfl ?_
  refine s_iconst 18 C X d2_17 kc_iconst_2 ?_
  refine s_sipush 21 C X d2_18 kc_sipush_191 ?_
  refine s_iastore 22 2 C X d2_21 A_o1 g_o1 ⟨by decide, by decide⟩ rfl (Nat.le_of_ble_eq_true rfl) (fun T hh X W A_o1 => ?_)
  have A_o1 : Arv Z _ o1 k_o1 .int (32 : Int32) [(.int (239 : Int32)), (.int (187 : Int32)), (.int (191 : Int32)), (.int (0 : Int32)), (.int (0 : Int32)), (.int (0 : Int32)), (.int (0 : Int32)), (.int (0 : Int32)), (.int (0 : Int32)), (.int (0 : Int32)), (.int (0 : Int32)), (.int (0 : Int32)), (.int (0 : Int32)), (.int (0 : Int32)), (.int (0 : Int32)), (.int (0 : Int32)), (.int (0 : Int32)), (.int (0 : Int32)), (.int (0 : Int32)), (.int (0 : Int32)), (.int (0 : Int32)), (.int (0 : Int32)), (.int (0 : Int32)), (.int (0 : Int32)), (.int (0 : Int32)), (.int (0 : Int32)), (.int (0 : Int32)), (.int (0 : Int32)), (.int (0 : Int32)), (.int (0 : Int32)), (.int (0 : Int32)), (.int (0 : Int32))] (.int (0 : Int32)) := A_o1
  have Kp := Kp.wr W (Or.inr sz_o1)
  refine s_dup 23 C X d2_22 rfl ?_
  refine s_iconst 24 C X d2_23 kc_iconst_3 ?_
  refine s_bipush 26 C X d2_24 kc_bipush_60 ?_
  refine s_iastore 27 3 C X d2_26 A_o1 g_o1 ⟨by decide, by decide⟩ rfl (Nat.le_of_ble_eq_true rfl) (fun T hh X W A_o1 => ?_)
  have A_o1 : Arv Z _ o1 k_o1 .int (32 : Int32) [(.int (239 : Int32)), (.int (187 : Int32)), (.int (191 : Int32)), (.int (60 : Int32)), (.int (0 : Int32)), (.int (0 : Int32)), (.int (0 : Int32)), (.int (0 : Int32)), (.int (0 : Int32)), (.int (0 : Int32)), (.int (0 : Int32)), (.int (0 : Int32)), (.int (0 : Int32)), (.int (0 : Int32)), (.int (0 : Int32)), (.int (0 : Int32)), (.int (0 : Int32)), (.int (0 : Int32)), (.int (0 : Int32)), (.int (0 : Int32)), (.int (0 : Int32)), (.int (0 : Int32)), (.int (0 : Int32)), (.int (0 : Int32)), (.int (0 : Int32)), (.int (0 : Int32)), (.int (0 : Int32)), (.int (0 : Int32)), (.int (0 : Int32)), (.int (0 : Int32)), (.int (0 : Int32)), (.int (0 : Int32))] (.int (0 : Int32)) := A_o1
  have Kp := Kp.wr W (Or.inr sz_o1)
  refine s_dup 28 C X d2_27 rfl ?_
  refine s_iconst 29 C X d2_28 kc_iconst_4 ?_
  refine s_sipush 32 C X d2_29 kc_sipush_254 ?_
  refine s_iastore 33 4 C X d2_32 A_o1 g_o1 ⟨by decide, by decide⟩ rfl (Nat.le_of_ble_eq_true rfl) (fun T hh X W A_o1 => ?_)
  have A_o1 : Arv Z _ o1 k_o1 .int (32 : Int32) [(.int (239 : Int32)), (.int (187 : Int32)), (.int (191 : Int32)), (.int (60 : Int32)), (.int (254 : Int32)), (.int (0 : Int32)), (.int (0 : Int32)), (.int (0 : Int32)), (.int (0 : Int32)), (.int (0 : Int32)), (.int (0 : Int32)), (.int (0 : Int32)), (.int (0 : Int32)), (.int (0 : Int32)), (.int (0 : Int32)), (.int (0 : Int32)), (.int (0 : Int32)), (.int (0 : Int32)), (.int (0 : Int32)), (.int (0 : Int32)), (.int (0 : Int32)), (.int (0 : Int32)), (.int (0 : Int32)), (.int (0 : Int32)), (.int (0 : Int32)), (.int (0 : Int32)), (.int (0 : Int32)), (.int (0 : Int32)), (.int (0 : Int32)), (.int (0 : Int32)), (.int (0 : Int32)), (.int (0 : Int32))] (.int (0 : Int32)) := A_o1
  have Kp := Kp.wr W (Or.inr sz_o1)
  refine s_dup 34 C X d2_33 rfl ?_
  refine s_iconst 35 C X d2_34 kc_iconst_5 ?_
  refine s_sipush 38 C X d2_35 kc_sipush_255 ?_
  refine s_iastore 39 5 C X d2_38 A_o1 g_o1 ⟨by decide, by decide⟩ rfl (Nat.le_of_ble_eq_true rfl) (fun T hh X W A_o1 => ?_)
  have A_o1 : Arv Z _ o1 k_o1 .int (32 : Int32) [(.int (239 : Int32)), (.int (187 : Int32)), (.int (191 : Int32)), (.int (60 : Int32)), (.int (254 : Int32)), (.int (255 : Int32)), (.int (0 : Int32)), (.int (0 : Int32)), (.int (0 : Int32)), (.int (0 : Int32)), (.int (0 : Int32)), (.int (0 : Int32)), (.int (0 : Int32)), (.int (0 : Int32)), (.int (0 : Int32)), (.int (0 : Int32)), (.int (0 : Int32)), (.int (0 : Int32)), (.int (0 : Int32)), (.int (0 : Int32)), (.int (0 : Int32)), (.int (0 : Int32)), (.int (0 : Int32)), (.int (0 : Int32)), (.int (0 : Int32)), (.int (0 : Int32)), (.int (0 : Int32)), (.int (0 : Int32)), (.int (0 : Int32)), (.int (0 : Int32)), (.int (0 : Int32)), (.int (0 : Int32))] (.int (0 : Int32)) := A_o1
  have Kp := Kp.wr W (Or.inr sz_o1)
  refine s_dup 40 C X d2_39 rfl ?_
  refine s_bipush 42 C X d2_40 kc_bipush_6 ?_
  refine s_iconst 43 C X d2_42 kc_iconst_0 ?_
  refine s_iastore 44 6 C X d2_43 A_o1 g_o1 ⟨by decide, by decide⟩ rfl (Nat.le_of_ble_eq_true rfl) (fun T hh X W A_o1 => ?_)
  have A_o1 : Arv Z _ o1 k_o1 .int (32 : Int32) [(.int (239 : Int32)), (.int (187 : Int32)), (.int (191 : Int32)), (.int (60 : Int32)), (.int (254 : Int32)), (.int (255 : Int32)), (.int (0 : Int32)), (.int (0 : Int32)), (.int (0 : Int32)), (.int (0 : Int32)), (.int (0 : Int32)), (.int (0 : Int32)), (.int (0 : Int32)), (.int (0 : Int32)), (.int (0 : Int32)), (.int (0 : Int32)), (.int (0 : Int32)), (.int (0 : Int32)), (.int (0 : Int32)), (.int (0 : Int32)), (.int (0 : Int32)), (.int (0 : Int32)), (.int (0 : Int32)), (.int (0 : Int32)), (.int (0 : Int32)), (.int (0 : Int32)), (.int (0 : Int32)), (.int (0 : Int32)), (.int (0 : Int32)), (.int (0 : Int32)), (.int (0 : Int32)), (.int (0 : Int32))] (.int (0 : Int32)) := A_o1
  have Kp := Kp.wr W (Or.inr sz_o1)
  refine s_dup 45 C X d2_44 rfl ?_
  refine s_bipush 47 C X d2_45 kc_bipush_7 ?_
  refine s_bipush 49 C X d2_47 kc_bipush_60 ?_
  refine s_iastore 50 7 C X d2_49 A_o1 g_o1 ⟨by decide, by decide⟩ rfl (Nat.le_of_ble_eq_true rfl) (fun T hh X W A_o1 => ?_)
  have A_o1 : Arv Z _ o1 k_o1 .int (32 : Int32) [(.int (239 : Int32)), (.int (187 : Int32)), (.int (191 : Int32)), (.int (60 : Int32)), (.int (254 : Int32)), (.int (255 : Int32)), (.int (0 : Int32)), (.int (60 : Int32)), (.int (0 : Int32)), (.int (0 : Int32)), (.int (0 : Int32)), (.int (0 : Int32)), (.int (0 : Int32)), (.int (0 : Int32)), (.int (0 : Int32)), (.int (0 : Int32)), (.int (0 : Int32)), (.int (0 : Int32)), (.int (0 : Int32)), (.int (0 : Int32)), (.int (0 : Int32)), (.int (0 : Int32)), (.int (0 : Int32)), (.int (0 : Int32)), (.int (0 : Int32)), (.int (0 : Int32)), (.int (0 : Int32)), (.int (0 : Int32)), (.int (0 : Int32)), (.int (0 : Int32)), (.int (0 : Int32)), (.int (0 : Int32))] (.int (0 : Int32)) := A_o1
  have Kp := Kp.wr W (Or.inr sz_o1)
  refine s_dup 51 C X d2_50 rfl ?_
  refine s_bipush 53 C X d2_51 kc_bipush_8 ?_
  refine s_sipush 56 C X d2_53 kc_sipush_255 ?_
  refine s_iastore 57 8 C X d2_56 A_o1 g_o1 ⟨by decide, by decide⟩ rfl (Nat.le_of_ble_eq_true rfl) (fun T hh X W A_o1 => ?_)
  have A_o1 : Arv Z _ o1 k_o1 .int (32 : Int32) [(.int (239 : Int32)), (.int (187 : Int32)), (.int (191 : Int32)), (.int (60 : Int32)), (.int (254 : Int32)), (.int (255 : Int32)), (.int (0 : Int32)), (.int (60 : Int32)), (.int (255 : Int32)), (.int (0 : Int32)), (.int (0 : Int32)), (.int (0 : Int32)), (.int (0 : Int32)), (.int (0 : Int32)), (.int (0 : Int32)), (.int (0 : Int32)), (.int (0 : Int32)), (.int (0 : Int32)), (.int (0 : Int32)), (.int (0 : Int32)), (.int (0 : Int32)), (.int (0 : Int32)), (.int (0 : Int32)), (.int (0 : Int32)), (.int (0 : Int32)), (.int (0 : Int32)), (.int (0 : Int32)), (.int (0 : Int32)), (.int (0 : Int32)), (.int (0 : Int32)), (.int (0 : Int32)), (.int (0 : Int32))] (.int (0 : Int32)) := A_o1
  have Kp := Kp.wr W (Or.inr sz_o1)
  refine s_dup 58 C X d2_57 rfl ?_
  refine s_bipush 60 C X d2_58 kc_bipush_9 ?_
  refine s_sipush 63 C X d2_60 kc_sipush_254 ?_
  refine s_iastore 64 9 C X d2_63 A_o1 g_o1 ⟨by decide, by decide⟩ rfl (Nat.le_of_ble_eq_true rfl) (fun T hh X W A_o1 => ?_)
  have A_o1 : Arv Z _ o1 k_o1 .int (32 : Int32) [(.int (239 : Int32)), (.int (187 : Int32)), (.int (191 : Int32)), (.int (60 : Int32)), (.int (254 : Int32)), (.int (255 : Int32)), (.int (0 : Int32)), (.int (60 : Int32)), (.int (255 : Int32)), (.int (254 : Int32)), (.int (0 : Int32)), (.int (0 : Int32)), (.int (0 : Int32)), (.int (0 : Int32)), (.int (0 : Int32)), (.int (0 : Int32)), (.int (0 : Int32)), (.int (0 : Int32)), (.int (0 : Int32)), (.int (0 : Int32)), (.int (0 : Int32)), (.int (0 : Int32)), (.int (0 : Int32)), (.int (0 : Int32)), (.int (0 : Int32)), (.int (0 : Int32)), (.int (0 : Int32)), (.int (0 : Int32)), (.int (0 : Int32)), (.int (0 : Int32)), (.int (0 : Int32)), (.int (0 : Int32))] (.int (0 : Int32)) := A_o1
  have Kp := Kp.wr W (Or.inr sz_o1)
  refine s_dup 65 C X d2_64 rfl ?_
  refine s_bipush 67 C X d2_65 kc_bipush_10 ?_
  refine s_bipush 69 C X d2_67 kc_bipush_63 ?_
  refine s_iastore 70 10 C X d2_69 A_o1 g_o1 ⟨by decide, by decide⟩ rfl (Nat.le_of_ble_eq_true rfl) (fun T hh X W A_o1 => ?_)
  have A_o1 : Arv Z _ o1 k_o1 .int (32 : Int32) [(.int (239 : Int32)), (.int (187 : Int32)), (.int (191 : Int32)), (.int (60 : Int32)), (.int (254 : Int32)), (.int (255 : Int32)), (.int (0 : Int32)), (.int (60 : Int32)), (.int (255 : Int32)), (.int (254 : Int32)), (.int (63 : Int32)), (.int (0 : Int32)), (.int (0 : Int32)), (.int (0 : Int32)), (.int (0 : Int32)), (.int (0 : Int32)), (.int (0 : Int32)), (.int (0 : Int32)), (.int (0 : Int32)), (.int (0 : Int32)), (.int (0 : Int32)), (.int (0 : Int32)), (.int (0 : Int32)), (.int (0 : Int32)), (.int (0 : Int32)), (.int (0 : Int32)), (.int (0 : Int32)), (.int (0 : Int32)), (.int (0 : Int32)), (.int (0 : Int32)), (.int (0 : Int32)), (.int (0 : Int32))] (.int (0 : Int32)) := A_o1
  have Kp := Kp.wr W (Or.inr sz_o1)
  refine s_dup 71 C X d2_70 rfl ?_
  refine s_bipush 73 C X d2_71 kc_bipush_11 ?_
  refine s_iconst 74 C X d2_73 kc_iconst_0 ?_
  refine s_iastore 75 11 C X d2_74 A_o1 g_o1 ⟨by decide, by decide⟩ rfl (Nat.le_of_ble_eq_true rfl) (fun T hh X W A_o1 => ?_)
  have A_o1 : Arv Z _ o1 k_o1 .int (32 : Int32) [(.int (239 : Int32)), (.int (187 : Int32)), (.int (191 : Int32)), (.int (60 : Int32)), (.int (254 : Int32)), (.int (255 : Int32)), (.int (0 : Int32)), (.int (60 : Int32)), (.int (255 : Int32)), (.int (254 : Int32)), (.int (63 : Int32)), (.int (0 : Int32)), (.int (0 : Int32)), (.int (0 : Int32)), (.int (0 : Int32)), (.int (0 : Int32)), (.int (0 : Int32)), (.int (0 : Int32)), (.int (0 : Int32)), (.int (0 : Int32)), (.int (0 : Int32)), (.int (0 : Int32)), (.int (0 : Int32)), (.int (0 : Int32)), (.int (0 : Int32)), (.int (0 : Int32)), (.int (0 : Int32)), (.int (0 : Int32)), (.int (0 : Int32)), (.int (0 : Int32)), (.int (0 : Int32)), (.int (0 : Int32))] (.int (0 : Int32)) := A_o1
  have Kp := Kp.wr W (Or.inr sz_o1)
  refine s_dup 76 C X d2_75 rfl ?_
  refine s_bipush 78 C X d2_76 kc_bipush_12 ?_
  refine s_iconst 79 C X d2_78 kc_iconst_0 ?_
  refine s_iastore 80 12 C X d2_79 A_o1 g_o1 ⟨by decide, by decide⟩ rfl (Nat.le_of_ble_eq_true rfl) (fun T hh X W A_o1 => ?_)
  have A_o1 : Arv Z _ o1 k_o1 .int (32 : Int32) [(.int (239 : Int32)), (.int (187 : Int32)), (.int (191 : Int32)), (.int (60 : Int32)), (.int (254 : Int32)), (.int (255 : Int32)), (.int (0 : Int32)), (.int (60 : Int32)), (.int (255 : Int32)), (.int (254 : Int32)), (.int (63 : Int32)), (.int (0 : Int32)), (.int (0 : Int32)), (.int (0 : Int32)), (.int (0 : Int32)), (.int (0 : Int32)), (.int (0 : Int32)), (.int (0 : Int32)), (.int (0 : Int32)), (.int (0 : Int32)), (.int (0 : Int32)), (.int (0 : Int32)), (.int (0 : Int32)), (.int (0 : Int32)), (.int (0 : Int32)), (.int (0 : Int32)), (.int (0 : Int32)), (.int (0 : Int32)), (.int (0 : Int32)), (.int (0 : Int32)), (.int (0 : Int32)), (.int (0 : Int32))] (.int (0 : Int32)) := A_o1
  have Kp := Kp.wr W (Or.inr sz_o1)
  refine s_dup 81 C X d2_80 rfl ?_
  refine s_bipush 83 C X d2_81 kc_bipush_13 ?_
  refine s_bipush 85 C X d2_83 kc_bipush_60 ?_
  refine s_iastore 86 13 C X d2_85 A_o1 g_o1 ⟨by decide, by decide⟩ rfl (Nat.le_of_ble_eq_true rfl) (fun T hh X W A_o1 => ?_)
  have A_o1 : Arv Z _ o1 k_o1 .int (32 : Int32) [(.int (239 : Int32)), (.int (187 : Int32)), (.int (191 : Int32)), (.int (60 : Int32)), (.int (254 : Int32)), (.int (255 : Int32)), (.int (0 : Int32)), (.int (60 : Int32)), (.int (255 : Int32)), (.int (254 : Int32)), (.int (63 : Int32)), (.int (0 : Int32)), (.int (0 : Int32)), (.int (60 : Int32)), (.int (0 : Int32)), (.int (0 : Int32)), (.int (0 : Int32)), (.int (0 : Int32)), (.int (0 : Int32)), (.int (0 : Int32)), (.int (0 : Int32)), (.int (0 : Int32)), (.int (0 : Int32)), (.int (0 : Int32)), (.int (0 : Int32)), (.int (0 : Int32)), (.int (0 : Int32)), (.int (0 : Int32)), (.int (0 : Int32)), (.int (0 : Int32)), (.int (0 : Int32)), (.int (0 : Int32))] (.int (0 : Int32)) := A_o1
  have Kp := Kp.wr W (Or.inr sz_o1)
  refine s_dup 87 C X d2_86 rfl ?_
  refine s_bipush 89 C X d2_87 kc_bipush_14 ?_
  refine s_iconst 90 C X d2_89 kc_iconst_0 ?_
  refine s_iastore 91 14 C X d2_90 A_o1 g_o1 ⟨by decide, by decide⟩ rfl (Nat.le_of_ble_eq_true rfl) (fun T hh X W A_o1 => ?_)
  have A_o1 : Arv Z _ o1 k_o1 .int (32 : Int32) [(.int (239 : Int32)), (.int (187 : Int32)), (.int (191 : Int32)), (.int (60 : Int32)), (.int (254 : Int32)), (.int (255 : Int32)), (.int (0 : Int32)), (.int (60 : Int32)), (.int (255 : Int32)), (.int (254 : Int32)), (.int (63 : Int32)), (.int (0 : Int32)), (.int (0 : Int32)), (.int (60 : Int32)), (.int (0 : Int32)), (.int (0 : Int32)), (.int (0 : Int32)), (.int (0 : Int32)), (.int (0 : Int32)), (.int (0 : Int32)), (.int (0 : Int32)), (.int (0 : Int32)), (.int (0 : Int32)), (.int (0 : Int32)), (.int (0 : Int32)), (.int (0 : Int32)), (.int (0 : Int32)), (.int (0 : Int32)), (.int (0 : Int32)), (.int (0 : Int32)), (.int (0 : Int32)), (.int (0 : Int32))] (.int (0 : Int32)) := A_o1
  have Kp := Kp.wr W (Or.inr sz_o1)
  refine s_dup 92 C X d2_91 rfl ?_
  refine s_bipush 94 C X d2_92 kc_bipush_15 ?_
  refine s_bipush 96 C X d2_94 kc_bipush_63 ?_
  refine s_iastore 97 15 C X d2_96 A_o1 g_o1 ⟨by decide, by decide⟩ rfl (Nat.le_of_ble_eq_true rfl) (fun T hh X W A_o1 => ?_)
  have A_o1 : Arv Z _ o1 k_o1 .int (32 : Int32) [(.int (239 : Int32)), (.int (187 : Int32)), (.int (191 : Int32)), (.int (60 : Int32)), (.int (254 : Int32)), (.int (255 : Int32)), (.int (0 : Int32)), (.int (60 : Int32)), (.int (255 : Int32)), (.int (254 : Int32)), (.int (63 : Int32)), (.int (0 : Int32)), (.int (0 : Int32)), (.int (60 : Int32)), (.int (0 : Int32)), (.int (63 : Int32)), (.int (0 : Int32)), (.int (0 : Int32)), (.int (0 : Int32)), (.int (0 : Int32)), (.int (0 : Int32)), (.int (0 : Int32)), (.int (0 : Int32)), (.int (0 : Int32)), (.int (0 : Int32)), (.int (0 : Int32)), (.int (0 : Int32)), (.int (0 : Int32)), (.int (0 : Int32)), (.int (0 : Int32)), (.int (0 : Int32)), (.int (0 : Int32))] (.int (0 : Int32)) := A_o1
  have Kp := Kp.wr W (Or.inr sz_o1)
  refine s_dup 98 C X d2_97 rfl ?_
  refine s_bipush 100 C X d2_98 kc_bipush_16 ?_
  refine s_bipush 102 C X d2_100 kc_bipush_60 ?_
  refine s_iastore 103 16 C X d2_102 A_o1 g_o1 ⟨by decide, by decide⟩ rfl (Nat.le_of_ble_eq_true rfl) (fun T hh X W A_o1 => ?_)
  have A_o1 : Arv Z _ o1 k_o1 .int (32 : Int32) [(.int (239 : Int32)), (.int (187 : Int32)), (.int (191 : Int32)), (.int (60 : Int32)), (.int (254 : Int32)), (.int (255 : Int32)), (.int (0 : Int32)), (.int (60 : Int32)), (.int (255 : Int32)), (.int (254 : Int32)), (.int (63 : Int32)), (.int (0 : Int32)), (.int (0 : Int32)), (.int (60 : Int32)), (.int (0 : Int32)), (.int (63 : Int32)), (.int (60 : Int32)), (.int (0 : Int32)), (.int (0 : Int32)), (.int (0 : Int32)), (.int (0 : Int32)), (.int (0 : Int32)), (.int (0 : Int32)), (.int (0 : Int32)), (.int (0 : Int32)), (.int (0 : Int32)), (.int (0 : Int32)), (.int (0 : Int32)), (.int (0 : Int32)), (.int (0 : Int32)), (.int (0 : Int32)), (.int (0 : Int32))] (.int (0 : Int32)) := A_o1
  have Kp := Kp.wr W (Or.inr sz_o1)
  refine s_dup 104 C X d2_103 rfl ?_
  refine s_bipush 106 C X d2_104 kc_bipush_17 ?_
  refine s_iconst 107 C X d2_106 kc_iconst_0 ?_
  refine s_iastore 108 17 C X d2_107 A_o1 g_o1 ⟨by decide, by decide⟩ rfl (Nat.le_of_ble_eq_true rfl) (fun T hh X W A_o1 => ?_)
  have A_o1 : Arv Z _ o1 k_o1 .int (32 : Int32) [(.int (239 : Int32)), (.int (187 : Int32)), (.int (191 : Int32)), (.int (60 : Int32)), (.int (254 : Int32)), (.int (255 : Int32)), (.int (0 : Int32)), (.int (60 : Int32)), (.int (255 : Int32)), (.int (254 : Int32)), (.int (63 : Int32)), (.int (0 : Int32)), (.int (0 : Int32)), (.int (60 : Int32)), (.int (0 : Int32)), (.int (63 : Int32)), (.int (60 : Int32)), (.int (0 : Int32)), (.int (0 : Int32)), (.int (0 : Int32)), (.int (0 : Int32)), (.int (0 : Int32)), (.int (0 : Int32)), (.int (0 : Int32)), (.int (0 : Int32)), (.int (0 : Int32)), (.int (0 : Int32)), (.int (0 : Int32)), (.int (0 : Int32)), (.int (0 : Int32)), (.int (0 : Int32)), (.int (0 : Int32))] (.int (0 : Int32)) := A_o1
  have Kp := Kp.wr W (Or.inr sz_o1)
  refine s_dup 109 C X d2_108 rfl ?_
  refine s_bipush 111 C X d2_109 kc_bipush_18 ?_
  refine s_bipush 113 C X d2_111 kc_bipush_63 ?_
  refine s_iastore 114 18 C X d2_113 A_o1 g_o1 ⟨by decide, by decide⟩ rfl (Nat.le_of_ble_eq_true rfl) (fun T hh X W A_o1 => ?_)
  have A_o1 : Arv Z _ o1 k_o1 .int (32 : Int32) [(.int (239 : Int32)), (.int (187 : Int32)), (.int (191 : Int32)), (.int (60 : Int32)), (.int (254 : Int32)), (.int (255 : Int32)), (.int (0 : Int32)), (.int (60 : Int32)), (.int (255 : Int32)), (.int (254 : Int32)), (.int (63 : Int32)), (.int (0 : Int32)), (.int (0 : Int32)), (.int (60 : Int32)), (.int (0 : Int32)), (.int (63 : Int32)), (.int (60 : Int32)), (.int (0 : Int32)), (.int (63 : Int32)), (.int (0 : Int32)), (.int (0 : Int32)), (.int (0 : Int32)), (.int (0 : Int32)), (.int (0 : Int32)), (.int (0 : Int32)), (.int (0 : Int32)), (.int (0 : Int32)), (.int (0 : Int32)), (.int (0 : Int32)), (.int (0 : Int32)), (.int (0 : Int32)), (.int (0 : Int32))] (.int (0 : Int32)) := A_o1
  have Kp := Kp.wr W (Or.inr sz_o1)
  refine s_dup 115 C X d2_114 rfl ?_
  refine s_bipush 117 C X d2_115 kc_bipush_19 ?_
  refine s_iconst 118 C X d2_117 kc_iconst_0 ?_
  refine s_iastore 119 19 C X d2_118 A_o1 g_o1 ⟨by decide, by decide⟩ rfl (Nat.le_of_ble_eq_true rfl) (fun T hh X W A_o1 => ?_)
  have A_o1 : Arv Z _ o1 k_o1 .int (32 : Int32) [(.int (239 : Int32)), (.int (187 : Int32)), (.int (191 : Int32)), (.int (60 : Int32)), (.int (254 : Int32)), (.int (255 : Int32)), (.int (0 : Int32)), (.int (60 : Int32)), (.int (255 : Int32)), (.int (254 : Int32)), (.int (63 : Int32)), (.int (0 : Int32)), (.int (0 : Int32)), (.int (60 : Int32)), (.int (0 : Int32)), (.int (63 : Int32)), (.int (60 : Int32)), (.int (0 : Int32)), (.int (63 : Int32)), (.int (0 : Int32)), (.int (0 : Int32)), (.int (0 : Int32)), (.int (0 : Int32)), (.int (0 : Int32)), (.int (0 : Int32)), (.int (0 : Int32)), (.int (0 : Int32)), (.int (0 : Int32)), (.int (0 : Int32)), (.int (0 : Int32)), (.int (0 : Int32)), (.int (0 : Int32))] (.int (0 : Int32)) := A_o1
  have Kp := Kp.wr W (Or.inr sz_o1)
  refine s_dup 120 C X d2_119 rfl ?_
  refine s_bipush 122 C X d2_120 kc_bipush_20 ?_
  refine s_iconst 123 C X d2_122 kc_iconst_0 ?_
  refine s_iastore 124 20 C X d2_123 A_o1 g_o1 ⟨by decide, by decide⟩ rfl (Nat.le_of_ble_eq_true rfl) (fun T hh X W A_o1 => ?_)
  have A_o1 : Arv Z _ o1 k_o1 .int (32 : Int32) [(.int (239 : Int32)), (.int (187 : Int32)), (.int (191 : Int32)), (.int (60 : Int32)), (.int (254 : Int32)), (.int (255 : Int32)), (.int (0 : Int32)), (.int (60 : Int32)), (.int (255 : Int32)), (.int (254 : Int32)), (.int (63 : Int32)), (.int (0 : Int32)), (.int (0 : Int32)), (.int (60 : Int32)), (.int (0 : Int32)), (.int (63 : Int32)), (.int (60 : Int32)), (.int (0 : Int32)), (.int (63 : Int32)), (.int (0 : Int32)), (.int (0 : Int32)), (.int (0 : Int32)), (.int (0 : Int32)), (.int (0 : Int32)), (.int (0 : Int32)), (.int (0 : Int32)), (.int (0 : Int32)), (.int (0 : Int32)), (.int (0 : Int32)), (.int (0 : Int32)), (.int (0 : Int32)), (.int (0 : Int32))] (.int (0 : Int32)) := A_o1
  have Kp := Kp.wr W (Or.inr sz_o1)
  refine s_dup 125 C X d2_124 rfl ?_
  refine s_bipush 127 C X d2_125 kc_bipush_21 ?_
  refine s_iconst 128 C X d2_127 kc_iconst_0 ?_
  refine s_iastore 129 21 C X d2_128 A_o1 g_o1 ⟨by decide, by decide⟩ rfl (Nat.le_of_ble_eq_true rfl) (fun T hh X W A_o1 => ?_)
  have A_o1 : Arv Z _ o1 k_o1 .int (32 : Int32) [(.int (239 : Int32)), (.int (187 : Int32)), (.int (191 : Int32)), (.int (60 : Int32)), (.int (254 : Int32)), (.int (255 : Int32)), (.int (0 : Int32)), (.int (60 : Int32)), (.int (255 : Int32)), (.int (254 : Int32)), (.int (63 : Int32)), (.int (0 : Int32)), (.int (0 : Int32)), (.int (60 : Int32)), (.int (0 : Int32)), (.int (63 : Int32)), (.int (60 : Int32)), (.int (0 : Int32)), (.int (63 : Int32)), (.int (0 : Int32)), (.int (0 : Int32)), (.int (0 : Int32)), (.int (0 : Int32)), (.int (0 : Int32)), (.int (0 : Int32)), (.int (0 : Int32)), (.int (0 : Int32)), (.int (0 : Int32)), (.int (0 : Int32)), (.int (0 : Int32)), (.int (0 : Int32)), (.int (0 : Int32))] (.int (0 : Int32)) := A_o1
  have Kp := Kp.wr W (Or.inr sz_o1)
  refine s_dup 130 C X d2_129 rfl ?_
  refine s_bipush 132 C X d2_130 kc_bipush_22 ?_
  refine s_iconst 133 C X d2_132 kc_iconst_0 ?_
  refine s_iastore 134 22 C X d2_133 A_o1 g_o1 ⟨by decide, by decide⟩ rfl (Nat.le_of_ble_eq_true rfl) (fun T hh X W A_o1 => ?_)
  have A_o1 : Arv Z _ o1 k_o1 .int (32 : Int32) [(.int (239 : Int32)), (.int (187 : Int32)), (.int (191 : Int32)), (.int (60 : Int32)), (.int (254 : Int32)), (.int (255 : Int32)), (.int (0 : Int32)), (.int (60 : Int32)), (.int (255 : Int32)), (.int (254 : Int32)), (.int (63 : Int32)), (.int (0 : Int32)), (.int (0 : Int32)), (.int (60 : Int32)), (.int (0 : Int32)), (.int (63 : Int32)), (.int (60 : Int32)), (.int (0 : Int32)), (.int (63 : Int32)), (.int (0 : Int32)), (.int (0 : Int32)), (.int (0 : Int32)), (.int (0 : Int32)), (.int (0 : Int32)), (.int (0 : Int32)), (.int (0 : Int32)), (.int (0 : Int32)), (.int (0 : Int32)), (.int (0 : Int32)), (.int (0 : Int32)), (.int (0 : Int32)), (.int (0 : Int32))] (.int (0 : Int32)) := A_o1
  have Kp := Kp.wr W (Or.inr sz_o1)
  refine s_dup 135 C X d2_134 rfl ?_
  refine s_bipush 137 C X d2_135 kc_bipush_23 ?_
  refine s_bipush 139 C X d2_137 kc_bipush_60 ?_
  refine s_iastore 140 23 C X d2_139 A_o1 g_o1 ⟨by decide, by decide⟩ rfl (Nat.le_of_ble_eq_true rfl) (fun T hh X W A_o1 => ?_)
  have A_o1 : Arv Z _ o1 k_o1 .int (32 : Int32) [(.int (239 : Int32)), (.int (187 : Int32)), (.int (191 : Int32)), (.int (60 : Int32)), (.int (254 : Int32)), (.int (255 : Int32)), (.int (0 : Int32)), (.int (60 : Int32)), (.int (255 : Int32)), (.int (254 : Int32)), (.int (63 : Int32)), (.int (0 : Int32)), (.int (0 : Int32)), (.int (60 : Int32)), (.int (0 : Int32)), (.int (63 : Int32)), (.int (60 : Int32)), (.int (0 : Int32)), (.int (63 : Int32)), (.int (0 : Int32)), (.int (0 : Int32)), (.int (0 : Int32)), (.int (0 : Int32)), (.int (60 : Int32)), (.int (0 : Int32)), (.int (0 : Int32)), (.int (0 : Int32)), (.int (0 : Int32)), (.int (0 : Int32)), (.int (0 : Int32)), (.int (0 : Int32)), (.int (0 : Int32))] (.int (0 : Int32)) := A_o1
  have Kp := Kp.wr W (Or.inr sz_o1)
  refine s_dup 141 C X d2_140 rfl ?_
  refine s_bipush 143 C X d2_141 kc_bipush_24 ?_
  refine s_bipush 145 C X d2_143 kc_bipush_60 ?_
  refine s_iastore 146 24 C X d2_145 A_o1 g_o1 ⟨by decide, by decide⟩ rfl (Nat.le_of_ble_eq_true rfl) (fun T hh X W A_o1 => ?_)
  have A_o1 : Arv Z _ o1 k_o1 .int (32 : Int32) [(.int (239 : Int32)), (.int (187 : Int32)), (.int (191 : Int32)), (.int (60 : Int32)), (.int (254 : Int32)), (.int (255 : Int32)), (.int (0 : Int32)), (.int (60 : Int32)), (.int (255 : Int32)), (.int (254 : Int32)), (.int (63 : Int32)), (.int (0 : Int32)), (.int (0 : Int32)), (.int (60 : Int32)), (.int (0 : Int32)), (.int (63 : Int32)), (.int (60 : Int32)), (.int (0 : Int32)), (.int (63 : Int32)), (.int (0 : Int32)), (.int (0 : Int32)), (.int (0 : Int32)), (.int (0 : Int32)), (.int (60 : Int32)), (.int (60 : Int32)), (.int (0 : Int32)), (.int (0 : Int32)), (.int (0 : Int32)), (.int (0 : Int32)), (.int (0 : Int32)), (.int (0 : Int32)), (.int (0 : Int32))] (.int (0 : Int32)) := A_o1
  have Kp := Kp.wr W (Or.inr sz_o1)
  refine s_dup 147 C X d2_146 rfl ?_
  refine s_bipush 149 C X d2_147 kc_bipush_25 ?_
  refine s_iconst 150 C X d2_149 kc_iconst_0 ?_
  refine s_iastore 151 25 C X d2_150 A_o1 g_o1 ⟨by decide, by decide⟩ rfl (Nat.le_of_ble_eq_true rfl) (fun T hh X W A_o1 => ?_)
  have A_o1 : Arv Z _ o1 k_o1 .int (32 : Int32) [(.int (239 : Int32)), (.int (187 : Int32)), (.int (191 : Int32)), (.int (60 : Int32)), (.int (254 : Int32)), (.int (255 : Int32)), (.int (0 : Int32)), (.int (60 : Int32)), (.int (255 : Int32)), (.int (254 : Int32)), (.int (63 : Int32)), (.int (0 : Int32)), (.int (0 : Int32)), (.int (60 : Int32)), (.int (0 : Int32)), (.int (63 : Int32)), (.int (60 : Int32)), (.int (0 : Int32)), (.int (63 : Int32)), (.int (0 : Int32)), (.int (0 : Int32)), (.int (0 : Int32)), (.int (0 : Int32)), (.int (60 : Int32)), (.int (60 : Int32)), (.int (0 : Int32)), (.int (0 : Int32)), (.int (0 : Int32)), (.int (0 : Int32)), (.int (0 : Int32)), (.int (0 : Int32)), (.int (0 : Int32))] (.int (0 : Int32)) := A_o1
  have Kp := Kp.wr W (Or.inr sz_o1)
  refine s_dup 152 C X d2_151 rfl ?_
  refine s_bipush 154 C X d2_152 kc_bipush_26 ?_
  refine s_iconst 155 C X d2_154 kc_iconst_0 ?_
  refine s_iastore 156 26 C X d2_155 A_o1 g_o1 ⟨by decide, by decide⟩ rfl (Nat.le_of_ble_eq_true rfl) (fun T hh X W A_o1 => ?_)
  have A_o1 : Arv Z _ o1 k_o1 .int (32 : Int32) [(.int (239 : Int32)), (.int (187 : Int32)), (.int (191 : Int32)), (.int (60 : Int32)), (.int (254 : Int32)), (.int (255 : Int32)), (.int (0 : Int32)), (.int (60 : Int32)), (.int (255 : Int32)), (.int (254 : Int32)), (.int (63 : Int32)), (.int (0 : Int32)), (.int (0 : Int32)), (.int (60 : Int32)), (.int (0 : Int32)), (.int (63 : Int32)), (.int (60 : Int32)), (.int (0 : Int32)), (.int (63 : Int32)), (.int (0 : Int32)), (.int (0 : Int32)), (.int (0 : Int32)), (.int (0 : Int32)), (.int (60 : Int32)), (.int (60 : Int32)), (.int (0 : Int32)), (.int (0 : Int32)), (.int (0 : Int32)), (.int (0 : Int32)), (.int (0 : Int32)), (.int (0 : Int32)), (.int (0 : Int32))] (.int (0 : Int32)) := A_o1
  have Kp := Kp.wr W (Or.inr sz_o1)
  refine s_dup 157 C X d2_156 rfl ?_
  refine s_bipush 159 C X d2_157 kc_bipush_27 ?_
  refine s_iconst 160 C X d2_159 kc_iconst_0 ?_
  refine s_iastore 161 27 C X d2_160 A_o1 g_o1 ⟨by decide, by decide⟩ rfl (Nat.le_of_ble_eq_true rfl) (fun T hh X W A_o1 => ?_)
  have A_o1 : Arv Z _ o1 k_o1 .int (32 : Int32) [(.int (239 : Int32)), (.int (187 : Int32)), (.int (191 : Int32)), (.int (60 : Int32)), (.int (254 : Int32)), (.int (255 : Int32)), (.int (0 : Int32)), (.int (60 : Int32)), (.int (255 : Int32)), (.int (254 : Int32)), (.int (63 : Int32)), (.int (0 : Int32)), (.int (0 : Int32)), (.int (60 : Int32)), (.int (0 : Int32)), (.int (63 : Int32)), (.int (60 : Int32)), (.int (0 : Int32)), (.int (63 : Int32)), (.int (0 : Int32)), (.int (0 : Int32)), (.int (0 : Int32)), (.int (0 : Int32)), (.int (60 : Int32)), (.int (60 : Int32)), (.int (0 : Int32)), (.int (0 : Int32)), (.int (0 : Int32)), (.int (0 : Int32)), (.int (0 : Int32)), (.int (0 : Int32)), (.int (0 : Int32))] (.int (0 : Int32)) := A_o1
  have Kp := Kp.wr W (Or.inr sz_o1)
  refine s_dup 162 C X d2_161 rfl ?_
  refine s_bipush 164 C X d2_162 kc_bipush_28 ?_
  refine s_bipush 166 C X d2_164 kc_bipush_76 ?_
  refine s_iastore 167 28 C X d2_166 A_o1 g_o1 ⟨by decide, by decide⟩ rfl (Nat.le_of_ble_eq_true rfl) (fun T hh X W A_o1 => ?_)
  have A_o1 : Arv Z _ o1 k_o1 .int (32 : Int32) [(.int (239 : Int32)), (.int (187 : Int32)), (.int (191 : Int32)), (.int (60 : Int32)), (.int (254 : Int32)), (.int (255 : Int32)), (.int (0 : Int32)), (.int (60 : Int32)), (.int (255 : Int32)), (.int (254 : Int32)), (.int (63 : Int32)), (.int (0 : Int32)), (.int (0 : Int32)), (.int (60 : Int32)), (.int (0 : Int32)), (.int (63 : Int32)), (.int (60 : Int32)), (.int (0 : Int32)), (.int (63 : Int32)), (.int (0 : Int32)), (.int (0 : Int32)), (.int (0 : Int32)), (.int (0 : Int32)), (.int (60 : Int32)), (.int (60 : Int32)), (.int (0 : Int32)), (.int (0 : Int32)), (.int (0 : Int32)), (.int (76 : Int32)), (.int (0 : Int32)), (.int (0 : Int32)), (.int (0 : Int32))] (.int (0 : Int32)) := A_o1
  have Kp := Kp.wr W (Or.inr sz_o1)
  refine s_dup 168 C X d2_167 rfl ?_
  refine s_bipush 170 C X d2_168 kc_bipush_29 ?_
  refine s_bipush 172 C X d2_170 kc_bipush_111 ?_
  refine s_iastore 173 29 C X d2_172 A_o1 g_o1 ⟨by decide, by decide⟩ rfl (Nat.le_of_ble_eq_true rfl) (fun T hh X W A_o1 => ?_)
  have A_o1 : Arv Z _ o1 k_o1 .int (32 : Int32) [(.int (239 : Int32)), (.int (187 : Int32)), (.int (191 : Int32)), (.int (60 : Int32)), (.int (254 : Int32)), (.int (255 : Int32)), (.int (0 : Int32)), (.int (60 : Int32)), (.int (255 : Int32)), (.int (254 : Int32)), (.int (63 : Int32)), (.int (0 : Int32)), (.int (0 : Int32)), (.int (60 : Int32)), (.int (0 : Int32)), (.int (63 : Int32)), (.int (60 : Int32)), (.int (0 : Int32)), (.int (63 : Int32)), (.int (0 : Int32)), (.int (0 : Int32)), (.int (0 : Int32)), (.int (0 : Int32)), (.int (60 : Int32)), (.int (60 : Int32)), (.int (0 : Int32)), (.int (0 : Int32)), (.int (0 : Int32)), (.int (76 : Int32)), (.int (111 : Int32)), (.int (0 : Int32)), (.int (0 : Int32))] (.int (0 : Int32)) := A_o1
  have Kp := Kp.wr W (Or.inr sz_o1)
  refine s_dup 174 C X d2_173 rfl ?_
  refine s_bipush 176 C X d2_174 kc_bipush_30 ?_
  refine s_sipush 179 C X d2_176 kc_sipush_167 ?_
  refine s_iastore 180 30 C X d2_179 A_o1 g_o1 ⟨by decide, by decide⟩ rfl (Nat.le_of_ble_eq_true rfl) (fun T hh X W A_o1 => ?_)
  have A_o1 : Arv Z _ o1 k_o1 .int (32 : Int32) [(.int (239 : Int32)), (.int (187 : Int32)), (.int (191 : Int32)), (.int (60 : Int32)), (.int (254 : Int32)), (.int (255 : Int32)), (.int (0 : Int32)), (.int (60 : Int32)), (.int (255 : Int32)), (.int (254 : Int32)), (.int (63 : Int32)), (.int (0 : Int32)), (.int (0 : Int32)), (.int (60 : Int32)), (.int (0 : Int32)), (.int (63 : Int32)), (.int (60 : Int32)), (.int (0 : Int32)), (.int (63 : Int32)), (.int (0 : Int32)), (.int (0 : Int32)), (.int (0 : Int32)), (.int (0 : Int32)), (.int (60 : Int32)), (.int (60 : Int32)), (.int (0 : Int32)), (.int (0 : Int32)), (.int (0 : Int32)), (.int (76 : Int32)), (.int (111 : Int32)), (.int (167 : Int32)), (.int (0 : Int32))] (.int (0 : Int32)) := A_o1
  have Kp := Kp.wr W (Or.inr sz_o1)
  refine s_dup 181 C X d2_180 rfl ?_
  refine s_bipush 183 C X d2_181 kc_bipush_31 ?_
  refine s_sipush 186 C X d2_183 kc_sipush_148 ?_
  refine s_iastore 187 31 C X d2_186 A_o1 g_o1 ⟨by decide, by decide⟩ rfl (Nat.le_of_ble_eq_true rfl) (fun T hh X W A_o1 => ?_)
  have A_o1 : Arv Z _ o1 k_o1 .int (32 : Int32) [(.int (239 : Int32)), (.int (187 : Int32)), (.int (191 : Int32)), (.int (60 : Int32)), (.int (254 : Int32)), (.int (255 : Int32)), (.int (0 : Int32)), (.int (60 : Int32)), (.int (255 : Int32)), (.int (254 : Int32)), (.int (63 : Int32)), (.int (0 : Int32)), (.int (0 : Int32)), (.int (60 : Int32)), (.int (0 : Int32)), (.int (63 : Int32)), (.int (60 : Int32)), (.int (0 : Int32)), (.int (63 : Int32)), (.int (0 : Int32)), (.int (0 : Int32)), (.int (0 : Int32)), (.int (0 : Int32)), (.int (60 : Int32)), (.int (60 : Int32)), (.int (0 : Int32)), (.int (0 : Int32)), (.int (0 : Int32)), (.int (76 : Int32)), (.int (111 : Int32)), (.int (167 : Int32)), (.int (148 : Int32))] (.int (0 : Int32)) := A_o1
  have Kp := Kp.wr W (Or.inr sz_o1)
  refine s_astoreN 188 C X (l' := #[.val (.int k), .val (.int i), .val (.ref o1)]) d2_187 rfl rfl ?_
  refine s_aloadN 189 C X d2_188 rfl rfl ?_
  refine s_iloadN 190 C X d2_189 rfl ?_
  refine s_iconst 191 C X d2_190 kc_iconst_4 ?_
  refine s_imul 192 C X d2_191 ?_
  refine s_iloadN 193 C X d2_192 rfl ?_
  refine s_iadd 194 C X d2_193 ?_
  have r32 := own_32 (own_idx i hk hi)
  have hall : ∀ j : Fin 32, okB (([(.int (239 : Int32)), (.int (187 : Int32)), (.int (191 : Int32)), (.int (60 : Int32)), (.int (254 : Int32)), (.int (255 : Int32)), (.int (0 : Int32)), (.int (60 : Int32)), (.int (255 : Int32)), (.int (254 : Int32)), (.int (63 : Int32)), (.int (0 : Int32)), (.int (0 : Int32)), (.int (60 : Int32)), (.int (0 : Int32)), (.int (63 : Int32)), (.int (60 : Int32)), (.int (0 : Int32)), (.int (63 : Int32)), (.int (0 : Int32)), (.int (0 : Int32)), (.int (0 : Int32)), (.int (0 : Int32)), (.int (60 : Int32)), (.int (60 : Int32)), (.int (0 : Int32)), (.int (0 : Int32)), (.int (0 : Int32)), (.int (76 : Int32)), (.int (111 : Int32)), (.int (167 : Int32)), (.int (148 : Int32))] : List Value).getD j.val (.int 0)) = true := by decide
  obtain ⟨z, hz1, hz2, hz3⟩ := own_okB (hall ⟨_, r32.2⟩)
  refine s_iaload 195 C X d2_194 A_o1 r32.1 (v := (.int z)) hz1 ?_
  refine s_ireturn C X d2_195 rfl ?_
  exact ⟨z, rfl, hz2, hz3, Kp⟩
set_option maxRecDepth 65536 in
set_option maxHeartbeats 40000000 in
theorem rm_pick (l : Launch) (Z : State) (a0 : Array Value) (hw : ∀ d ∈ tables_1, d.before a0 Z = true) (t k i b : Int32) (h0 : Heap) (n0 : Nat) (Z0 : n0 ≤ h0.size) (hk : 0 ≤ k.toInt ∧ k.toInt ≤ 7) (hi : 0 ≤ i.toInt ∧ i.toInt ≤ 3) :
    Met l Z (⟨"com/example/shapelint/shapelint/io/XmlEncodingFamilyOfPinLaw", "pick", "(IIII)I"⟩ : MethodName) method_3_code 4 (some .int) { frames := 1, cells := 1, slots := 32, locals := 14 } [] #[(.int t), (.int k), (.int i), (.int b)] h0 n0 (fun v h => ∃ z : Int32, v = some (.int z) ∧ 0 ≤ z.toInt ∧ z.toInt ≤ 255 ∧ Keep h0 h []) := by
  refine Met.mk (tabs := tables_1) (a0 := a0) (ls0 := #[.val (.int t), .val (.int k), .val (.int i), .val (.int b)]) (plainFor_of_name pn_com_example_shapelint_shapelint_io_XmlEncodingFamilyOfPinLaw) hw Z0 (fun m => by first | (simp [entryFrame, mkF, argsToLocals, Value.category]; done) | rfl) ?_
  intro p e s m below meth c T C X
  have Kp : Keep h0 h0 [] := Keep.refl _ _
  refine s_iloadN 1 C X d1_0 rfl ?_
  refine s_iconst 2 C X d1_1 kc_iconst_3 ?_
  refine s_iloadN 3 C X d1_2 rfl ?_
  refine s_iadd 4 C X d1_3 ?_
  refine s_iushr 5 C X d1_4 ?_
  refine s_iconst 6 C X d1_5 kc_iconst_1 ?_
  refine s_iand 7 C X d1_6 ?_
  refine s_if_ne 18 10 C X d1_7 (fun c7 => ?_) (fun c7 => ?_)
  · have t_c7 : ¬ (((((t).toUInt32 >>> (((3 : Int32) + i) &&& 31).toUInt32).toInt32 &&& (1 : Int32))).toInt = (0 : Int)) := fun q => c7 (Int32.toInt_inj.mp q)
    refine s_iloadN 19 C X d1_18 rfl ?_
    refine s_sipush 22 C X d1_19 kc_sipush_255 ?_
    refine s_iand 23 C X d1_22 ?_
    refine s_ireturn C X d1_23 rfl ?_
    exact ⟨_, rfl, (own_255 b).1, (own_255 b).2, Kp⟩
  have t_c7 : ((((t).toUInt32 >>> (((3 : Int32) + i) &&& 31).toUInt32).toInt32 &&& (1 : Int32))).toInt = (0 : Int) := congrArg Int32.toInt c7
  refine s_iloadN 11 C X d1_10 rfl ?_
  refine s_iloadN 12 C X d1_11 rfl ?_
  refine s_callS 15 [(.int k), (.int i)] [] 0 C X d1_12 (List.mem_of_getElem? (i := 4) rfl) (List.mem_of_getElem? (i := 5) rfl) (List.mem_of_getElem? (i := 2) rfl) (List.mem_of_getElem? (i := 6) rfl) (rm_tpl l Z a0 hw k i _ n0 X.sz hk hi) (lenOf pd__II_I rfl) rfl rfl rfl (fun T v hh X q => ?_)
  obtain ⟨z, rfl, hz2, hz3, Kc⟩ := q
  have Kp := Kp.trans Kc all0
  refine Run.cast (st' := [(.int z)]) rfl ?_
  refine s_goto 23 C X d1_15 ?_
  refine s_ireturn C X d1_23 rfl ?_
  exact ⟨_, rfl, hz2, hz3, Kp⟩
set_option maxRecDepth 65536 in
set_option maxHeartbeats 40000000 in
theorem rm_values (l : Launch) (Z : State) (a0 : Array Value) (hw : ∀ d ∈ tables_1, d.before a0 Z = true) (av : Addr) (k_av : ClassId) (f0 f1 f2 f3 f4 f5 : Addr) (h0 : Heap) (n0 : Nat) (Z0 : n0 ≤ h0.size) (Od : Old Z n0 h0) (S_V : Sta Z Z.heap "com/example/shapelint/shapelint/io/XmlEncodingFamily" "$VALUES" "[Lcom/example/shapelint/shapelint/io/XmlEncodingFamily;" (.ref av)) (A_av : Arv Z h0 av k_av (.object "com/example/shapelint/shapelint/io/XmlEncodingFamily") 6 [(.ref f0), (.ref f1), (.ref f2), (.ref f3), (.ref f4), (.ref f5)] .null) (E_av : Exa Z h0 av "[Lcom/example/shapelint/shapelint/io/XmlEncodingFamily;") :
    Met l Z (⟨"com/example/shapelint/shapelint/io/XmlEncodingFamily", "values", "()[Lcom/example/shapelint/shapelint/io/XmlEncodingFamily;"⟩ : MethodName) prog_14_method_1_code 0 (some (.array (.object "com/example/shapelint/shapelint/io/XmlEncodingFamily"))) { frames := 1, cells := 1, slots := 6, locals := 14 } [] #[] h0 n0 (fun v h => ∃ o, v = some (.ref o) ∧ Keep h0 h [] ∧ Arv Z h o k_av (.object "com/example/shapelint/shapelint/io/XmlEncodingFamily") 6 [(.ref f0), (.ref f1), (.ref f2), (.ref f3), (.ref f4), (.ref f5)] .null) := by
  refine Met.mk (tabs := tables_1) (a0 := a0) (ls0 := #[]) (plainFor_of_name pn_com_example_shapelint_shapelint_io_XmlEncodingFamily) hw Z0 (fun m => by first | (simp [entryFrame, mkF, argsToLocals, Value.category]; done) | rfl) ?_
  intro p e s m below meth c T C X
  have Kp : Keep h0 h0 [] := Keep.refl _ _
  refine s_getstatic 3 C X (host := "") d4_0 (Or.inl (List.mem_of_getElem? (i := 19) rfl)) Via.refl (S_V.ext Od.2) (fun T X => ?_)
  refine s_clone 6 6 0 C X d4_3 (List.mem_of_getElem? (i := 21) rfl) (List.mem_of_getElem? (i := 22) rfl) (List.mem_of_getElem? (i := 26) rfl) (List.mem_of_getElem? (i := 24) rfl) (List.mem_of_getElem? (i := 25) rfl) (List.mem_of_getElem? (i := 27) rfl) A_av E_av rfl rfl (by decide) (fun T _ o9 hb_o9 X E A_o9 E_o9 g_o9 => ?_)
  have ne_av_o9 : av ≠ o9 := Nat.ne_of_lt (Nat.lt_of_lt_of_le A_av.lt (Nat.le_of_eq hb_o9))
  have sz_o9 := Nat.le_trans Kp.1 (Nat.le_of_eq hb_o9)
  have Od := Od.ext E
  have A_av := A_av.ext E
  have E_av := E_av.ext E
  have Kp := Kp.ext E
  refine s_castY 9 C X d4_6 (List.mem_of_getElem? (i := 33) rfl) (Ins.self E_o9) (fun T X => ?_)
  refine s_areturn C X d4_9 rfl rfl rfl ?_
  exact ⟨o9, rfl, Kp, A_o9⟩
set_option maxRecDepth 65536 in
set_option maxHeartbeats 40000000 in
theorem rm_of (l : Launch) (Z : State) (a0 : Array Value) (hw : ∀ d ∈ tables_1, d.before a0 Z = true) (a : Addr) (na : Int32) (k_a : ClassId) (va : List Value) (fa : Nat → Int32) (av : Addr) (k_av : ClassId) (f0 f1 f2 f3 f4 f5 : Addr) (b0 g0 : Addr) (k_b0 k_g0 : ClassId) (vb0 vg0 : List Value) (b1 g1 : Addr) (k_b1 k_g1 : ClassId) (vb1 vg1 : List Value) (b2 g2 : Addr) (k_b2 k_g2 : ClassId) (vb2 vg2 : List Value) (b3 g3 : Addr) (k_b3 k_g3 : ClassId) (vb3 vg3 : List Value) (b4 g4 : Addr) (k_b4 k_g4 : ClassId) (vb4 vg4 : List Value) (b5 g5 : Addr) (k_b5 k_g5 : ClassId) (vb5 vg5 : List Value) (h0 : Heap) (n0 : Nat) (Z0 : n0 ≤ h0.size) (Od : Old Z n0 h0) (S_V : Sta Z Z.heap "com/example/shapelint/shapelint/io/XmlEncodingFamily" "$VALUES" "[Lcom/example/shapelint/shapelint/io/XmlEncodingFamily;" (.ref av)) (A_av : Arv Z h0 av k_av (.object "com/example/shapelint/shapelint/io/XmlEncodingFamily") 6 [(.ref f0), (.ref f1), (.ref f2), (.ref f3), (.ref f4), (.ref f5)] .null) (E_av : Exa Z h0 av "[Lcom/example/shapelint/shapelint/io/XmlEncodingFamily;") (S_0 : Sta Z Z.heap "com/example/shapelint/shapelint/io/XmlEncodingFamily" "ASCII_COMPATIBLE" "Lcom/example/shapelint/shapelint/io/XmlEncodingFamily;" (.ref f0)) (A_a : Arv Z h0 a k_a .byte na va (.int 0)) (ha : ∀ i : Nat, (i : Int) < na.toInt → va.getD i (.int 0) = .int (fa i)) (B0 : Fld Z h0 f0 "com/example/shapelint/shapelint/io/XmlEncodingFamily" "_byteOrderMark" "[B" (.ref b0)) (G0 : Fld Z h0 f0 "com/example/shapelint/shapelint/io/XmlEncodingFamily" "_signature" "[B" (.ref g0)) (Ab0 : Arv Z h0 b0 k_b0 .byte 3 vb0 (.int 0)) (Hb0 : ∀ i : Nat, (i : Int) < (3 : Int32).toInt → vb0.getD i (.int 0) = .int (nth4 (-17) (-69) (-65) (0) i)) (Ag0 : Arv Z h0 g0 k_g0 .byte 0 vg0 (.int 0)) (Hg0 : ∀ i : Nat, (i : Int) < (0 : Int32).toInt → vg0.getD i (.int 0) = .int (nth4 (0) (0) (0) (0) i)) (B1 : Fld Z h0 f1 "com/example/shapelint/shapelint/io/XmlEncodingFamily" "_byteOrderMark" "[B" (.ref b1)) (G1 : Fld Z h0 f1 "com/example/shapelint/shapelint/io/XmlEncodingFamily" "_signature" "[B" (.ref g1)) (Ab1 : Arv Z h0 b1 k_b1 .byte 2 vb1 (.int 0)) (Hb1 : ∀ i : Nat, (i : Int) < (2 : Int32).toInt → vb1.getD i (.int 0) = .int (nth4 (-2) (-1) (0) (0) i)) (Ag1 : Arv Z h0 g1 k_g1 .byte 4 vg1 (.int 0)) (Hg1 : ∀ i : Nat, (i : Int) < (4 : Int32).toInt → vg1.getD i (.int 0) = .int (nth4 (0) (60) (0) (63) i)) (B2 : Fld Z h0 f2 "com/example/shapelint/shapelint/io/XmlEncodingFamily" "_byteOrderMark" "[B" (.ref b2)) (G2 : Fld Z h0 f2 "com/example/shapelint/shapelint/io/XmlEncodingFamily" "_signature" "[B" (.ref g2)) (Ab2 : Arv Z h0 b2 k_b2 .byte 2 vb2 (.int 0)) (Hb2 : ∀ i : Nat, (i : Int) < (2 : Int32).toInt → vb2.getD i (.int 0) = .int (nth4 (-1) (-2) (0) (0) i)) (Ag2 : Arv Z h0 g2 k_g2 .byte 4 vg2 (.int 0)) (Hg2 : ∀ i : Nat, (i : Int) < (4 : Int32).toInt → vg2.getD i (.int 0) = .int (nth4 (60) (0) (63) (0) i)) (B3 : Fld Z h0 f3 "com/example/shapelint/shapelint/io/XmlEncodingFamily" "_byteOrderMark" "[B" (.ref b3)) (G3 : Fld Z h0 f3 "com/example/shapelint/shapelint/io/XmlEncodingFamily" "_signature" "[B" (.ref g3)) (Ab3 : Arv Z h0 b3 k_b3 .byte 0 vb3 (.int 0)) (Hb3 : ∀ i : Nat, (i : Int) < (0 : Int32).toInt → vb3.getD i (.int 0) = .int (nth4 (0) (0) (0) (0) i)) (Ag3 : Arv Z h0 g3 k_g3 .byte 4 vg3 (.int 0)) (Hg3 : ∀ i : Nat, (i : Int) < (4 : Int32).toInt → vg3.getD i (.int 0) = .int (nth4 (0) (0) (0) (60) i)) (B4 : Fld Z h0 f4 "com/example/shapelint/shapelint/io/XmlEncodingFamily" "_byteOrderMark" "[B" (.ref b4)) (G4 : Fld Z h0 f4 "com/example/shapelint/shapelint/io/XmlEncodingFamily" "_signature" "[B" (.ref g4)) (Ab4 : Arv Z h0 b4 k_b4 .byte 0 vb4 (.int 0)) (Hb4 : ∀ i : Nat, (i : Int) < (0 : Int32).toInt → vb4.getD i (.int 0) = .int (nth4 (0) (0) (0) (0) i)) (Ag4 : Arv Z h0 g4 k_g4 .byte 4 vg4 (.int 0)) (Hg4 : ∀ i : Nat, (i : Int) < (4 : Int32).toInt → vg4.getD i (.int 0) = .int (nth4 (60) (0) (0) (0) i)) (B5 : Fld Z h0 f5 "com/example/shapelint/shapelint/io/XmlEncodingFamily" "_byteOrderMark" "[B" (.ref b5)) (G5 : Fld Z h0 f5 "com/example/shapelint/shapelint/io/XmlEncodingFamily" "_signature" "[B" (.ref g5)) (Ab5 : Arv Z h0 b5 k_b5 .byte 0 vb5 (.int 0)) (Hb5 : ∀ i : Nat, (i : Int) < (0 : Int32).toInt → vb5.getD i (.int 0) = .int (nth4 (0) (0) (0) (0) i)) (Ag5 : Arv Z h0 g5 k_g5 .byte 4 vg5 (.int 0)) (Hg5 : ∀ i : Nat, (i : Int) < (4 : Int32).toInt → vg5.getD i (.int 0) = .int (nth4 (76) (111) (-89) (-108) i)) :
    Met l Z (⟨"com/example/shapelint/shapelint/io/XmlEncodingFamily", "of", "([B)Lcom/example/shapelint/shapelint/io/XmlEncodingFamily;"⟩ : MethodName) prog_14_method_4_code 6 (some (.object "com/example/shapelint/shapelint/io/XmlEncodingFamily")) { frames := 3, cells := 1, slots := 6, locals := 58 } [] #[(.ref a)] h0 n0 (fun v h => v = some (.ref (nthA f0 f1 f2 f3 f4 f5 (famS na.toInt (fa 0).toInt (fa 1).toInt (fa 2).toInt (fa 3).toInt))) ∧ Keep h0 h []) := by
  refine Met.mk (tabs := tables_1) (a0 := a0) (ls0 := #[.val (.ref a), .unset, .unset, .unset, .unset, .unset]) (plainFor_of_name pn_com_example_shapelint_shapelint_io_XmlEncodingFamily) hw Z0 (fun m => by first | (simp [entryFrame, mkF, argsToLocals, Value.category]; done) | rfl) ?_
  intro p e s m below meth c T C X
  have Kp : Keep h0 h0 [] := Keep.refl _ _
  refine s_getstatic 3 C X (host := "") d3_0 (Or.inl (List.mem_of_getElem? (i := 15) rfl)) Via.refl (S_0.ext Od.2) (fun T X => ?_)
  refine s_astoreN 4 C X (l' := #[.val (.ref a), .val (.ref f0), .unset, .unset, .unset, .unset]) d3_3 rfl rfl ?_
  refine s_callS 7 [] [] 0 C X d3_4 (List.mem_of_getElem? (i := 16) rfl) (List.mem_of_getElem? (i := 17) rfl) (List.mem_of_getElem? (i := 10) rfl) (List.mem_of_getElem? (i := 18) rfl) (rm_values l Z a0 hw av k_av f0 f1 f2 f3 f4 f5 _ n0 X.sz Od S_V A_av E_av) (lenOf pd____Lcom_example_shapelint_shapelint_io_XmlEncodingFamily_ rfl) rfl rfl rfl (fun T v hh X q => ?_)
  obtain ⟨o9, rfl, Kc, A_o9⟩ := q
  have Od := Od.keep Kc all0
  have A_a := A_a.keep Kc nin0
  have A_av := A_av.keep Kc nin0
  have E_av := E_av.keep Kc
  have B0 := B0.keep Kc nin0
  have G0 := G0.keep Kc nin0
  have Ab0 := Ab0.keep Kc nin0
  have Ag0 := Ag0.keep Kc nin0
  have B1 := B1.keep Kc nin0
  have G1 := G1.keep Kc nin0
  have Ab1 := Ab1.keep Kc nin0
  have Ag1 := Ag1.keep Kc nin0
  have B2 := B2.keep Kc nin0
  have G2 := G2.keep Kc nin0
  have Ab2 := Ab2.keep Kc nin0
  have Ag2 := Ag2.keep Kc nin0
  have B3 := B3.keep Kc nin0
  have G3 := G3.keep Kc nin0
  have Ab3 := Ab3.keep Kc nin0
  have Ag3 := Ag3.keep Kc nin0
  have B4 := B4.keep Kc nin0
  have G4 := G4.keep Kc nin0
  have Ab4 := Ab4.keep Kc nin0
  have Ag4 := Ag4.keep Kc nin0
  have B5 := B5.keep Kc nin0
  have G5 := G5.keep Kc nin0
  have Ab5 := Ab5.keep Kc nin0
  have Ag5 := Ag5.keep Kc nin0
  have Kp := Kp.trans Kc all0
  refine Run.cast (st' := [(.ref o9)]) rfl ?_
  refine s_astoreN 8 C X (l' := #[.val (.ref a), .val (.ref f0), .val (.ref o9), .unset, .unset, .unset]) d3_7 rfl rfl ?_
  refine s_aloadN 9 C X d3_8 rfl rfl ?_
  refine s_arraylength 10 C X d3_9 A_o9 ?_
  refine s_istoreN 11 C X (l' := #[.val (.ref a), .val (.ref f0), .val (.ref o9), .val (.int (6 : Int32)), .unset, .unset]) d3_10 rfl ?_
  refine s_iconst 12 C X d3_11 kc_iconst_0 ?_
  refine s_istore 14 C X (l' := #[.val (.ref a), .val (.ref f0), .val (.ref o9), .val (.int (6 : Int32)), .val (.int (0 : Int32)), .unset]) d3_12 rfl ?_
  refine s_iload 16 C X d3_14 rfl ?_
  refine s_iloadN 17 C X d3_16 rfl ?_
  refine s_icmp_ge 62 20 C X d3_17 (fun c => absurd (by decide : (0 : Int32) < (6 : Int32)) c) (fun _ => ?_)
  refine s_aloadN 21 C X d3_20 rfl rfl ?_
  refine s_iload 23 C X d3_21 rfl ?_
  refine s_aaload 24 C X d3_23 A_o9 rfl ⟨by decide, by decide⟩ (v := (.ref f0)) rfl ?_
  refine s_astore 26 C X (l' := #[.val (.ref a), .val (.ref f0), .val (.ref o9), .val (.int (6 : Int32)), .val (.int (0 : Int32)), .val (.ref f0)]) d3_24 rfl rfl ?_
  refine s_aloadN 27 C X d3_26 rfl rfl ?_
  refine s_aload 29 C X d3_27 rfl rfl ?_
  refine s_getfield 32 C X (host := "") d3_29 (Or.inl (List.mem_of_getElem? (i := 35) rfl)) Via.refl B0 (fun T X => ?_)
  refine s_callS 35 [(.ref a), (.ref b0)] [] 0 C X d3_32 (List.mem_of_getElem? (i := 37) rfl) (List.mem_of_getElem? (i := 38) rfl) (List.mem_of_getElem? (i := 10) rfl) (List.mem_of_getElem? (i := 39) rfl) (rm_sw l Z a0 hw a b0 na 3 k_a k_b0 va vb0 (.int 0) (.int 0) fa (nth4 (-17) (-69) (-65) (0)) _ n0 X.sz A_a Ab0 (by decide) ha Hb0) (lenOf pd___B_B_Z rfl) rfl rfl rfl (fun T v h1 X q => ?_)
  obtain ⟨⟨rfl, hz_b0⟩ | ⟨rfl, hz_b0⟩, hE⟩ := q
  · rw [hE] at X
    replace hz_b0 := own_sw3.mp hz_b0
    simp only [kz_m69, kz_m65, kz_m17] at hz_b0
    refine Run.cast (st' := [(.int (1 : Int32))]) rfl ?_
    refine s_if_ne 50 38 C X d3_35 (fun _ => ?_) (fun c => absurd c (by decide))
    refine s_aload 52 C X d3_50 rfl rfl ?_
    refine s_astoreN 53 C X (l' := #[.val (.ref a), .val (.ref f0), .val (.ref o9), .val (.int (6 : Int32)), .val (.int (0 : Int32)), .val (.ref f0)]) d3_52 rfl rfl ?_
    refine s_goto 62 C X d3_53 ?_
    refine s_aloadN 63 C X d3_62 rfl rfl ?_
    refine s_areturn C X d3_63 rfl rfl rfl ?_
    have hf : famS na.toInt (fa 0).toInt (fa 1).toInt (fa 2).toInt (fa 3).toInt = 0 := by
      unfold famS
      rw [if_pos (by omega)]
    exact ⟨by rw [hf]; rfl, Kp⟩
  · rw [hE] at X
    replace hz_b0 := mt own_sw3.mpr hz_b0
    simp only [kz_m69, kz_m65, kz_m17] at hz_b0
    refine Run.cast (st' := [(.int (0 : Int32))]) rfl ?_
    refine s_if_ne 50 38 C X d3_35 (fun c => absurd (by decide : (0 : Int32) = (0 : Int32)) c) (fun _ => ?_)
    refine s_aloadN 39 C X d3_38 rfl rfl ?_
    refine s_aload 41 C X d3_39 rfl rfl ?_
    refine s_getfield 44 C X (host := "") d3_41 (Or.inl (List.mem_of_getElem? (i := 51) rfl)) Via.refl G0 (fun T X => ?_)
    refine s_callS 47 [(.ref a), (.ref g0)] [] 0 C X d3_44 (List.mem_of_getElem? (i := 37) rfl) (List.mem_of_getElem? (i := 38) rfl) (List.mem_of_getElem? (i := 10) rfl) (List.mem_of_getElem? (i := 39) rfl) (Met.imp (Q' := fun v h => v = some (.int 0) ∧ h = _) (rm_sw l Z a0 hw a g0 na 0 k_a k_g0 va vg0 (.int 0) (.int 0) fa (nth4 (0) (0) (0) (0)) _ n0 X.sz A_a Ag0 (by decide) ha Hg0) (fun v h q => ⟨q.1.elim (fun z => absurd z.2 own_sw0) (fun z => z.1), q.2⟩)) (lenOf pd___B_B_Z rfl) rfl rfl rfl (fun T v h2 X q => ?_)
    obtain ⟨rfl, hE⟩ := q
    rw [hE] at X
    refine Run.cast (st' := [(.int (0 : Int32))]) rfl ?_
    refine s_if_eq 56 50 C X d3_47 (fun _ => ?_) (fun c => absurd (by decide : (0 : Int32) = (0 : Int32)) c)
    refine s_iinc 59 C X (l' := #[.val (.ref a), .val (.ref f0), .val (.ref o9), .val (.int (6 : Int32)), .val (.int (1 : Int32)), .val (.ref f0)]) d3_56 kc_iconst_1 rfl rfl ?_
    refine s_goto 14 C X d3_59 ?_
    refine s_iload 16 C X d3_14 rfl ?_
    refine s_iloadN 17 C X d3_16 rfl ?_
    refine s_icmp_ge 62 20 C X d3_17 (fun c => absurd (by decide : (1 : Int32) < (6 : Int32)) c) (fun _ => ?_)
    refine s_aloadN 21 C X d3_20 rfl rfl ?_
    refine s_iload 23 C X d3_21 rfl ?_
    refine s_aaload 24 C X d3_23 A_o9 rfl ⟨by decide, by decide⟩ (v := (.ref f1)) rfl ?_
    refine s_astore 26 C X (l' := #[.val (.ref a), .val (.ref f0), .val (.ref o9), .val (.int (6 : Int32)), .val (.int (1 : Int32)), .val (.ref f1)]) d3_24 rfl rfl ?_
    refine s_aloadN 27 C X d3_26 rfl rfl ?_
    refine s_aload 29 C X d3_27 rfl rfl ?_
    refine s_getfield 32 C X (host := "") d3_29 (Or.inl (List.mem_of_getElem? (i := 35) rfl)) Via.refl B1 (fun T X => ?_)
    refine s_callS 35 [(.ref a), (.ref b1)] [] 0 C X d3_32 (List.mem_of_getElem? (i := 37) rfl) (List.mem_of_getElem? (i := 38) rfl) (List.mem_of_getElem? (i := 10) rfl) (List.mem_of_getElem? (i := 39) rfl) (rm_sw l Z a0 hw a b1 na 2 k_a k_b1 va vb1 (.int 0) (.int 0) fa (nth4 (-2) (-1) (0) (0)) _ n0 X.sz A_a Ab1 (by decide) ha Hb1) (lenOf pd___B_B_Z rfl) rfl rfl rfl (fun T v h3 X q => ?_)
    obtain ⟨⟨rfl, hz_b1⟩ | ⟨rfl, hz_b1⟩, hE⟩ := q
    · rw [hE] at X
      replace hz_b1 := own_sw2.mp hz_b1
      simp only [kz_m2, kz_m1] at hz_b1
      refine Run.cast (st' := [(.int (1 : Int32))]) rfl ?_
      refine s_if_ne 50 38 C X d3_35 (fun _ => ?_) (fun c => absurd c (by decide))
      refine s_aload 52 C X d3_50 rfl rfl ?_
      refine s_astoreN 53 C X (l' := #[.val (.ref a), .val (.ref f1), .val (.ref o9), .val (.int (6 : Int32)), .val (.int (1 : Int32)), .val (.ref f1)]) d3_52 rfl rfl ?_
      refine s_goto 62 C X d3_53 ?_
      refine s_aloadN 63 C X d3_62 rfl rfl ?_
      refine s_areturn C X d3_63 rfl rfl rfl ?_
      have hf : famS na.toInt (fa 0).toInt (fa 1).toInt (fa 2).toInt (fa 3).toInt = 1 := by
        unfold famS
        rw [if_neg (by omega), if_pos (by omega)]
      exact ⟨by rw [hf]; rfl, Kp⟩
    · rw [hE] at X
      replace hz_b1 := mt own_sw2.mpr hz_b1
      simp only [kz_m2, kz_m1] at hz_b1
      refine Run.cast (st' := [(.int (0 : Int32))]) rfl ?_
      refine s_if_ne 50 38 C X d3_35 (fun c => absurd (by decide : (0 : Int32) = (0 : Int32)) c) (fun _ => ?_)
      refine s_aloadN 39 C X d3_38 rfl rfl ?_
      refine s_aload 41 C X d3_39 rfl rfl ?_
      refine s_getfield 44 C X (host := "") d3_41 (Or.inl (List.mem_of_getElem? (i := 51) rfl)) Via.refl G1 (fun T X => ?_)
      refine s_callS 47 [(.ref a), (.ref g1)] [] 0 C X d3_44 (List.mem_of_getElem? (i := 37) rfl) (List.mem_of_getElem? (i := 38) rfl) (List.mem_of_getElem? (i := 10) rfl) (List.mem_of_getElem? (i := 39) rfl) (rm_sw l Z a0 hw a g1 na 4 k_a k_g1 va vg1 (.int 0) (.int 0) fa (nth4 (0) (60) (0) (63)) _ n0 X.sz A_a Ag1 (by decide) ha Hg1) (lenOf pd___B_B_Z rfl) rfl rfl rfl (fun T v h4 X q => ?_)
      obtain ⟨⟨rfl, hz_g1⟩ | ⟨rfl, hz_g1⟩, hE⟩ := q
      · rw [hE] at X
        replace hz_g1 := own_sw4.mp hz_g1
        simp only [kz_0, kz_60, kz_63] at hz_g1
        refine Run.cast (st' := [(.int (1 : Int32))]) rfl ?_
        refine s_if_eq 56 50 C X d3_47 (fun c => absurd c (by decide)) (fun _ => ?_)
        refine s_aload 52 C X d3_50 rfl rfl ?_
        refine s_astoreN 53 C X (l' := #[.val (.ref a), .val (.ref f1), .val (.ref o9), .val (.int (6 : Int32)), .val (.int (1 : Int32)), .val (.ref f1)]) d3_52 rfl rfl ?_
        refine s_goto 62 C X d3_53 ?_
        refine s_aloadN 63 C X d3_62 rfl rfl ?_
        refine s_areturn C X d3_63 rfl rfl rfl ?_
        have hf : famS na.toInt (fa 0).toInt (fa 1).toInt (fa 2).toInt (fa 3).toInt = 1 := by
          unfold famS
          rw [if_neg (by omega), if_neg (by omega), if_pos (by omega)]
        exact ⟨by rw [hf]; rfl, Kp⟩
      · rw [hE] at X
        replace hz_g1 := mt own_sw4.mpr hz_g1
        simp only [kz_0, kz_60, kz_63] at hz_g1
        refine Run.cast (st' := [(.int (0 : Int32))]) rfl ?_
        refine s_if_eq 56 50 C X d3_47 (fun _ => ?_) (fun c => absurd (by decide : (0 : Int32) = (0 : Int32)) c)
        refine s_iinc 59 C X (l' := #[.val (.ref a), .val (.ref f0), .val (.ref o9), .val (.int (6 : Int32)), .val (.int (2 : Int32)), .val (.ref f1)]) d3_56 kc_iconst_1 rfl rfl ?_
        refine s_goto 14 C X d3_59 ?_
        refine s_iload 16 C X d3_14 rfl ?_
        refine s_iloadN 17 C X d3_16 rfl ?_
        refine s_icmp_ge 62 20 C X d3_17 (fun c => absurd (by decide : (2 : Int32) < (6 : Int32)) c) (fun _ => ?_)
        refine s_aloadN 21 C X d3_20 rfl rfl ?_
        refine s_iload 23 C X d3_21 rfl ?_
        refine s_aaload 24 C X d3_23 A_o9 rfl ⟨by decide, by decide⟩ (v := (.ref f2)) rfl ?_
        refine s_astore 26 C X (l' := #[.val (.ref a), .val (.ref f0), .val (.ref o9), .val (.int (6 : Int32)), .val (.int (2 : Int32)), .val (.ref f2)]) d3_24 rfl rfl ?_
        refine s_aloadN 27 C X d3_26 rfl rfl ?_
        refine s_aload 29 C X d3_27 rfl rfl ?_
        refine s_getfield 32 C X (host := "") d3_29 (Or.inl (List.mem_of_getElem? (i := 35) rfl)) Via.refl B2 (fun T X => ?_)
        refine s_callS 35 [(.ref a), (.ref b2)] [] 0 C X d3_32 (List.mem_of_getElem? (i := 37) rfl) (List.mem_of_getElem? (i := 38) rfl) (List.mem_of_getElem? (i := 10) rfl) (List.mem_of_getElem? (i := 39) rfl) (rm_sw l Z a0 hw a b2 na 2 k_a k_b2 va vb2 (.int 0) (.int 0) fa (nth4 (-1) (-2) (0) (0)) _ n0 X.sz A_a Ab2 (by decide) ha Hb2) (lenOf pd___B_B_Z rfl) rfl rfl rfl (fun T v h5 X q => ?_)
        obtain ⟨⟨rfl, hz_b2⟩ | ⟨rfl, hz_b2⟩, hE⟩ := q
        · rw [hE] at X
          replace hz_b2 := own_sw2.mp hz_b2
          simp only [kz_m2, kz_m1] at hz_b2
          refine Run.cast (st' := [(.int (1 : Int32))]) rfl ?_
          refine s_if_ne 50 38 C X d3_35 (fun _ => ?_) (fun c => absurd c (by decide))
          refine s_aload 52 C X d3_50 rfl rfl ?_
          refine s_astoreN 53 C X (l' := #[.val (.ref a), .val (.ref f2), .val (.ref o9), .val (.int (6 : Int32)), .val (.int (2 : Int32)), .val (.ref f2)]) d3_52 rfl rfl ?_
          refine s_goto 62 C X d3_53 ?_
          refine s_aloadN 63 C X d3_62 rfl rfl ?_
          refine s_areturn C X d3_63 rfl rfl rfl ?_
          have hf : famS na.toInt (fa 0).toInt (fa 1).toInt (fa 2).toInt (fa 3).toInt = 2 := by
            unfold famS
            rw [if_neg (by omega), if_neg (by omega), if_neg (by omega), if_pos (by omega)]
          exact ⟨by rw [hf]; rfl, Kp⟩
        · rw [hE] at X
          replace hz_b2 := mt own_sw2.mpr hz_b2
          simp only [kz_m2, kz_m1] at hz_b2
          refine Run.cast (st' := [(.int (0 : Int32))]) rfl ?_
          refine s_if_ne 50 38 C X d3_35 (fun c => absurd (by decide : (0 : Int32) = (0 : Int32)) c) (fun _ => ?_)
          refine s_aloadN 39 C X d3_38 rfl rfl ?_
          refine s_aload 41 C X d3_39 rfl rfl ?_
          refine s_getfield 44 C X (host := "") d3_41 (Or.inl (List.mem_of_getElem? (i := 51) rfl)) Via.refl G2 (fun T X => ?_)
          refine s_callS 47 [(.ref a), (.ref g2)] [] 0 C X d3_44 (List.mem_of_getElem? (i := 37) rfl) (List.mem_of_getElem? (i := 38) rfl) (List.mem_of_getElem? (i := 10) rfl) (List.mem_of_getElem? (i := 39) rfl) (rm_sw l Z a0 hw a g2 na 4 k_a k_g2 va vg2 (.int 0) (.int 0) fa (nth4 (60) (0) (63) (0)) _ n0 X.sz A_a Ag2 (by decide) ha Hg2) (lenOf pd___B_B_Z rfl) rfl rfl rfl (fun T v h6 X q => ?_)
          obtain ⟨⟨rfl, hz_g2⟩ | ⟨rfl, hz_g2⟩, hE⟩ := q
          · rw [hE] at X
            replace hz_g2 := own_sw4.mp hz_g2
            simp only [kz_0, kz_60, kz_63] at hz_g2
            refine Run.cast (st' := [(.int (1 : Int32))]) rfl ?_
            refine s_if_eq 56 50 C X d3_47 (fun c => absurd c (by decide)) (fun _ => ?_)
            refine s_aload 52 C X d3_50 rfl rfl ?_
            refine s_astoreN 53 C X (l' := #[.val (.ref a), .val (.ref f2), .val (.ref o9), .val (.int (6 : Int32)), .val (.int (2 : Int32)), .val (.ref f2)]) d3_52 rfl rfl ?_
            refine s_goto 62 C X d3_53 ?_
            refine s_aloadN 63 C X d3_62 rfl rfl ?_
            refine s_areturn C X d3_63 rfl rfl rfl ?_
            have hf : famS na.toInt (fa 0).toInt (fa 1).toInt (fa 2).toInt (fa 3).toInt = 2 := by
              unfold famS
              rw [if_neg (by omega), if_neg (by omega), if_neg (by omega), if_neg (by omega), if_pos (by omega)]
            exact ⟨by rw [hf]; rfl, Kp⟩
          · rw [hE] at X
            replace hz_g2 := mt own_sw4.mpr hz_g2
            simp only [kz_0, kz_60, kz_63] at hz_g2
            refine Run.cast (st' := [(.int (0 : Int32))]) rfl ?_
            refine s_if_eq 56 50 C X d3_47 (fun _ => ?_) (fun c => absurd (by decide : (0 : Int32) = (0 : Int32)) c)
            refine s_iinc 59 C X (l' := #[.val (.ref a), .val (.ref f0), .val (.ref o9), .val (.int (6 : Int32)), .val (.int (3 : Int32)), .val (.ref f2)]) d3_56 kc_iconst_1 rfl rfl ?_
            refine s_goto 14 C X d3_59 ?_
            refine s_iload 16 C X d3_14 rfl ?_
            refine s_iloadN 17 C X d3_16 rfl ?_
            refine s_icmp_ge 62 20 C X d3_17 (fun c => absurd (by decide : (3 : Int32) < (6 : Int32)) c) (fun _ => ?_)
            refine s_aloadN 21 C X d3_20 rfl rfl ?_
            refine s_iload 23 C X d3_21 rfl ?_
            refine s_aaload 24 C X d3_23 A_o9 rfl ⟨by decide, by decide⟩ (v := (.ref f3)) rfl ?_
            refine s_astore 26 C X (l' := #[.val (.ref a), .val (.ref f0), .val (.ref o9), .val (.int (6 : Int32)), .val (.int (3 : Int32)), .val (.ref f3)]) d3_24 rfl rfl ?_
            refine s_aloadN 27 C X d3_26 rfl rfl ?_
            refine s_aload 29 C X d3_27 rfl rfl ?_
            refine s_getfield 32 C X (host := "") d3_29 (Or.inl (List.mem_of_getElem? (i := 35) rfl)) Via.refl B3 (fun T X => ?_)
            refine s_callS 35 [(.ref a), (.ref b3)] [] 0 C X d3_32 (List.mem_of_getElem? (i := 37) rfl) (List.mem_of_getElem? (i := 38) rfl) (List.mem_of_getElem? (i := 10) rfl) (List.mem_of_getElem? (i := 39) rfl) (Met.imp (Q' := fun v h => v = some (.int 0) ∧ h = _) (rm_sw l Z a0 hw a b3 na 0 k_a k_b3 va vb3 (.int 0) (.int 0) fa (nth4 (0) (0) (0) (0)) _ n0 X.sz A_a Ab3 (by decide) ha Hb3) (fun v h q => ⟨q.1.elim (fun z => absurd z.2 own_sw0) (fun z => z.1), q.2⟩)) (lenOf pd___B_B_Z rfl) rfl rfl rfl (fun T v h7 X q => ?_)
            obtain ⟨rfl, hE⟩ := q
            rw [hE] at X
            refine Run.cast (st' := [(.int (0 : Int32))]) rfl ?_
            refine s_if_ne 50 38 C X d3_35 (fun c => absurd (by decide : (0 : Int32) = (0 : Int32)) c) (fun _ => ?_)
            refine s_aloadN 39 C X d3_38 rfl rfl ?_
            refine s_aload 41 C X d3_39 rfl rfl ?_
            refine s_getfield 44 C X (host := "") d3_41 (Or.inl (List.mem_of_getElem? (i := 51) rfl)) Via.refl G3 (fun T X => ?_)
            refine s_callS 47 [(.ref a), (.ref g3)] [] 0 C X d3_44 (List.mem_of_getElem? (i := 37) rfl) (List.mem_of_getElem? (i := 38) rfl) (List.mem_of_getElem? (i := 10) rfl) (List.mem_of_getElem? (i := 39) rfl) (rm_sw l Z a0 hw a g3 na 4 k_a k_g3 va vg3 (.int 0) (.int 0) fa (nth4 (0) (0) (0) (60)) _ n0 X.sz A_a Ag3 (by decide) ha Hg3) (lenOf pd___B_B_Z rfl) rfl rfl rfl (fun T v h8 X q => ?_)
            obtain ⟨⟨rfl, hz_g3⟩ | ⟨rfl, hz_g3⟩, hE⟩ := q
            · rw [hE] at X
              replace hz_g3 := own_sw4.mp hz_g3
              simp only [kz_0, kz_60] at hz_g3
              refine Run.cast (st' := [(.int (1 : Int32))]) rfl ?_
              refine s_if_eq 56 50 C X d3_47 (fun c => absurd c (by decide)) (fun _ => ?_)
              refine s_aload 52 C X d3_50 rfl rfl ?_
              refine s_astoreN 53 C X (l' := #[.val (.ref a), .val (.ref f3), .val (.ref o9), .val (.int (6 : Int32)), .val (.int (3 : Int32)), .val (.ref f3)]) d3_52 rfl rfl ?_
              refine s_goto 62 C X d3_53 ?_
              refine s_aloadN 63 C X d3_62 rfl rfl ?_
              refine s_areturn C X d3_63 rfl rfl rfl ?_
              have hf : famS na.toInt (fa 0).toInt (fa 1).toInt (fa 2).toInt (fa 3).toInt = 3 := by
                unfold famS
                rw [if_neg (by omega), if_neg (by omega), if_neg (by omega), if_neg (by omega), if_neg (by omega), if_pos (by omega)]
              exact ⟨by rw [hf]; rfl, Kp⟩
            · rw [hE] at X
              replace hz_g3 := mt own_sw4.mpr hz_g3
              simp only [kz_0, kz_60] at hz_g3
              refine Run.cast (st' := [(.int (0 : Int32))]) rfl ?_
              refine s_if_eq 56 50 C X d3_47 (fun _ => ?_) (fun c => absurd (by decide : (0 : Int32) = (0 : Int32)) c)
              refine s_iinc 59 C X (l' := #[.val (.ref a), .val (.ref f0), .val (.ref o9), .val (.int (6 : Int32)), .val (.int (4 : Int32)), .val (.ref f3)]) d3_56 kc_iconst_1 rfl rfl ?_
              refine s_goto 14 C X d3_59 ?_
              refine s_iload 16 C X d3_14 rfl ?_
              refine s_iloadN 17 C X d3_16 rfl ?_
              refine s_icmp_ge 62 20 C X d3_17 (fun c => absurd (by decide : (4 : Int32) < (6 : Int32)) c) (fun _ => ?_)
              refine s_aloadN 21 C X d3_20 rfl rfl ?_
              refine s_iload 23 C X d3_21 rfl ?_
              refine s_aaload 24 C X d3_23 A_o9 rfl ⟨by decide, by decide⟩ (v := (.ref f4)) rfl ?_
              refine s_astore 26 C X (l' := #[.val (.ref a), .val (.ref f0), .val (.ref o9), .val (.int (6 : Int32)), .val (.int (4 : Int32)), .val (.ref f4)]) d3_24 rfl rfl ?_
              refine s_aloadN 27 C X d3_26 rfl rfl ?_
              refine s_aload 29 C X d3_27 rfl rfl ?_
              refine s_getfield 32 C X (host := "") d3_29 (Or.inl (List.mem_of_getElem? (i := 35) rfl)) Via.refl B4 (fun T X => ?_)
              refine s_callS 35 [(.ref a), (.ref b4)] [] 0 C X d3_32 (List.mem_of_getElem? (i := 37) rfl) (List.mem_of_getElem? (i := 38) rfl) (List.mem_of_getElem? (i := 10) rfl) (List.mem_of_getElem? (i := 39) rfl) (Met.imp (Q' := fun v h => v = some (.int 0) ∧ h = _) (rm_sw l Z a0 hw a b4 na 0 k_a k_b4 va vb4 (.int 0) (.int 0) fa (nth4 (0) (0) (0) (0)) _ n0 X.sz A_a Ab4 (by decide) ha Hb4) (fun v h q => ⟨q.1.elim (fun z => absurd z.2 own_sw0) (fun z => z.1), q.2⟩)) (lenOf pd___B_B_Z rfl) rfl rfl rfl (fun T v h9 X q => ?_)
              obtain ⟨rfl, hE⟩ := q
              rw [hE] at X
              refine Run.cast (st' := [(.int (0 : Int32))]) rfl ?_
              refine s_if_ne 50 38 C X d3_35 (fun c => absurd (by decide : (0 : Int32) = (0 : Int32)) c) (fun _ => ?_)
              refine s_aloadN 39 C X d3_38 rfl rfl ?_
              refine s_aload 41 C X d3_39 rfl rfl ?_
              refine s_getfield 44 C X (host := "") d3_41 (Or.inl (List.mem_of_getElem? (i := 51) rfl)) Via.refl G4 (fun T X => ?_)
              refine s_callS 47 [(.ref a), (.ref g4)] [] 0 C X d3_44 (List.mem_of_getElem? (i := 37) rfl) (List.mem_of_getElem? (i := 38) rfl) (List.mem_of_getElem? (i := 10) rfl) (List.mem_of_getElem? (i := 39) rfl) (rm_sw l Z a0 hw a g4 na 4 k_a k_g4 va vg4 (.int 0) (.int 0) fa (nth4 (60) (0) (0) (0)) _ n0 X.sz A_a Ag4 (by decide) ha Hg4) (lenOf pd___B_B_Z rfl) rfl rfl rfl (fun T v h10 X q => ?_)
              obtain ⟨⟨rfl, hz_g4⟩ | ⟨rfl, hz_g4⟩, hE⟩ := q
              · rw [hE] at X
                replace hz_g4 := own_sw4.mp hz_g4
                simp only [kz_0, kz_60] at hz_g4
                refine Run.cast (st' := [(.int (1 : Int32))]) rfl ?_
                refine s_if_eq 56 50 C X d3_47 (fun c => absurd c (by decide)) (fun _ => ?_)
                refine s_aload 52 C X d3_50 rfl rfl ?_
                refine s_astoreN 53 C X (l' := #[.val (.ref a), .val (.ref f4), .val (.ref o9), .val (.int (6 : Int32)), .val (.int (4 : Int32)), .val (.ref f4)]) d3_52 rfl rfl ?_
                refine s_goto 62 C X d3_53 ?_
                refine s_aloadN 63 C X d3_62 rfl rfl ?_
                refine s_areturn C X d3_63 rfl rfl rfl ?_
                have hf : famS na.toInt (fa 0).toInt (fa 1).toInt (fa 2).toInt (fa 3).toInt = 4 := by
                  unfold famS
                  rw [if_neg (by omega), if_neg (by omega), if_neg (by omega), if_neg (by omega), if_neg (by omega), if_neg (by omega), if_pos (by omega)]
                exact ⟨by rw [hf]; rfl, Kp⟩
              · rw [hE] at X
                replace hz_g4 := mt own_sw4.mpr hz_g4
                simp only [kz_0, kz_60] at hz_g4
                refine Run.cast (st' := [(.int (0 : Int32))]) rfl ?_
                refine s_if_eq 56 50 C X d3_47 (fun _ => ?_) (fun c => absurd (by decide : (0 : Int32) = (0 : Int32)) c)
                refine s_iinc 59 C X (l' := #[.val (.ref a), .val (.ref f0), .val (.ref o9), .val (.int (6 : Int32)), .val (.int (5 : Int32)), .val (.ref f4)]) d3_56 kc_iconst_1 rfl rfl ?_
                refine s_goto 14 C X d3_59 ?_
                refine s_iload 16 C X d3_14 rfl ?_
                refine s_iloadN 17 C X d3_16 rfl ?_
                refine s_icmp_ge 62 20 C X d3_17 (fun c => absurd (by decide : (5 : Int32) < (6 : Int32)) c) (fun _ => ?_)
                refine s_aloadN 21 C X d3_20 rfl rfl ?_
                refine s_iload 23 C X d3_21 rfl ?_
                refine s_aaload 24 C X d3_23 A_o9 rfl ⟨by decide, by decide⟩ (v := (.ref f5)) rfl ?_
                refine s_astore 26 C X (l' := #[.val (.ref a), .val (.ref f0), .val (.ref o9), .val (.int (6 : Int32)), .val (.int (5 : Int32)), .val (.ref f5)]) d3_24 rfl rfl ?_
                refine s_aloadN 27 C X d3_26 rfl rfl ?_
                refine s_aload 29 C X d3_27 rfl rfl ?_
                refine s_getfield 32 C X (host := "") d3_29 (Or.inl (List.mem_of_getElem? (i := 35) rfl)) Via.refl B5 (fun T X => ?_)
                refine s_callS 35 [(.ref a), (.ref b5)] [] 0 C X d3_32 (List.mem_of_getElem? (i := 37) rfl) (List.mem_of_getElem? (i := 38) rfl) (List.mem_of_getElem? (i := 10) rfl) (List.mem_of_getElem? (i := 39) rfl) (Met.imp (Q' := fun v h => v = some (.int 0) ∧ h = _) (rm_sw l Z a0 hw a b5 na 0 k_a k_b5 va vb5 (.int 0) (.int 0) fa (nth4 (0) (0) (0) (0)) _ n0 X.sz A_a Ab5 (by decide) ha Hb5) (fun v h q => ⟨q.1.elim (fun z => absurd z.2 own_sw0) (fun z => z.1), q.2⟩)) (lenOf pd___B_B_Z rfl) rfl rfl rfl (fun T v h11 X q => ?_)
                obtain ⟨rfl, hE⟩ := q
                rw [hE] at X
                refine Run.cast (st' := [(.int (0 : Int32))]) rfl ?_
                refine s_if_ne 50 38 C X d3_35 (fun c => absurd (by decide : (0 : Int32) = (0 : Int32)) c) (fun _ => ?_)
                refine s_aloadN 39 C X d3_38 rfl rfl ?_
                refine s_aload 41 C X d3_39 rfl rfl ?_
                refine s_getfield 44 C X (host := "") d3_41 (Or.inl (List.mem_of_getElem? (i := 51) rfl)) Via.refl G5 (fun T X => ?_)
                refine s_callS 47 [(.ref a), (.ref g5)] [] 0 C X d3_44 (List.mem_of_getElem? (i := 37) rfl) (List.mem_of_getElem? (i := 38) rfl) (List.mem_of_getElem? (i := 10) rfl) (List.mem_of_getElem? (i := 39) rfl) (rm_sw l Z a0 hw a g5 na 4 k_a k_g5 va vg5 (.int 0) (.int 0) fa (nth4 (76) (111) (-89) (-108)) _ n0 X.sz A_a Ag5 (by decide) ha Hg5) (lenOf pd___B_B_Z rfl) rfl rfl rfl (fun T v h12 X q => ?_)
                obtain ⟨⟨rfl, hz_g5⟩ | ⟨rfl, hz_g5⟩, hE⟩ := q
                · rw [hE] at X
                  replace hz_g5 := own_sw4.mp hz_g5
                  simp only [kz_m108, kz_m89, kz_76, kz_111] at hz_g5
                  refine Run.cast (st' := [(.int (1 : Int32))]) rfl ?_
                  refine s_if_eq 56 50 C X d3_47 (fun c => absurd c (by decide)) (fun _ => ?_)
                  refine s_aload 52 C X d3_50 rfl rfl ?_
                  refine s_astoreN 53 C X (l' := #[.val (.ref a), .val (.ref f5), .val (.ref o9), .val (.int (6 : Int32)), .val (.int (5 : Int32)), .val (.ref f5)]) d3_52 rfl rfl ?_
                  refine s_goto 62 C X d3_53 ?_
                  refine s_aloadN 63 C X d3_62 rfl rfl ?_
                  refine s_areturn C X d3_63 rfl rfl rfl ?_
                  have hf : famS na.toInt (fa 0).toInt (fa 1).toInt (fa 2).toInt (fa 3).toInt = 5 := by
                    unfold famS
                    rw [if_neg (by omega), if_neg (by omega), if_neg (by omega), if_neg (by omega), if_neg (by omega), if_neg (by omega), if_neg (by omega), if_pos (by omega)]
                  exact ⟨by rw [hf]; rfl, Kp⟩
                · rw [hE] at X
                  replace hz_g5 := mt own_sw4.mpr hz_g5
                  simp only [kz_m108, kz_m89, kz_76, kz_111] at hz_g5
                  refine Run.cast (st' := [(.int (0 : Int32))]) rfl ?_
                  refine s_if_eq 56 50 C X d3_47 (fun _ => ?_) (fun c => absurd (by decide : (0 : Int32) = (0 : Int32)) c)
                  refine s_iinc 59 C X (l' := #[.val (.ref a), .val (.ref f0), .val (.ref o9), .val (.int (6 : Int32)), .val (.int (6 : Int32)), .val (.ref f5)]) d3_56 kc_iconst_1 rfl rfl ?_
                  refine s_goto 14 C X d3_59 ?_
                  refine s_iload 16 C X d3_14 rfl ?_
                  refine s_iloadN 17 C X d3_16 rfl ?_
                  refine s_icmp_ge 62 20 C X d3_17 (fun _ => ?_) (fun c => absurd c (by decide))
                  refine s_aloadN 63 C X d3_62 rfl rfl ?_
                  refine s_areturn C X d3_63 rfl rfl rfl ?_
                  have hf : famS na.toInt (fa 0).toInt (fa 1).toInt (fa 2).toInt (fa 3).toInt = 0 := by
                    unfold famS
                    rw [if_neg (by omega), if_neg (by omega), if_neg (by omega), if_neg (by omega), if_neg (by omega), if_neg (by omega), if_neg (by omega), if_neg (by omega)]
                  exact ⟨by rw [hf]; rfl, Kp⟩
set_option maxRecDepth 65536 in
set_option maxHeartbeats 40000000 in
theorem rm0 (l : Launch) (Z : State) (a0 : Array Value) (hw : ∀ d ∈ tables_1, d.before a0 Z = true) (x0 x1 x2 x3 x4 x5 : Int32) (av : Addr) (k_av : ClassId) (f0 f1 f2 f3 f4 f5 : Addr) (b0 g0 : Addr) (k_b0 k_g0 : ClassId) (vb0 vg0 : List Value) (b1 g1 : Addr) (k_b1 k_g1 : ClassId) (vb1 vg1 : List Value) (b2 g2 : Addr) (k_b2 k_g2 : ClassId) (vb2 vg2 : List Value) (b3 g3 : Addr) (k_b3 k_g3 : ClassId) (vb3 vg3 : List Value) (b4 g4 : Addr) (k_b4 k_g4 : ClassId) (vb4 vg4 : List Value) (b5 g5 : Addr) (k_b5 k_g5 : ClassId) (vb5 vg5 : List Value) (h0 : Heap) (n0 : Nat) (Z0 : n0 ≤ h0.size) (Od : Old Z n0 h0) (S_V : Sta Z Z.heap "com/example/shapelint/shapelint/io/XmlEncodingFamily" "$VALUES" "[Lcom/example/shapelint/shapelint/io/XmlEncodingFamily;" (.ref av)) (AV : Arv Z Z.heap av k_av (.object "com/example/shapelint/shapelint/io/XmlEncodingFamily") 6 [(.ref f0), (.ref f1), (.ref f2), (.ref f3), (.ref f4), (.ref f5)] .null) (EV : Exa Z Z.heap av "[Lcom/example/shapelint/shapelint/io/XmlEncodingFamily;") (S_0 : Sta Z Z.heap "com/example/shapelint/shapelint/io/XmlEncodingFamily" "ASCII_COMPATIBLE" "Lcom/example/shapelint/shapelint/io/XmlEncodingFamily;" (.ref f0))  (S_1 : Sta Z Z.heap "com/example/shapelint/shapelint/io/XmlEncodingFamily" "UTF_16_BIG_ENDIAN" "Lcom/example/shapelint/shapelint/io/XmlEncodingFamily;" (.ref f1))  (S_2 : Sta Z Z.heap "com/example/shapelint/shapelint/io/XmlEncodingFamily" "UTF_16_LITTLE_ENDIAN" "Lcom/example/shapelint/shapelint/io/XmlEncodingFamily;" (.ref f2))  (S_3 : Sta Z Z.heap "com/example/shapelint/shapelint/io/XmlEncodingFamily" "UTF_32_BIG_ENDIAN" "Lcom/example/shapelint/shapelint/io/XmlEncodingFamily;" (.ref f3))  (S_4 : Sta Z Z.heap "com/example/shapelint/shapelint/io/XmlEncodingFamily" "UTF_32_LITTLE_ENDIAN" "Lcom/example/shapelint/shapelint/io/XmlEncodingFamily;" (.ref f4))  (S_5 : Sta Z Z.heap "com/example/shapelint/shapelint/io/XmlEncodingFamily" "EBCDIC" "Lcom/example/shapelint/shapelint/io/XmlEncodingFamily;" (.ref f5)) (B0 : Fld Z Z.heap f0 "com/example/shapelint/shapelint/io/XmlEncodingFamily" "_byteOrderMark" "[B" (.ref b0)) (G0 : Fld Z Z.heap f0 "com/example/shapelint/shapelint/io/XmlEncodingFamily" "_signature" "[B" (.ref g0)) (Ab0 : Arv Z Z.heap b0 k_b0 .byte 3 vb0 (.int 0)) (Hb0 : ∀ i : Nat, (i : Int) < (3 : Int32).toInt → vb0.getD i (.int 0) = .int (nth4 (-17) (-69) (-65) (0) i)) (Ag0 : Arv Z Z.heap g0 k_g0 .byte 0 vg0 (.int 0)) (Hg0 : ∀ i : Nat, (i : Int) < (0 : Int32).toInt → vg0.getD i (.int 0) = .int (nth4 (0) (0) (0) (0) i)) (B1 : Fld Z Z.heap f1 "com/example/shapelint/shapelint/io/XmlEncodingFamily" "_byteOrderMark" "[B" (.ref b1)) (G1 : Fld Z Z.heap f1 "com/example/shapelint/shapelint/io/XmlEncodingFamily" "_signature" "[B" (.ref g1)) (Ab1 : Arv Z Z.heap b1 k_b1 .byte 2 vb1 (.int 0)) (Hb1 : ∀ i : Nat, (i : Int) < (2 : Int32).toInt → vb1.getD i (.int 0) = .int (nth4 (-2) (-1) (0) (0) i)) (Ag1 : Arv Z Z.heap g1 k_g1 .byte 4 vg1 (.int 0)) (Hg1 : ∀ i : Nat, (i : Int) < (4 : Int32).toInt → vg1.getD i (.int 0) = .int (nth4 (0) (60) (0) (63) i)) (B2 : Fld Z Z.heap f2 "com/example/shapelint/shapelint/io/XmlEncodingFamily" "_byteOrderMark" "[B" (.ref b2)) (G2 : Fld Z Z.heap f2 "com/example/shapelint/shapelint/io/XmlEncodingFamily" "_signature" "[B" (.ref g2)) (Ab2 : Arv Z Z.heap b2 k_b2 .byte 2 vb2 (.int 0)) (Hb2 : ∀ i : Nat, (i : Int) < (2 : Int32).toInt → vb2.getD i (.int 0) = .int (nth4 (-1) (-2) (0) (0) i)) (Ag2 : Arv Z Z.heap g2 k_g2 .byte 4 vg2 (.int 0)) (Hg2 : ∀ i : Nat, (i : Int) < (4 : Int32).toInt → vg2.getD i (.int 0) = .int (nth4 (60) (0) (63) (0) i)) (B3 : Fld Z Z.heap f3 "com/example/shapelint/shapelint/io/XmlEncodingFamily" "_byteOrderMark" "[B" (.ref b3)) (G3 : Fld Z Z.heap f3 "com/example/shapelint/shapelint/io/XmlEncodingFamily" "_signature" "[B" (.ref g3)) (Ab3 : Arv Z Z.heap b3 k_b3 .byte 0 vb3 (.int 0)) (Hb3 : ∀ i : Nat, (i : Int) < (0 : Int32).toInt → vb3.getD i (.int 0) = .int (nth4 (0) (0) (0) (0) i)) (Ag3 : Arv Z Z.heap g3 k_g3 .byte 4 vg3 (.int 0)) (Hg3 : ∀ i : Nat, (i : Int) < (4 : Int32).toInt → vg3.getD i (.int 0) = .int (nth4 (0) (0) (0) (60) i)) (B4 : Fld Z Z.heap f4 "com/example/shapelint/shapelint/io/XmlEncodingFamily" "_byteOrderMark" "[B" (.ref b4)) (G4 : Fld Z Z.heap f4 "com/example/shapelint/shapelint/io/XmlEncodingFamily" "_signature" "[B" (.ref g4)) (Ab4 : Arv Z Z.heap b4 k_b4 .byte 0 vb4 (.int 0)) (Hb4 : ∀ i : Nat, (i : Int) < (0 : Int32).toInt → vb4.getD i (.int 0) = .int (nth4 (0) (0) (0) (0) i)) (Ag4 : Arv Z Z.heap g4 k_g4 .byte 4 vg4 (.int 0)) (Hg4 : ∀ i : Nat, (i : Int) < (4 : Int32).toInt → vg4.getD i (.int 0) = .int (nth4 (60) (0) (0) (0) i)) (B5 : Fld Z Z.heap f5 "com/example/shapelint/shapelint/io/XmlEncodingFamily" "_byteOrderMark" "[B" (.ref b5)) (G5 : Fld Z Z.heap f5 "com/example/shapelint/shapelint/io/XmlEncodingFamily" "_signature" "[B" (.ref g5)) (Ab5 : Arv Z Z.heap b5 k_b5 .byte 0 vb5 (.int 0)) (Hb5 : ∀ i : Nat, (i : Int) < (0 : Int32).toInt → vb5.getD i (.int 0) = .int (nth4 (0) (0) (0) (0) i)) (Ag5 : Arv Z Z.heap g5 k_g5 .byte 4 vg5 (.int 0)) (Hg5 : ∀ i : Nat, (i : Int) < (4 : Int32).toInt → vg5.getD i (.int 0) = .int (nth4 (76) (111) (-89) (-108) i)) :
    Met l Z x code maxLocals ret room_1 tables_1 #[(.int x0), (.int x1), (.int x2), (.int x3), (.int x4), (.int x5)] h0 n0 (fun v h => v = some (.int 1)) := by
  refine Met.mk (tabs := tables_1) (a0 := a0) (ls0 := #[.val (.int x0), .val (.int x1), .val (.int x2), .val (.int x3), .val (.int x4), .val (.int x5), .unset, .unset, .unset, .unset, .unset, .unset, .unset, .unset, .unset, .unset, .unset, .unset, .unset]) (plainFor_of_name pn_com_example_shapelint_shapelint_io_XmlEncodingFamilyOfPinLaw) hw Z0 (fun m => by first | (simp [entryFrame, mkF, argsToLocals, Value.category, maxLocals]; done) | rfl) ?_
  intro p e s m below meth c T C X
  refine s_iloadN 1 C X at_0 rfl ?_
  refine s_bipush 3 C X at_1 kc_bipush_7 ?_
  refine s_iand 4 C X at_3 ?_
  refine s_bipush 6 C X at_4 kc_bipush_6 ?_
  refine s_irem 7 C X at_6 (by decide) ?_
  obtain ⟨nn, e_nn⟩ : ∃ zz_ : Int32, zz_ = ((x1 &&& (7 : Int32)) % (6 : Int32)) := ⟨_, rfl⟩
  refine Run.cast (st' := [(.int nn)]) (by subst e_nn; rfl) ?_
  have h6 := own_6 e_nn
  refine s_istore 9 C X (l' := #[.val (.int x0), .val (.int x1), .val (.int x2), .val (.int x3), .val (.int x4), .val (.int x5), .val (.int nn), .unset, .unset, .unset, .unset, .unset, .unset, .unset, .unset, .unset, .unset, .unset, .unset]) at_7 rfl ?_
  refine s_iloadN 10 C X at_9 rfl ?_
  refine s_bipush 12 C X at_10 kc_bipush_7 ?_
  refine s_iand 13 C X at_12 ?_
  obtain ⟨kk, e_kk⟩ : ∃ zz_ : Int32, zz_ = (x0 &&& (7 : Int32)) := ⟨_, rfl⟩
  refine Run.cast (st' := [(.int kk)]) (by subst e_kk; rfl) ?_
  have r_k : 0 ≤ kk.toInt ∧ kk.toInt ≤ 7 := e_kk ▸ own_n7 x0
  refine s_istore 15 C X (l' := #[.val (.int x0), .val (.int x1), .val (.int x2), .val (.int x3), .val (.int x4), .val (.int x5), .val (.int nn), .val (.int kk), .unset, .unset, .unset, .unset, .unset, .unset, .unset, .unset, .unset, .unset, .unset]) at_13 rfl ?_
  refine s_iloadN 16 C X at_15 rfl ?_
  refine s_iload 18 C X at_16 rfl ?_
  refine s_iconst 19 C X at_18 kc_iconst_0 ?_
  refine s_iloadN 20 C X at_19 rfl ?_
  refine s_callS 23 [(.int x0), (.int kk), (.int (0 : Int32)), (.int x2)] [] 0 C X at_20 (List.mem_of_getElem? (i := 0) rfl) (List.mem_of_getElem? (i := 1) rfl) (List.mem_of_getElem? (i := 2) rfl) (List.mem_of_getElem? (i := 3) rfl) (rm_pick l Z a0 hw x0 kk (0 : Int32) x2 _ n0 X.sz r_k (by decide)) (lenOf pd__IIII_I rfl) rfl rfl rfl (fun T v hh X q => ?_)
  obtain ⟨c0, rfl, l_c0, u_c0, Kc⟩ := q
  have Od := Od.keep Kc all0
  refine Run.cast (st' := [(.int c0)]) rfl ?_
  refine s_istore 25 C X (l' := #[.val (.int x0), .val (.int x1), .val (.int x2), .val (.int x3), .val (.int x4), .val (.int x5), .val (.int nn), .val (.int kk), .val (.int c0), .unset, .unset, .unset, .unset, .unset, .unset, .unset, .unset, .unset, .unset]) at_23 rfl ?_
  refine s_iloadN 26 C X at_25 rfl ?_
  refine s_iload 28 C X at_26 rfl ?_
  refine s_iconst 29 C X at_28 kc_iconst_1 ?_
  refine s_iloadN 30 C X at_29 rfl ?_
  refine s_callS 33 [(.int x0), (.int kk), (.int (1 : Int32)), (.int x3)] [] 0 C X at_30 (List.mem_of_getElem? (i := 0) rfl) (List.mem_of_getElem? (i := 1) rfl) (List.mem_of_getElem? (i := 2) rfl) (List.mem_of_getElem? (i := 3) rfl) (rm_pick l Z a0 hw x0 kk (1 : Int32) x3 _ n0 X.sz r_k (by decide)) (lenOf pd__IIII_I rfl) rfl rfl rfl (fun T v hh X q => ?_)
  obtain ⟨c1, rfl, l_c1, u_c1, Kc⟩ := q
  have Od := Od.keep Kc all0
  refine Run.cast (st' := [(.int c1)]) rfl ?_
  refine s_istore 35 C X (l' := #[.val (.int x0), .val (.int x1), .val (.int x2), .val (.int x3), .val (.int x4), .val (.int x5), .val (.int nn), .val (.int kk), .val (.int c0), .val (.int c1), .unset, .unset, .unset, .unset, .unset, .unset, .unset, .unset, .unset]) at_33 rfl ?_
  refine s_iloadN 36 C X at_35 rfl ?_
  refine s_iload 38 C X at_36 rfl ?_
  refine s_iconst 39 C X at_38 kc_iconst_2 ?_
  refine s_iload 41 C X at_39 rfl ?_
  refine s_callS 44 [(.int x0), (.int kk), (.int (2 : Int32)), (.int x4)] [] 0 C X at_41 (List.mem_of_getElem? (i := 0) rfl) (List.mem_of_getElem? (i := 1) rfl) (List.mem_of_getElem? (i := 2) rfl) (List.mem_of_getElem? (i := 3) rfl) (rm_pick l Z a0 hw x0 kk (2 : Int32) x4 _ n0 X.sz r_k (by decide)) (lenOf pd__IIII_I rfl) rfl rfl rfl (fun T v hh X q => ?_)
  obtain ⟨c2, rfl, l_c2, u_c2, Kc⟩ := q
  have Od := Od.keep Kc all0
  refine Run.cast (st' := [(.int c2)]) rfl ?_
  refine s_istore 46 C X (l' := #[.val (.int x0), .val (.int x1), .val (.int x2), .val (.int x3), .val (.int x4), .val (.int x5), .val (.int nn), .val (.int kk), .val (.int c0), .val (.int c1), .val (.int c2), .unset, .unset, .unset, .unset, .unset, .unset, .unset, .unset]) at_44 rfl ?_
  refine s_iloadN 47 C X at_46 rfl ?_
  refine s_iload 49 C X at_47 rfl ?_
  refine s_iconst 50 C X at_49 kc_iconst_3 ?_
  refine s_iload 52 C X at_50 rfl ?_
  refine s_callS 55 [(.int x0), (.int kk), (.int (3 : Int32)), (.int x5)] [] 0 C X at_52 (List.mem_of_getElem? (i := 0) rfl) (List.mem_of_getElem? (i := 1) rfl) (List.mem_of_getElem? (i := 2) rfl) (List.mem_of_getElem? (i := 3) rfl) (rm_pick l Z a0 hw x0 kk (3 : Int32) x5 _ n0 X.sz r_k (by decide)) (lenOf pd__IIII_I rfl) rfl rfl rfl (fun T v hh X q => ?_)
  obtain ⟨c3, rfl, l_c3, u_c3, Kc⟩ := q
  have Od := Od.keep Kc all0
  refine Run.cast (st' := [(.int c3)]) rfl ?_
  refine s_istore 57 C X (l' := #[.val (.int x0), .val (.int x1), .val (.int x2), .val (.int x3), .val (.int x4), .val (.int x5), .val (.int nn), .val (.int kk), .val (.int c0), .val (.int c1), .val (.int c2), .val (.int c3), .unset, .unset, .unset, .unset, .unset, .unset, .unset]) at_55 rfl ?_
  refine s_iloadN 58 C X at_57 rfl ?_
  refine s_iconst 59 C X at_58 kc_iconst_3 ?_
  refine s_iushr 60 C X at_59 ?_
  refine s_sipush 63 C X at_60 kc_sipush_255 ?_
  refine s_iand 64 C X at_63 ?_
  obtain ⟨c4, e_c4⟩ : ∃ zz_ : Int32, zz_ = (((x1).toUInt32 >>> ((3 : Int32) &&& 31).toUInt32).toInt32 &&& (255 : Int32)) := ⟨_, rfl⟩
  refine Run.cast (st' := [(.int c4)]) (by subst e_c4; rfl) ?_
  refine s_istore 66 C X (l' := #[.val (.int x0), .val (.int x1), .val (.int x2), .val (.int x3), .val (.int x4), .val (.int x5), .val (.int nn), .val (.int kk), .val (.int c0), .val (.int c1), .val (.int c2), .val (.int c3), .val (.int c4), .unset, .unset, .unset, .unset, .unset, .unset]) at_64 rfl ?_
  rcases h6 with rfl | rfl | rfl | rfl | rfl | rfl
  · refine s_iload 68 C X at_66 rfl ?_
    refine s_newarray 70 0 C X at_68 (List.mem_of_getElem? (i := 8) rfl) (by decide) (by decide) (fun T hh o5 k_o5 hb_o5 X E A_o5 g_o5 => ?_)
    have Od := Od.ext E
    have A_o5 : Arv Z _ o5 k_o5 .byte (0 : Int32) [] (.int (0 : Int32)) := A_o5.pad (pad_rep [] _ 0)
    refine s_astore 72 C X (l' := #[.val (.int x0), .val (.int x1), .val (.int x2), .val (.int x3), .val (.int x4), .val (.int x5), .val (.int (0 : Int32)), .val (.int kk), .val (.int c0), .val (.int c1), .val (.int c2), .val (.int c3), .val (.int c4), .val (.ref o5), .unset, .unset, .unset, .unset, .unset]) at_70 rfl rfl ?_
    refine s_iload 74 C X at_72 rfl ?_
    refine s_if_le 84 77 C X at_74 (fun _ => ?_) (fun c => absurd c (by decide))
    refine s_iload 86 C X at_84 rfl ?_
    refine s_iconst 87 C X at_86 kc_iconst_1 ?_
    refine s_icmp_le 97 90 C X at_87 (fun _ => ?_) (fun c => absurd c (by decide))
    refine s_iload 99 C X at_97 rfl ?_
    refine s_iconst 100 C X at_99 kc_iconst_2 ?_
    refine s_icmp_le 110 103 C X at_100 (fun _ => ?_) (fun c => absurd c (by decide))
    refine s_iload 112 C X at_110 rfl ?_
    refine s_iconst 113 C X at_112 kc_iconst_3 ?_
    refine s_icmp_le 123 116 C X at_113 (fun _ => ?_) (fun c => absurd c (by decide))
    refine s_iload 125 C X at_123 rfl ?_
    refine s_iconst 126 C X at_125 kc_iconst_4 ?_
    refine s_icmp_le 136 129 C X at_126 (fun _ => ?_) (fun c => absurd c (by decide))
    refine s_iload 138 C X at_136 rfl ?_
    refine s_if_le 146 141 C X at_138 (fun _ => ?_) (fun c => absurd c (by decide))
    refine s_iconst 147 C X at_146 kc_iconst_m1 ?_
    refine s_istore 149 C X (l' := #[.val (.int x0), .val (.int x1), .val (.int x2), .val (.int x3), .val (.int x4), .val (.int x5), .val (.int (0 : Int32)), .val (.int kk), .val (.int c0), .val (.int c1), .val (.int c2), .val (.int c3), .val (.int c4), .val (.ref o5), .val (.int (-1 : Int32)), .unset, .unset, .unset, .unset]) at_147 rfl ?_
    refine s_iload 151 C X at_149 rfl ?_
    refine s_iconst 152 C X at_151 kc_iconst_1 ?_
    refine s_icmp_le 160 155 C X at_152 (fun _ => ?_) (fun c => absurd c (by decide))
    refine s_iconst 161 C X at_160 kc_iconst_m1 ?_
    refine s_istore 163 C X (l' := #[.val (.int x0), .val (.int x1), .val (.int x2), .val (.int x3), .val (.int x4), .val (.int x5), .val (.int (0 : Int32)), .val (.int kk), .val (.int c0), .val (.int c1), .val (.int c2), .val (.int c3), .val (.int c4), .val (.ref o5), .val (.int (-1 : Int32)), .val (.int (-1 : Int32)), .unset, .unset, .unset]) at_161 rfl ?_
    refine s_iload 165 C X at_163 rfl ?_
    refine s_iconst 166 C X at_165 kc_iconst_2 ?_
    refine s_icmp_le 174 169 C X at_166 (fun _ => ?_) (fun c => absurd c (by decide))
    refine s_iconst 175 C X at_174 kc_iconst_m1 ?_
    refine s_istore 177 C X (l' := #[.val (.int x0), .val (.int x1), .val (.int x2), .val (.int x3), .val (.int x4), .val (.int x5), .val (.int (0 : Int32)), .val (.int kk), .val (.int c0), .val (.int c1), .val (.int c2), .val (.int c3), .val (.int c4), .val (.ref o5), .val (.int (-1 : Int32)), .val (.int (-1 : Int32)), .val (.int (-1 : Int32)), .unset, .unset]) at_175 rfl ?_
    refine s_iload 179 C X at_177 rfl ?_
    refine s_iconst 180 C X at_179 kc_iconst_3 ?_
    refine s_icmp_le 188 183 C X at_180 (fun _ => ?_) (fun c => absurd c (by decide))
    refine s_iconst 189 C X at_188 kc_iconst_m1 ?_
    refine s_istore 191 C X (l' := #[.val (.int x0), .val (.int x1), .val (.int x2), .val (.int x3), .val (.int x4), .val (.int x5), .val (.int (0 : Int32)), .val (.int kk), .val (.int c0), .val (.int c1), .val (.int c2), .val (.int c3), .val (.int c4), .val (.ref o5), .val (.int (-1 : Int32)), .val (.int (-1 : Int32)), .val (.int (-1 : Int32)), .val (.int (-1 : Int32)), .unset]) at_189 rfl ?_
    have J : ∀ (T : State) (ex : Addr), ex = nthA f0 f1 f2 f3 f4 f5 (famI ((-1 : Int)) ((-1 : Int)) ((-1 : Int)) ((-1 : Int))) → St p l e room_1 s m #[(.int x0), (.int x1), (.int x2), (.int x3), (.int x4), (.int x5)] below meth c n0 T hh 5 128 → Run p e below n0 (fun (v : Option Value) (h : Heap) => v = some (.int 1)) (fun o t L => FrameEnd s o t L room_1.cells room_1.slots) m T 438 #[.val (.int x0), .val (.int x1), .val (.int x2), .val (.int x3), .val (.int x4), .val (.int x5), .val (.int (0 : Int32)), .val (.int kk), .val (.int c0), .val (.int c1), .val (.int c2), .val (.int c3), .val (.int c4), .val (.ref o5), .val (.int (-1 : Int32)), .val (.int (-1 : Int32)), .val (.int (-1 : Int32)), .val (.int (-1 : Int32)), .val (.ref ex)] [] := by
      intro T ex hex X
      refine s_aload 440 C X at_438 rfl rfl ?_
      have ha : ∀ i : Nat, (i : Int) < (0 : Int32).toInt → ([] : List Value).getD i (.int 0) = .int ((nth4 0 0 0 0) i) := by
        intro i hi
        have kz : (0 : Int32).toInt = 0 := by decide
        rcases i with i
        · exfalso; omega
      have A_av := AV.ext Od.2
      have E_av := EV.ext Od.2
      have B0 := B0.ext Od.2
      have G0 := G0.ext Od.2
      have Ab0 := Ab0.ext Od.2
      have Ag0 := Ag0.ext Od.2
      have B1 := B1.ext Od.2
      have G1 := G1.ext Od.2
      have Ab1 := Ab1.ext Od.2
      have Ag1 := Ag1.ext Od.2
      have B2 := B2.ext Od.2
      have G2 := G2.ext Od.2
      have Ab2 := Ab2.ext Od.2
      have Ag2 := Ag2.ext Od.2
      have B3 := B3.ext Od.2
      have G3 := G3.ext Od.2
      have Ab3 := Ab3.ext Od.2
      have Ag3 := Ag3.ext Od.2
      have B4 := B4.ext Od.2
      have G4 := G4.ext Od.2
      have Ab4 := Ab4.ext Od.2
      have Ag4 := Ag4.ext Od.2
      have B5 := B5.ext Od.2
      have G5 := G5.ext Od.2
      have Ab5 := Ab5.ext Od.2
      have Ag5 := Ag5.ext Od.2
      refine s_callS 443 [(.ref o5)] [] 0 C X at_440 (List.mem_of_getElem? (i := 12) rfl) (List.mem_of_getElem? (i := 13) rfl) (List.mem_of_getElem? (i := 10) rfl) (List.mem_of_getElem? (i := 14) rfl) (rm_of l Z a0 hw o5 0 k_o5 _ (nth4 0 0 0 0) av k_av f0 f1 f2 f3 f4 f5 b0 g0 k_b0 k_g0 vb0 vg0 b1 g1 k_b1 k_g1 vb1 vg1 b2 g2 k_b2 k_g2 vb2 vg2 b3 g3 k_b3 k_g3 vb3 vg3 b4 g4 k_b4 k_g4 vb4 vg4 b5 g5 k_b5 k_g5 vb5 vg5 _ n0 X.sz Od S_V A_av E_av S_0 A_o5 ha B0 G0 Ab0 Hb0 Ag0 Hg0 B1 G1 Ab1 Hb1 Ag1 Hg1 B2 G2 Ab2 Hb2 Ag2 Hg2 B3 G3 Ab3 Hb3 Ag3 Hg3 B4 G4 Ab4 Hb4 Ag4 Hg4 B5 G5 Ab5 Hb5 Ag5 Hg5) (lenOf pd___B_Lcom_example_shapelint_shapelint_io_XmlEncodingFamily_ rfl) rfl rfl rfl (fun T v hh X q => ?_)
      obtain ⟨rfl, Kc⟩ := q
      refine Run.cast (st' := [(.ref (nthA f0 f1 f2 f3 f4 f5 (famS (0 : Int32).toInt ((0 : Int32)).toInt ((0 : Int32)).toInt ((0 : Int32)).toInt ((0 : Int32)).toInt)))]) rfl ?_
      refine s_aload 445 C X at_443 rfl rfl ?_
      have kn : (0 : Int32).toInt = 0 := by decide
      have hs : famS (0 : Int32).toInt ((0 : Int32)).toInt ((0 : Int32)).toInt ((0 : Int32)).toInt ((0 : Int32)).toInt = famI ((-1 : Int)) ((-1 : Int)) ((-1 : Int)) ((-1 : Int)) := own_same (by omega) (by omega) (by omega) (by omega)
      have hz : ((.ref (nthA f0 f1 f2 f3 f4 f5 (famS (0 : Int32).toInt ((0 : Int32)).toInt ((0 : Int32)).toInt ((0 : Int32)).toInt ((0 : Int32)).toInt))) : Value) = (.ref ex) := by rw [hs, hex]
      refine s_acmp_ne 452 448 C X at_445 rfl rfl (fun c => absurd hz c) (fun c445 => ?_)
      refine s_iconst 449 C X at_448 kc_iconst_1 ?_
      refine s_goto 453 C X at_449 ?_
      refine s_nreturn C X at_453 rfl (by simp) rfl ?_
      rfl
    have J8 : ∀ (T : State), St p l e room_1 s m #[(.int x0), (.int x1), (.int x2), (.int x3), (.int x4), (.int x5)] below meth c n0 T hh 5 128 → ¬ ((-1 : Int) = 239 ∧ (-1 : Int) = 187 ∧ (-1 : Int) = 191) → ¬ ((-1 : Int) = 254 ∧ (-1 : Int) = 255) → ¬ ((-1 : Int) = 0 ∧ (-1 : Int) = 60 ∧ (-1 : Int) = 0 ∧ (-1 : Int) = 63) → ¬ ((-1 : Int) = 255 ∧ (-1 : Int) = 254) → ¬ ((-1 : Int) = 60 ∧ (-1 : Int) = 0 ∧ (-1 : Int) = 63 ∧ (-1 : Int) = 0) → ¬ ((-1 : Int) = 0 ∧ (-1 : Int) = 0 ∧ (-1 : Int) = 0 ∧ (-1 : Int) = 60) → ¬ ((-1 : Int) = 60 ∧ (-1 : Int) = 0 ∧ (-1 : Int) = 0 ∧ (-1 : Int) = 0) → ¬ ((-1 : Int) = 76 ∧ (-1 : Int) = 111 ∧ (-1 : Int) = 167 ∧ (-1 : Int) = 148) → Run p e below n0 (fun (v : Option Value) (h : Heap) => v = some (.int 1)) (fun o t L => FrameEnd s o t L room_1.cells room_1.slots) m T 433 #[.val (.int x0), .val (.int x1), .val (.int x2), .val (.int x3), .val (.int x4), .val (.int x5), .val (.int (0 : Int32)), .val (.int kk), .val (.int c0), .val (.int c1), .val (.int c2), .val (.int c3), .val (.int c4), .val (.ref o5), .val (.int (-1 : Int32)), .val (.int (-1 : Int32)), .val (.int (-1 : Int32)), .val (.int (-1 : Int32)), .unset] [] := by
      intro T X q0 q1 q2 q3 q4 q5 q6 q7
      refine s_getstatic 436 C X (host := "") at_433 (Or.inl (List.mem_of_getElem? (i := 9) rfl)) Via.refl (S_0.ext Od.2) (fun T X => ?_)
      refine s_astore 438 C X (l' := #[.val (.int x0), .val (.int x1), .val (.int x2), .val (.int x3), .val (.int x4), .val (.int x5), .val (.int (0 : Int32)), .val (.int kk), .val (.int c0), .val (.int c1), .val (.int c2), .val (.int c3), .val (.int c4), .val (.ref o5), .val (.int (-1 : Int32)), .val (.int (-1 : Int32)), .val (.int (-1 : Int32)), .val (.int (-1 : Int32)), .val (.ref f0)]) at_436 rfl rfl ?_
      refine J T _ ?_ X
      have hf : famI ((-1 : Int)) ((-1 : Int)) ((-1 : Int)) ((-1 : Int)) = 0 := by
        unfold famI
        rw [if_neg (by omega), if_neg (by omega), if_neg (by omega), if_neg (by omega), if_neg (by omega), if_neg (by omega), if_neg (by omega), if_neg (by omega)]
      rw [hf]; rfl
    have J7 : ∀ (T : State), St p l e room_1 s m #[(.int x0), (.int x1), (.int x2), (.int x3), (.int x4), (.int x5)] below meth c n0 T hh 5 128 → ¬ ((-1 : Int) = 239 ∧ (-1 : Int) = 187 ∧ (-1 : Int) = 191) → ¬ ((-1 : Int) = 254 ∧ (-1 : Int) = 255) → ¬ ((-1 : Int) = 0 ∧ (-1 : Int) = 60 ∧ (-1 : Int) = 0 ∧ (-1 : Int) = 63) → ¬ ((-1 : Int) = 255 ∧ (-1 : Int) = 254) → ¬ ((-1 : Int) = 60 ∧ (-1 : Int) = 0 ∧ (-1 : Int) = 63 ∧ (-1 : Int) = 0) → ¬ ((-1 : Int) = 0 ∧ (-1 : Int) = 0 ∧ (-1 : Int) = 0 ∧ (-1 : Int) = 60) → ¬ ((-1 : Int) = 60 ∧ (-1 : Int) = 0 ∧ (-1 : Int) = 0 ∧ (-1 : Int) = 0) → Run p e below n0 (fun (v : Option Value) (h : Heap) => v = some (.int 1)) (fun o t L => FrameEnd s o t L room_1.cells room_1.slots) m T 395 #[.val (.int x0), .val (.int x1), .val (.int x2), .val (.int x3), .val (.int x4), .val (.int x5), .val (.int (0 : Int32)), .val (.int kk), .val (.int c0), .val (.int c1), .val (.int c2), .val (.int c3), .val (.int c4), .val (.ref o5), .val (.int (-1 : Int32)), .val (.int (-1 : Int32)), .val (.int (-1 : Int32)), .val (.int (-1 : Int32)), .unset] [] := by
      intro T X q0 q1 q2 q3 q4 q5 q6
      refine s_iload 397 C X at_395 rfl ?_
      refine s_bipush 399 C X at_397 kc_bipush_76 ?_
      refine s_icmp_ne 433 402 C X at_399 (fun _ => ?_) (fun c => absurd c (by decide))
      exact J8 T X (by omega) (by omega) (by omega) (by omega) (by omega) (by omega) (by omega) (by omega)
    have J6 : ∀ (T : State), St p l e room_1 s m #[(.int x0), (.int x1), (.int x2), (.int x3), (.int x4), (.int x5)] below meth c n0 T hh 5 128 → ¬ ((-1 : Int) = 239 ∧ (-1 : Int) = 187 ∧ (-1 : Int) = 191) → ¬ ((-1 : Int) = 254 ∧ (-1 : Int) = 255) → ¬ ((-1 : Int) = 0 ∧ (-1 : Int) = 60 ∧ (-1 : Int) = 0 ∧ (-1 : Int) = 63) → ¬ ((-1 : Int) = 255 ∧ (-1 : Int) = 254) → ¬ ((-1 : Int) = 60 ∧ (-1 : Int) = 0 ∧ (-1 : Int) = 63 ∧ (-1 : Int) = 0) → ¬ ((-1 : Int) = 0 ∧ (-1 : Int) = 0 ∧ (-1 : Int) = 0 ∧ (-1 : Int) = 60) → Run p e below n0 (fun (v : Option Value) (h : Heap) => v = some (.int 1)) (fun o t L => FrameEnd s o t L room_1.cells room_1.slots) m T 365 #[.val (.int x0), .val (.int x1), .val (.int x2), .val (.int x3), .val (.int x4), .val (.int x5), .val (.int (0 : Int32)), .val (.int kk), .val (.int c0), .val (.int c1), .val (.int c2), .val (.int c3), .val (.int c4), .val (.ref o5), .val (.int (-1 : Int32)), .val (.int (-1 : Int32)), .val (.int (-1 : Int32)), .val (.int (-1 : Int32)), .unset] [] := by
      intro T X q0 q1 q2 q3 q4 q5
      refine s_iload 367 C X at_365 rfl ?_
      refine s_bipush 369 C X at_367 kc_bipush_60 ?_
      refine s_icmp_ne 395 372 C X at_369 (fun _ => ?_) (fun c => absurd c (by decide))
      exact J7 T X (by omega) (by omega) (by omega) (by omega) (by omega) (by omega) (by omega)
    have J5 : ∀ (T : State), St p l e room_1 s m #[(.int x0), (.int x1), (.int x2), (.int x3), (.int x4), (.int x5)] below meth c n0 T hh 5 128 → ¬ ((-1 : Int) = 239 ∧ (-1 : Int) = 187 ∧ (-1 : Int) = 191) → ¬ ((-1 : Int) = 254 ∧ (-1 : Int) = 255) → ¬ ((-1 : Int) = 0 ∧ (-1 : Int) = 60 ∧ (-1 : Int) = 0 ∧ (-1 : Int) = 63) → ¬ ((-1 : Int) = 255 ∧ (-1 : Int) = 254) → ¬ ((-1 : Int) = 60 ∧ (-1 : Int) = 0 ∧ (-1 : Int) = 63 ∧ (-1 : Int) = 0) → Run p e below n0 (fun (v : Option Value) (h : Heap) => v = some (.int 1)) (fun o t L => FrameEnd s o t L room_1.cells room_1.slots) m T 335 #[.val (.int x0), .val (.int x1), .val (.int x2), .val (.int x3), .val (.int x4), .val (.int x5), .val (.int (0 : Int32)), .val (.int kk), .val (.int c0), .val (.int c1), .val (.int c2), .val (.int c3), .val (.int c4), .val (.ref o5), .val (.int (-1 : Int32)), .val (.int (-1 : Int32)), .val (.int (-1 : Int32)), .val (.int (-1 : Int32)), .unset] [] := by
      intro T X q0 q1 q2 q3 q4
      refine s_iload 337 C X at_335 rfl ?_
      refine s_if_ne 365 340 C X at_337 (fun _ => ?_) (fun c => absurd c (by decide))
      exact J6 T X (by omega) (by omega) (by omega) (by omega) (by omega) (by omega)
    have J4 : ∀ (T : State), St p l e room_1 s m #[(.int x0), (.int x1), (.int x2), (.int x3), (.int x4), (.int x5)] below meth c n0 T hh 5 128 → ¬ ((-1 : Int) = 239 ∧ (-1 : Int) = 187 ∧ (-1 : Int) = 191) → ¬ ((-1 : Int) = 254 ∧ (-1 : Int) = 255) → ¬ ((-1 : Int) = 0 ∧ (-1 : Int) = 60 ∧ (-1 : Int) = 0 ∧ (-1 : Int) = 63) → ¬ ((-1 : Int) = 255 ∧ (-1 : Int) = 254) → Run p e below n0 (fun (v : Option Value) (h : Heap) => v = some (.int 1)) (fun o t L => FrameEnd s o t L room_1.cells room_1.slots) m T 303 #[.val (.int x0), .val (.int x1), .val (.int x2), .val (.int x3), .val (.int x4), .val (.int x5), .val (.int (0 : Int32)), .val (.int kk), .val (.int c0), .val (.int c1), .val (.int c2), .val (.int c3), .val (.int c4), .val (.ref o5), .val (.int (-1 : Int32)), .val (.int (-1 : Int32)), .val (.int (-1 : Int32)), .val (.int (-1 : Int32)), .unset] [] := by
      intro T X q0 q1 q2 q3
      refine s_iload 305 C X at_303 rfl ?_
      refine s_bipush 307 C X at_305 kc_bipush_60 ?_
      refine s_icmp_ne 335 310 C X at_307 (fun _ => ?_) (fun c => absurd c (by decide))
      exact J5 T X (by omega) (by omega) (by omega) (by omega) (by omega)
    have J3 : ∀ (T : State), St p l e room_1 s m #[(.int x0), (.int x1), (.int x2), (.int x3), (.int x4), (.int x5)] below meth c n0 T hh 5 128 → ¬ ((-1 : Int) = 239 ∧ (-1 : Int) = 187 ∧ (-1 : Int) = 191) → ¬ ((-1 : Int) = 254 ∧ (-1 : Int) = 255) → ¬ ((-1 : Int) = 0 ∧ (-1 : Int) = 60 ∧ (-1 : Int) = 0 ∧ (-1 : Int) = 63) → Run p e below n0 (fun (v : Option Value) (h : Heap) => v = some (.int 1)) (fun o t L => FrameEnd s o t L room_1.cells room_1.slots) m T 279 #[.val (.int x0), .val (.int x1), .val (.int x2), .val (.int x3), .val (.int x4), .val (.int x5), .val (.int (0 : Int32)), .val (.int kk), .val (.int c0), .val (.int c1), .val (.int c2), .val (.int c3), .val (.int c4), .val (.ref o5), .val (.int (-1 : Int32)), .val (.int (-1 : Int32)), .val (.int (-1 : Int32)), .val (.int (-1 : Int32)), .unset] [] := by
      intro T X q0 q1 q2
      refine s_iload 281 C X at_279 rfl ?_
      refine s_sipush 284 C X at_281 kc_sipush_255 ?_
      refine s_icmp_ne 303 287 C X at_284 (fun _ => ?_) (fun c => absurd c (by decide))
      exact J4 T X (by omega) (by omega) (by omega) (by omega)
    have J2 : ∀ (T : State), St p l e room_1 s m #[(.int x0), (.int x1), (.int x2), (.int x3), (.int x4), (.int x5)] below meth c n0 T hh 5 128 → ¬ ((-1 : Int) = 239 ∧ (-1 : Int) = 187 ∧ (-1 : Int) = 191) → ¬ ((-1 : Int) = 254 ∧ (-1 : Int) = 255) → Run p e below n0 (fun (v : Option Value) (h : Heap) => v = some (.int 1)) (fun o t L => FrameEnd s o t L room_1.cells room_1.slots) m T 247 #[.val (.int x0), .val (.int x1), .val (.int x2), .val (.int x3), .val (.int x4), .val (.int x5), .val (.int (0 : Int32)), .val (.int kk), .val (.int c0), .val (.int c1), .val (.int c2), .val (.int c3), .val (.int c4), .val (.ref o5), .val (.int (-1 : Int32)), .val (.int (-1 : Int32)), .val (.int (-1 : Int32)), .val (.int (-1 : Int32)), .unset] [] := by
      intro T X q0 q1
      refine s_iload 249 C X at_247 rfl ?_
      refine s_if_ne 279 252 C X at_249 (fun _ => ?_) (fun c => absurd c (by decide))
      exact J3 T X (by omega) (by omega) (by omega)
    have J1 : ∀ (T : State), St p l e room_1 s m #[(.int x0), (.int x1), (.int x2), (.int x3), (.int x4), (.int x5)] below meth c n0 T hh 5 128 → ¬ ((-1 : Int) = 239 ∧ (-1 : Int) = 187 ∧ (-1 : Int) = 191) → Run p e below n0 (fun (v : Option Value) (h : Heap) => v = some (.int 1)) (fun o t L => FrameEnd s o t L room_1.cells room_1.slots) m T 223 #[.val (.int x0), .val (.int x1), .val (.int x2), .val (.int x3), .val (.int x4), .val (.int x5), .val (.int (0 : Int32)), .val (.int kk), .val (.int c0), .val (.int c1), .val (.int c2), .val (.int c3), .val (.int c4), .val (.ref o5), .val (.int (-1 : Int32)), .val (.int (-1 : Int32)), .val (.int (-1 : Int32)), .val (.int (-1 : Int32)), .unset] [] := by
      intro T X q0
      refine s_iload 225 C X at_223 rfl ?_
      refine s_sipush 228 C X at_225 kc_sipush_254 ?_
      refine s_icmp_ne 247 231 C X at_228 (fun _ => ?_) (fun c => absurd c (by decide))
      exact J2 T X (by omega) (by omega)
    refine s_iload 193 C X at_191 rfl ?_
    refine s_sipush 196 C X at_193 kc_sipush_239 ?_
    refine s_icmp_ne 223 199 C X at_196 (fun _ => ?_) (fun c => absurd c (by decide))
    exact J1 T X (by omega)
  · refine s_iload 68 C X at_66 rfl ?_
    refine s_newarray 70 1 C X at_68 (List.mem_of_getElem? (i := 8) rfl) (by decide) (by decide) (fun T hh o7 k_o7 hb_o7 X E A_o7 g_o7 => ?_)
    have Od := Od.ext E
    have A_o7 : Arv Z _ o7 k_o7 .byte (1 : Int32) [(.int (0 : Int32))] (.int (0 : Int32)) := A_o7.pad (pad_rep [] _ 1)
    refine s_astore 72 C X (l' := #[.val (.int x0), .val (.int x1), .val (.int x2), .val (.int x3), .val (.int x4), .val (.int x5), .val (.int (1 : Int32)), .val (.int kk), .val (.int c0), .val (.int c1), .val (.int c2), .val (.int c3), .val (.int c4), .val (.ref o7), .unset, .unset, .unset, .unset, .unset]) at_70 rfl rfl ?_
    refine s_iload 74 C X at_72 rfl ?_
    refine s_if_le 84 77 C X at_74 (fun c => absurd (by decide : (0 : Int32) < (1 : Int32)) c) (fun _ => ?_)
    refine s_aload 79 C X at_77 rfl rfl ?_
    refine s_iconst 80 C X at_79 kc_iconst_0 ?_
    refine s_iload 82 C X at_80 rfl ?_
    refine s_i2b 83 C X at_82 ?_
    refine s_bastore 84 0 C X at_83 A_o7 g_o7 ⟨by decide, by decide⟩ rfl (Nat.le_of_ble_eq_true rfl) (fun T hh X W A_o7 => ?_)
    have A_o7 : Arv Z _ o7 k_o7 .byte (1 : Int32) [(.int (nar .byte (c0).toInt8.toInt32))] (.int (0 : Int32)) := A_o7
    have Od := Od.wr W g_o7
    refine s_iload 86 C X at_84 rfl ?_
    refine s_iconst 87 C X at_86 kc_iconst_1 ?_
    refine s_icmp_le 97 90 C X at_87 (fun _ => ?_) (fun c => absurd c (by decide))
    refine s_iload 99 C X at_97 rfl ?_
    refine s_iconst 100 C X at_99 kc_iconst_2 ?_
    refine s_icmp_le 110 103 C X at_100 (fun _ => ?_) (fun c => absurd c (by decide))
    refine s_iload 112 C X at_110 rfl ?_
    refine s_iconst 113 C X at_112 kc_iconst_3 ?_
    refine s_icmp_le 123 116 C X at_113 (fun _ => ?_) (fun c => absurd c (by decide))
    refine s_iload 125 C X at_123 rfl ?_
    refine s_iconst 126 C X at_125 kc_iconst_4 ?_
    refine s_icmp_le 136 129 C X at_126 (fun _ => ?_) (fun c => absurd c (by decide))
    refine s_iload 138 C X at_136 rfl ?_
    refine s_if_le 146 141 C X at_138 (fun c => absurd (by decide : (0 : Int32) < (1 : Int32)) c) (fun _ => ?_)
    refine s_iload 143 C X at_141 rfl ?_
    refine s_goto 147 C X at_143 ?_
    refine s_istore 149 C X (l' := #[.val (.int x0), .val (.int x1), .val (.int x2), .val (.int x3), .val (.int x4), .val (.int x5), .val (.int (1 : Int32)), .val (.int kk), .val (.int c0), .val (.int c1), .val (.int c2), .val (.int c3), .val (.int c4), .val (.ref o7), .val (.int c0), .unset, .unset, .unset, .unset]) at_147 rfl ?_
    refine s_iload 151 C X at_149 rfl ?_
    refine s_iconst 152 C X at_151 kc_iconst_1 ?_
    refine s_icmp_le 160 155 C X at_152 (fun _ => ?_) (fun c => absurd c (by decide))
    refine s_iconst 161 C X at_160 kc_iconst_m1 ?_
    refine s_istore 163 C X (l' := #[.val (.int x0), .val (.int x1), .val (.int x2), .val (.int x3), .val (.int x4), .val (.int x5), .val (.int (1 : Int32)), .val (.int kk), .val (.int c0), .val (.int c1), .val (.int c2), .val (.int c3), .val (.int c4), .val (.ref o7), .val (.int c0), .val (.int (-1 : Int32)), .unset, .unset, .unset]) at_161 rfl ?_
    refine s_iload 165 C X at_163 rfl ?_
    refine s_iconst 166 C X at_165 kc_iconst_2 ?_
    refine s_icmp_le 174 169 C X at_166 (fun _ => ?_) (fun c => absurd c (by decide))
    refine s_iconst 175 C X at_174 kc_iconst_m1 ?_
    refine s_istore 177 C X (l' := #[.val (.int x0), .val (.int x1), .val (.int x2), .val (.int x3), .val (.int x4), .val (.int x5), .val (.int (1 : Int32)), .val (.int kk), .val (.int c0), .val (.int c1), .val (.int c2), .val (.int c3), .val (.int c4), .val (.ref o7), .val (.int c0), .val (.int (-1 : Int32)), .val (.int (-1 : Int32)), .unset, .unset]) at_175 rfl ?_
    refine s_iload 179 C X at_177 rfl ?_
    refine s_iconst 180 C X at_179 kc_iconst_3 ?_
    refine s_icmp_le 188 183 C X at_180 (fun _ => ?_) (fun c => absurd c (by decide))
    refine s_iconst 189 C X at_188 kc_iconst_m1 ?_
    refine s_istore 191 C X (l' := #[.val (.int x0), .val (.int x1), .val (.int x2), .val (.int x3), .val (.int x4), .val (.int x5), .val (.int (1 : Int32)), .val (.int kk), .val (.int c0), .val (.int c1), .val (.int c2), .val (.int c3), .val (.int c4), .val (.ref o7), .val (.int c0), .val (.int (-1 : Int32)), .val (.int (-1 : Int32)), .val (.int (-1 : Int32)), .unset]) at_189 rfl ?_
    have J : ∀ (T : State) (ex : Addr), ex = nthA f0 f1 f2 f3 f4 f5 (famI (c0.toInt) ((-1 : Int)) ((-1 : Int)) ((-1 : Int))) → St p l e room_1 s m #[(.int x0), (.int x1), (.int x2), (.int x3), (.int x4), (.int x5)] below meth c n0 T hh 5 129 → Run p e below n0 (fun (v : Option Value) (h : Heap) => v = some (.int 1)) (fun o t L => FrameEnd s o t L room_1.cells room_1.slots) m T 438 #[.val (.int x0), .val (.int x1), .val (.int x2), .val (.int x3), .val (.int x4), .val (.int x5), .val (.int (1 : Int32)), .val (.int kk), .val (.int c0), .val (.int c1), .val (.int c2), .val (.int c3), .val (.int c4), .val (.ref o7), .val (.int c0), .val (.int (-1 : Int32)), .val (.int (-1 : Int32)), .val (.int (-1 : Int32)), .val (.ref ex)] [] := by
      intro T ex hex X
      refine s_aload 440 C X at_438 rfl rfl ?_
      have ha : ∀ i : Nat, (i : Int) < (1 : Int32).toInt → ([(.int (bb c0))] : List Value).getD i (.int 0) = .int ((nth4 (bb c0) 0 0 0) i) := by
        intro i hi
        have kz : (1 : Int32).toInt = 1 := by decide
        rcases i with _ | i
        · rfl
        · exfalso; omega
      have A_av := AV.ext Od.2
      have E_av := EV.ext Od.2
      have B0 := B0.ext Od.2
      have G0 := G0.ext Od.2
      have Ab0 := Ab0.ext Od.2
      have Ag0 := Ag0.ext Od.2
      have B1 := B1.ext Od.2
      have G1 := G1.ext Od.2
      have Ab1 := Ab1.ext Od.2
      have Ag1 := Ag1.ext Od.2
      have B2 := B2.ext Od.2
      have G2 := G2.ext Od.2
      have Ab2 := Ab2.ext Od.2
      have Ag2 := Ag2.ext Od.2
      have B3 := B3.ext Od.2
      have G3 := G3.ext Od.2
      have Ab3 := Ab3.ext Od.2
      have Ag3 := Ag3.ext Od.2
      have B4 := B4.ext Od.2
      have G4 := G4.ext Od.2
      have Ab4 := Ab4.ext Od.2
      have Ag4 := Ag4.ext Od.2
      have B5 := B5.ext Od.2
      have G5 := G5.ext Od.2
      have Ab5 := Ab5.ext Od.2
      have Ag5 := Ag5.ext Od.2
      refine s_callS 443 [(.ref o7)] [] 0 C X at_440 (List.mem_of_getElem? (i := 12) rfl) (List.mem_of_getElem? (i := 13) rfl) (List.mem_of_getElem? (i := 10) rfl) (List.mem_of_getElem? (i := 14) rfl) (rm_of l Z a0 hw o7 1 k_o7 _ (nth4 (bb c0) 0 0 0) av k_av f0 f1 f2 f3 f4 f5 b0 g0 k_b0 k_g0 vb0 vg0 b1 g1 k_b1 k_g1 vb1 vg1 b2 g2 k_b2 k_g2 vb2 vg2 b3 g3 k_b3 k_g3 vb3 vg3 b4 g4 k_b4 k_g4 vb4 vg4 b5 g5 k_b5 k_g5 vb5 vg5 _ n0 X.sz Od S_V A_av E_av S_0 A_o7 ha B0 G0 Ab0 Hb0 Ag0 Hg0 B1 G1 Ab1 Hb1 Ag1 Hg1 B2 G2 Ab2 Hb2 Ag2 Hg2 B3 G3 Ab3 Hb3 Ag3 Hg3 B4 G4 Ab4 Hb4 Ag4 Hg4 B5 G5 Ab5 Hb5 Ag5 Hg5) (lenOf pd___B_Lcom_example_shapelint_shapelint_io_XmlEncodingFamily_ rfl) rfl rfl rfl (fun T v hh X q => ?_)
      obtain ⟨rfl, Kc⟩ := q
      refine Run.cast (st' := [(.ref (nthA f0 f1 f2 f3 f4 f5 (famS (1 : Int32).toInt (bb c0).toInt ((0 : Int32)).toInt ((0 : Int32)).toInt ((0 : Int32)).toInt)))]) rfl ?_
      refine s_aload 445 C X at_443 rfl rfl ?_
      have bq0 := own_bbc ⟨l_c0, u_c0⟩
      have kn : (1 : Int32).toInt = 1 := by decide
      have hs : famS (1 : Int32).toInt (bb c0).toInt ((0 : Int32)).toInt ((0 : Int32)).toInt ((0 : Int32)).toInt = famI (c0.toInt) ((-1 : Int)) ((-1 : Int)) ((-1 : Int)) := own_same (by omega) (by omega) (by omega) (by omega)
      have hz : ((.ref (nthA f0 f1 f2 f3 f4 f5 (famS (1 : Int32).toInt (bb c0).toInt ((0 : Int32)).toInt ((0 : Int32)).toInt ((0 : Int32)).toInt))) : Value) = (.ref ex) := by rw [hs, hex]
      refine s_acmp_ne 452 448 C X at_445 rfl rfl (fun c => absurd hz c) (fun c445 => ?_)
      refine s_iconst 449 C X at_448 kc_iconst_1 ?_
      refine s_goto 453 C X at_449 ?_
      refine s_nreturn C X at_453 rfl (by simp) rfl ?_
      rfl
    have J8 : ∀ (T : State), St p l e room_1 s m #[(.int x0), (.int x1), (.int x2), (.int x3), (.int x4), (.int x5)] below meth c n0 T hh 5 129 → ¬ (c0.toInt = 239 ∧ (-1 : Int) = 187 ∧ (-1 : Int) = 191) → ¬ (c0.toInt = 254 ∧ (-1 : Int) = 255) → ¬ (c0.toInt = 0 ∧ (-1 : Int) = 60 ∧ (-1 : Int) = 0 ∧ (-1 : Int) = 63) → ¬ (c0.toInt = 255 ∧ (-1 : Int) = 254) → ¬ (c0.toInt = 60 ∧ (-1 : Int) = 0 ∧ (-1 : Int) = 63 ∧ (-1 : Int) = 0) → ¬ (c0.toInt = 0 ∧ (-1 : Int) = 0 ∧ (-1 : Int) = 0 ∧ (-1 : Int) = 60) → ¬ (c0.toInt = 60 ∧ (-1 : Int) = 0 ∧ (-1 : Int) = 0 ∧ (-1 : Int) = 0) → ¬ (c0.toInt = 76 ∧ (-1 : Int) = 111 ∧ (-1 : Int) = 167 ∧ (-1 : Int) = 148) → Run p e below n0 (fun (v : Option Value) (h : Heap) => v = some (.int 1)) (fun o t L => FrameEnd s o t L room_1.cells room_1.slots) m T 433 #[.val (.int x0), .val (.int x1), .val (.int x2), .val (.int x3), .val (.int x4), .val (.int x5), .val (.int (1 : Int32)), .val (.int kk), .val (.int c0), .val (.int c1), .val (.int c2), .val (.int c3), .val (.int c4), .val (.ref o7), .val (.int c0), .val (.int (-1 : Int32)), .val (.int (-1 : Int32)), .val (.int (-1 : Int32)), .unset] [] := by
      intro T X q0 q1 q2 q3 q4 q5 q6 q7
      refine s_getstatic 436 C X (host := "") at_433 (Or.inl (List.mem_of_getElem? (i := 9) rfl)) Via.refl (S_0.ext Od.2) (fun T X => ?_)
      refine s_astore 438 C X (l' := #[.val (.int x0), .val (.int x1), .val (.int x2), .val (.int x3), .val (.int x4), .val (.int x5), .val (.int (1 : Int32)), .val (.int kk), .val (.int c0), .val (.int c1), .val (.int c2), .val (.int c3), .val (.int c4), .val (.ref o7), .val (.int c0), .val (.int (-1 : Int32)), .val (.int (-1 : Int32)), .val (.int (-1 : Int32)), .val (.ref f0)]) at_436 rfl rfl ?_
      refine J T _ ?_ X
      have hf : famI (c0.toInt) ((-1 : Int)) ((-1 : Int)) ((-1 : Int)) = 0 := by
        unfold famI
        rw [if_neg (by omega), if_neg (by omega), if_neg (by omega), if_neg (by omega), if_neg (by omega), if_neg (by omega), if_neg (by omega), if_neg (by omega)]
      rw [hf]; rfl
    have J7 : ∀ (T : State), St p l e room_1 s m #[(.int x0), (.int x1), (.int x2), (.int x3), (.int x4), (.int x5)] below meth c n0 T hh 5 129 → ¬ (c0.toInt = 239 ∧ (-1 : Int) = 187 ∧ (-1 : Int) = 191) → ¬ (c0.toInt = 254 ∧ (-1 : Int) = 255) → ¬ (c0.toInt = 0 ∧ (-1 : Int) = 60 ∧ (-1 : Int) = 0 ∧ (-1 : Int) = 63) → ¬ (c0.toInt = 255 ∧ (-1 : Int) = 254) → ¬ (c0.toInt = 60 ∧ (-1 : Int) = 0 ∧ (-1 : Int) = 63 ∧ (-1 : Int) = 0) → ¬ (c0.toInt = 0 ∧ (-1 : Int) = 0 ∧ (-1 : Int) = 0 ∧ (-1 : Int) = 60) → ¬ (c0.toInt = 60 ∧ (-1 : Int) = 0 ∧ (-1 : Int) = 0 ∧ (-1 : Int) = 0) → Run p e below n0 (fun (v : Option Value) (h : Heap) => v = some (.int 1)) (fun o t L => FrameEnd s o t L room_1.cells room_1.slots) m T 395 #[.val (.int x0), .val (.int x1), .val (.int x2), .val (.int x3), .val (.int x4), .val (.int x5), .val (.int (1 : Int32)), .val (.int kk), .val (.int c0), .val (.int c1), .val (.int c2), .val (.int c3), .val (.int c4), .val (.ref o7), .val (.int c0), .val (.int (-1 : Int32)), .val (.int (-1 : Int32)), .val (.int (-1 : Int32)), .unset] [] := by
      intro T X q0 q1 q2 q3 q4 q5 q6
      refine s_iload 397 C X at_395 rfl ?_
      refine s_bipush 399 C X at_397 kc_bipush_76 ?_
      refine s_icmp_ne 433 402 C X at_399 (fun c399 => ?_) (fun c399 => ?_)
      · have t_c399 : ¬ ((c0).toInt = (76 : Int)) := fun q => c399 (Int32.toInt_inj.mp q)
        exact J8 T X (by omega) (by omega) (by omega) (by omega) (by omega) (by omega) (by omega) (by omega)
      have t_c399 : (c0).toInt = (76 : Int) := congrArg Int32.toInt c399
      refine s_iload 404 C X at_402 rfl ?_
      refine s_bipush 406 C X at_404 kc_bipush_111 ?_
      refine s_icmp_ne 433 409 C X at_406 (fun _ => ?_) (fun c => absurd c (by decide))
      exact J8 T X (by omega) (by omega) (by omega) (by omega) (by omega) (by omega) (by omega) (by omega)
    have J6 : ∀ (T : State), St p l e room_1 s m #[(.int x0), (.int x1), (.int x2), (.int x3), (.int x4), (.int x5)] below meth c n0 T hh 5 129 → ¬ (c0.toInt = 239 ∧ (-1 : Int) = 187 ∧ (-1 : Int) = 191) → ¬ (c0.toInt = 254 ∧ (-1 : Int) = 255) → ¬ (c0.toInt = 0 ∧ (-1 : Int) = 60 ∧ (-1 : Int) = 0 ∧ (-1 : Int) = 63) → ¬ (c0.toInt = 255 ∧ (-1 : Int) = 254) → ¬ (c0.toInt = 60 ∧ (-1 : Int) = 0 ∧ (-1 : Int) = 63 ∧ (-1 : Int) = 0) → ¬ (c0.toInt = 0 ∧ (-1 : Int) = 0 ∧ (-1 : Int) = 0 ∧ (-1 : Int) = 60) → Run p e below n0 (fun (v : Option Value) (h : Heap) => v = some (.int 1)) (fun o t L => FrameEnd s o t L room_1.cells room_1.slots) m T 365 #[.val (.int x0), .val (.int x1), .val (.int x2), .val (.int x3), .val (.int x4), .val (.int x5), .val (.int (1 : Int32)), .val (.int kk), .val (.int c0), .val (.int c1), .val (.int c2), .val (.int c3), .val (.int c4), .val (.ref o7), .val (.int c0), .val (.int (-1 : Int32)), .val (.int (-1 : Int32)), .val (.int (-1 : Int32)), .unset] [] := by
      intro T X q0 q1 q2 q3 q4 q5
      refine s_iload 367 C X at_365 rfl ?_
      refine s_bipush 369 C X at_367 kc_bipush_60 ?_
      refine s_icmp_ne 395 372 C X at_369 (fun c369 => ?_) (fun c369 => ?_)
      · have t_c369 : ¬ ((c0).toInt = (60 : Int)) := fun q => c369 (Int32.toInt_inj.mp q)
        exact J7 T X (by omega) (by omega) (by omega) (by omega) (by omega) (by omega) (by omega)
      have t_c369 : (c0).toInt = (60 : Int) := congrArg Int32.toInt c369
      refine s_iload 374 C X at_372 rfl ?_
      refine s_if_ne 395 377 C X at_374 (fun _ => ?_) (fun c => absurd c (by decide))
      exact J7 T X (by omega) (by omega) (by omega) (by omega) (by omega) (by omega) (by omega)
    have J5 : ∀ (T : State), St p l e room_1 s m #[(.int x0), (.int x1), (.int x2), (.int x3), (.int x4), (.int x5)] below meth c n0 T hh 5 129 → ¬ (c0.toInt = 239 ∧ (-1 : Int) = 187 ∧ (-1 : Int) = 191) → ¬ (c0.toInt = 254 ∧ (-1 : Int) = 255) → ¬ (c0.toInt = 0 ∧ (-1 : Int) = 60 ∧ (-1 : Int) = 0 ∧ (-1 : Int) = 63) → ¬ (c0.toInt = 255 ∧ (-1 : Int) = 254) → ¬ (c0.toInt = 60 ∧ (-1 : Int) = 0 ∧ (-1 : Int) = 63 ∧ (-1 : Int) = 0) → Run p e below n0 (fun (v : Option Value) (h : Heap) => v = some (.int 1)) (fun o t L => FrameEnd s o t L room_1.cells room_1.slots) m T 335 #[.val (.int x0), .val (.int x1), .val (.int x2), .val (.int x3), .val (.int x4), .val (.int x5), .val (.int (1 : Int32)), .val (.int kk), .val (.int c0), .val (.int c1), .val (.int c2), .val (.int c3), .val (.int c4), .val (.ref o7), .val (.int c0), .val (.int (-1 : Int32)), .val (.int (-1 : Int32)), .val (.int (-1 : Int32)), .unset] [] := by
      intro T X q0 q1 q2 q3 q4
      refine s_iload 337 C X at_335 rfl ?_
      refine s_if_ne 365 340 C X at_337 (fun c337 => ?_) (fun c337 => ?_)
      · have t_c337 : ¬ ((c0).toInt = (0 : Int)) := fun q => c337 (Int32.toInt_inj.mp q)
        exact J6 T X (by omega) (by omega) (by omega) (by omega) (by omega) (by omega)
      have t_c337 : (c0).toInt = (0 : Int) := congrArg Int32.toInt c337
      refine s_iload 342 C X at_340 rfl ?_
      refine s_if_ne 365 345 C X at_342 (fun _ => ?_) (fun c => absurd c (by decide))
      exact J6 T X (by omega) (by omega) (by omega) (by omega) (by omega) (by omega)
    have J4 : ∀ (T : State), St p l e room_1 s m #[(.int x0), (.int x1), (.int x2), (.int x3), (.int x4), (.int x5)] below meth c n0 T hh 5 129 → ¬ (c0.toInt = 239 ∧ (-1 : Int) = 187 ∧ (-1 : Int) = 191) → ¬ (c0.toInt = 254 ∧ (-1 : Int) = 255) → ¬ (c0.toInt = 0 ∧ (-1 : Int) = 60 ∧ (-1 : Int) = 0 ∧ (-1 : Int) = 63) → ¬ (c0.toInt = 255 ∧ (-1 : Int) = 254) → Run p e below n0 (fun (v : Option Value) (h : Heap) => v = some (.int 1)) (fun o t L => FrameEnd s o t L room_1.cells room_1.slots) m T 303 #[.val (.int x0), .val (.int x1), .val (.int x2), .val (.int x3), .val (.int x4), .val (.int x5), .val (.int (1 : Int32)), .val (.int kk), .val (.int c0), .val (.int c1), .val (.int c2), .val (.int c3), .val (.int c4), .val (.ref o7), .val (.int c0), .val (.int (-1 : Int32)), .val (.int (-1 : Int32)), .val (.int (-1 : Int32)), .unset] [] := by
      intro T X q0 q1 q2 q3
      refine s_iload 305 C X at_303 rfl ?_
      refine s_bipush 307 C X at_305 kc_bipush_60 ?_
      refine s_icmp_ne 335 310 C X at_307 (fun c307 => ?_) (fun c307 => ?_)
      · have t_c307 : ¬ ((c0).toInt = (60 : Int)) := fun q => c307 (Int32.toInt_inj.mp q)
        exact J5 T X (by omega) (by omega) (by omega) (by omega) (by omega)
      have t_c307 : (c0).toInt = (60 : Int) := congrArg Int32.toInt c307
      refine s_iload 312 C X at_310 rfl ?_
      refine s_if_ne 335 315 C X at_312 (fun _ => ?_) (fun c => absurd c (by decide))
      exact J5 T X (by omega) (by omega) (by omega) (by omega) (by omega)
    have J3 : ∀ (T : State), St p l e room_1 s m #[(.int x0), (.int x1), (.int x2), (.int x3), (.int x4), (.int x5)] below meth c n0 T hh 5 129 → ¬ (c0.toInt = 239 ∧ (-1 : Int) = 187 ∧ (-1 : Int) = 191) → ¬ (c0.toInt = 254 ∧ (-1 : Int) = 255) → ¬ (c0.toInt = 0 ∧ (-1 : Int) = 60 ∧ (-1 : Int) = 0 ∧ (-1 : Int) = 63) → Run p e below n0 (fun (v : Option Value) (h : Heap) => v = some (.int 1)) (fun o t L => FrameEnd s o t L room_1.cells room_1.slots) m T 279 #[.val (.int x0), .val (.int x1), .val (.int x2), .val (.int x3), .val (.int x4), .val (.int x5), .val (.int (1 : Int32)), .val (.int kk), .val (.int c0), .val (.int c1), .val (.int c2), .val (.int c3), .val (.int c4), .val (.ref o7), .val (.int c0), .val (.int (-1 : Int32)), .val (.int (-1 : Int32)), .val (.int (-1 : Int32)), .unset] [] := by
      intro T X q0 q1 q2
      refine s_iload 281 C X at_279 rfl ?_
      refine s_sipush 284 C X at_281 kc_sipush_255 ?_
      refine s_icmp_ne 303 287 C X at_284 (fun c284 => ?_) (fun c284 => ?_)
      · have t_c284 : ¬ ((c0).toInt = (255 : Int)) := fun q => c284 (Int32.toInt_inj.mp q)
        exact J4 T X (by omega) (by omega) (by omega) (by omega)
      have t_c284 : (c0).toInt = (255 : Int) := congrArg Int32.toInt c284
      refine s_iload 289 C X at_287 rfl ?_
      refine s_sipush 292 C X at_289 kc_sipush_254 ?_
      refine s_icmp_ne 303 295 C X at_292 (fun _ => ?_) (fun c => absurd c (by decide))
      exact J4 T X (by omega) (by omega) (by omega) (by omega)
    have J2 : ∀ (T : State), St p l e room_1 s m #[(.int x0), (.int x1), (.int x2), (.int x3), (.int x4), (.int x5)] below meth c n0 T hh 5 129 → ¬ (c0.toInt = 239 ∧ (-1 : Int) = 187 ∧ (-1 : Int) = 191) → ¬ (c0.toInt = 254 ∧ (-1 : Int) = 255) → Run p e below n0 (fun (v : Option Value) (h : Heap) => v = some (.int 1)) (fun o t L => FrameEnd s o t L room_1.cells room_1.slots) m T 247 #[.val (.int x0), .val (.int x1), .val (.int x2), .val (.int x3), .val (.int x4), .val (.int x5), .val (.int (1 : Int32)), .val (.int kk), .val (.int c0), .val (.int c1), .val (.int c2), .val (.int c3), .val (.int c4), .val (.ref o7), .val (.int c0), .val (.int (-1 : Int32)), .val (.int (-1 : Int32)), .val (.int (-1 : Int32)), .unset] [] := by
      intro T X q0 q1
      refine s_iload 249 C X at_247 rfl ?_
      refine s_if_ne 279 252 C X at_249 (fun c249 => ?_) (fun c249 => ?_)
      · have t_c249 : ¬ ((c0).toInt = (0 : Int)) := fun q => c249 (Int32.toInt_inj.mp q)
        exact J3 T X (by omega) (by omega) (by omega)
      have t_c249 : (c0).toInt = (0 : Int) := congrArg Int32.toInt c249
      refine s_iload 254 C X at_252 rfl ?_
      refine s_bipush 256 C X at_254 kc_bipush_60 ?_
      refine s_icmp_ne 279 259 C X at_256 (fun _ => ?_) (fun c => absurd c (by decide))
      exact J3 T X (by omega) (by omega) (by omega)
    have J1 : ∀ (T : State), St p l e room_1 s m #[(.int x0), (.int x1), (.int x2), (.int x3), (.int x4), (.int x5)] below meth c n0 T hh 5 129 → ¬ (c0.toInt = 239 ∧ (-1 : Int) = 187 ∧ (-1 : Int) = 191) → Run p e below n0 (fun (v : Option Value) (h : Heap) => v = some (.int 1)) (fun o t L => FrameEnd s o t L room_1.cells room_1.slots) m T 223 #[.val (.int x0), .val (.int x1), .val (.int x2), .val (.int x3), .val (.int x4), .val (.int x5), .val (.int (1 : Int32)), .val (.int kk), .val (.int c0), .val (.int c1), .val (.int c2), .val (.int c3), .val (.int c4), .val (.ref o7), .val (.int c0), .val (.int (-1 : Int32)), .val (.int (-1 : Int32)), .val (.int (-1 : Int32)), .unset] [] := by
      intro T X q0
      refine s_iload 225 C X at_223 rfl ?_
      refine s_sipush 228 C X at_225 kc_sipush_254 ?_
      refine s_icmp_ne 247 231 C X at_228 (fun c228 => ?_) (fun c228 => ?_)
      · have t_c228 : ¬ ((c0).toInt = (254 : Int)) := fun q => c228 (Int32.toInt_inj.mp q)
        exact J2 T X (by omega) (by omega)
      have t_c228 : (c0).toInt = (254 : Int) := congrArg Int32.toInt c228
      refine s_iload 233 C X at_231 rfl ?_
      refine s_sipush 236 C X at_233 kc_sipush_255 ?_
      refine s_icmp_ne 247 239 C X at_236 (fun _ => ?_) (fun c => absurd c (by decide))
      exact J2 T X (by omega) (by omega)
    refine s_iload 193 C X at_191 rfl ?_
    refine s_sipush 196 C X at_193 kc_sipush_239 ?_
    refine s_icmp_ne 223 199 C X at_196 (fun c196 => ?_) (fun c196 => ?_)
    · have t_c196 : ¬ ((c0).toInt = (239 : Int)) := fun q => c196 (Int32.toInt_inj.mp q)
      exact J1 T X (by omega)
    have t_c196 : (c0).toInt = (239 : Int) := congrArg Int32.toInt c196
    refine s_iload 201 C X at_199 rfl ?_
    refine s_sipush 204 C X at_201 kc_sipush_187 ?_
    refine s_icmp_ne 223 207 C X at_204 (fun _ => ?_) (fun c => absurd c (by decide))
    exact J1 T X (by omega)
  · refine s_iload 68 C X at_66 rfl ?_
    refine s_newarray 70 2 C X at_68 (List.mem_of_getElem? (i := 8) rfl) (by decide) (by decide) (fun T hh o9 k_o9 hb_o9 X E A_o9 g_o9 => ?_)
    have Od := Od.ext E
    have A_o9 : Arv Z _ o9 k_o9 .byte (2 : Int32) [(.int (0 : Int32)), (.int (0 : Int32))] (.int (0 : Int32)) := A_o9.pad (pad_rep [] _ 2)
    refine s_astore 72 C X (l' := #[.val (.int x0), .val (.int x1), .val (.int x2), .val (.int x3), .val (.int x4), .val (.int x5), .val (.int (2 : Int32)), .val (.int kk), .val (.int c0), .val (.int c1), .val (.int c2), .val (.int c3), .val (.int c4), .val (.ref o9), .unset, .unset, .unset, .unset, .unset]) at_70 rfl rfl ?_
    refine s_iload 74 C X at_72 rfl ?_
    refine s_if_le 84 77 C X at_74 (fun c => absurd (by decide : (0 : Int32) < (2 : Int32)) c) (fun _ => ?_)
    refine s_aload 79 C X at_77 rfl rfl ?_
    refine s_iconst 80 C X at_79 kc_iconst_0 ?_
    refine s_iload 82 C X at_80 rfl ?_
    refine s_i2b 83 C X at_82 ?_
    refine s_bastore 84 0 C X at_83 A_o9 g_o9 ⟨by decide, by decide⟩ rfl (Nat.le_of_ble_eq_true rfl) (fun T hh X W A_o9 => ?_)
    have A_o9 : Arv Z _ o9 k_o9 .byte (2 : Int32) [(.int (nar .byte (c0).toInt8.toInt32)), (.int (0 : Int32))] (.int (0 : Int32)) := A_o9
    have Od := Od.wr W g_o9
    refine s_iload 86 C X at_84 rfl ?_
    refine s_iconst 87 C X at_86 kc_iconst_1 ?_
    refine s_icmp_le 97 90 C X at_87 (fun c => absurd (by decide : (1 : Int32) < (2 : Int32)) c) (fun _ => ?_)
    refine s_aload 92 C X at_90 rfl rfl ?_
    refine s_iconst 93 C X at_92 kc_iconst_1 ?_
    refine s_iload 95 C X at_93 rfl ?_
    refine s_i2b 96 C X at_95 ?_
    refine s_bastore 97 1 C X at_96 A_o9 g_o9 ⟨by decide, by decide⟩ rfl (Nat.le_of_ble_eq_true rfl) (fun T hh X W A_o9 => ?_)
    have A_o9 : Arv Z _ o9 k_o9 .byte (2 : Int32) [(.int (nar .byte (c0).toInt8.toInt32)), (.int (nar .byte (c1).toInt8.toInt32))] (.int (0 : Int32)) := A_o9
    have Od := Od.wr W g_o9
    refine s_iload 99 C X at_97 rfl ?_
    refine s_iconst 100 C X at_99 kc_iconst_2 ?_
    refine s_icmp_le 110 103 C X at_100 (fun _ => ?_) (fun c => absurd c (by decide))
    refine s_iload 112 C X at_110 rfl ?_
    refine s_iconst 113 C X at_112 kc_iconst_3 ?_
    refine s_icmp_le 123 116 C X at_113 (fun _ => ?_) (fun c => absurd c (by decide))
    refine s_iload 125 C X at_123 rfl ?_
    refine s_iconst 126 C X at_125 kc_iconst_4 ?_
    refine s_icmp_le 136 129 C X at_126 (fun _ => ?_) (fun c => absurd c (by decide))
    refine s_iload 138 C X at_136 rfl ?_
    refine s_if_le 146 141 C X at_138 (fun c => absurd (by decide : (0 : Int32) < (2 : Int32)) c) (fun _ => ?_)
    refine s_iload 143 C X at_141 rfl ?_
    refine s_goto 147 C X at_143 ?_
    refine s_istore 149 C X (l' := #[.val (.int x0), .val (.int x1), .val (.int x2), .val (.int x3), .val (.int x4), .val (.int x5), .val (.int (2 : Int32)), .val (.int kk), .val (.int c0), .val (.int c1), .val (.int c2), .val (.int c3), .val (.int c4), .val (.ref o9), .val (.int c0), .unset, .unset, .unset, .unset]) at_147 rfl ?_
    refine s_iload 151 C X at_149 rfl ?_
    refine s_iconst 152 C X at_151 kc_iconst_1 ?_
    refine s_icmp_le 160 155 C X at_152 (fun c => absurd (by decide : (1 : Int32) < (2 : Int32)) c) (fun _ => ?_)
    refine s_iload 157 C X at_155 rfl ?_
    refine s_goto 161 C X at_157 ?_
    refine s_istore 163 C X (l' := #[.val (.int x0), .val (.int x1), .val (.int x2), .val (.int x3), .val (.int x4), .val (.int x5), .val (.int (2 : Int32)), .val (.int kk), .val (.int c0), .val (.int c1), .val (.int c2), .val (.int c3), .val (.int c4), .val (.ref o9), .val (.int c0), .val (.int c1), .unset, .unset, .unset]) at_161 rfl ?_
    refine s_iload 165 C X at_163 rfl ?_
    refine s_iconst 166 C X at_165 kc_iconst_2 ?_
    refine s_icmp_le 174 169 C X at_166 (fun _ => ?_) (fun c => absurd c (by decide))
    refine s_iconst 175 C X at_174 kc_iconst_m1 ?_
    refine s_istore 177 C X (l' := #[.val (.int x0), .val (.int x1), .val (.int x2), .val (.int x3), .val (.int x4), .val (.int x5), .val (.int (2 : Int32)), .val (.int kk), .val (.int c0), .val (.int c1), .val (.int c2), .val (.int c3), .val (.int c4), .val (.ref o9), .val (.int c0), .val (.int c1), .val (.int (-1 : Int32)), .unset, .unset]) at_175 rfl ?_
    refine s_iload 179 C X at_177 rfl ?_
    refine s_iconst 180 C X at_179 kc_iconst_3 ?_
    refine s_icmp_le 188 183 C X at_180 (fun _ => ?_) (fun c => absurd c (by decide))
    refine s_iconst 189 C X at_188 kc_iconst_m1 ?_
    refine s_istore 191 C X (l' := #[.val (.int x0), .val (.int x1), .val (.int x2), .val (.int x3), .val (.int x4), .val (.int x5), .val (.int (2 : Int32)), .val (.int kk), .val (.int c0), .val (.int c1), .val (.int c2), .val (.int c3), .val (.int c4), .val (.ref o9), .val (.int c0), .val (.int c1), .val (.int (-1 : Int32)), .val (.int (-1 : Int32)), .unset]) at_189 rfl ?_
    have J : ∀ (T : State) (ex : Addr), ex = nthA f0 f1 f2 f3 f4 f5 (famI (c0.toInt) (c1.toInt) ((-1 : Int)) ((-1 : Int))) → St p l e room_1 s m #[(.int x0), (.int x1), (.int x2), (.int x3), (.int x4), (.int x5)] below meth c n0 T hh 5 130 → Run p e below n0 (fun (v : Option Value) (h : Heap) => v = some (.int 1)) (fun o t L => FrameEnd s o t L room_1.cells room_1.slots) m T 438 #[.val (.int x0), .val (.int x1), .val (.int x2), .val (.int x3), .val (.int x4), .val (.int x5), .val (.int (2 : Int32)), .val (.int kk), .val (.int c0), .val (.int c1), .val (.int c2), .val (.int c3), .val (.int c4), .val (.ref o9), .val (.int c0), .val (.int c1), .val (.int (-1 : Int32)), .val (.int (-1 : Int32)), .val (.ref ex)] [] := by
      intro T ex hex X
      refine s_aload 440 C X at_438 rfl rfl ?_
      have ha : ∀ i : Nat, (i : Int) < (2 : Int32).toInt → ([(.int (bb c0)), (.int (bb c1))] : List Value).getD i (.int 0) = .int ((nth4 (bb c0) (bb c1) 0 0) i) := by
        intro i hi
        have kz : (2 : Int32).toInt = 2 := by decide
        rcases i with _ | _ | i
        · rfl
        · rfl
        · exfalso; omega
      have A_av := AV.ext Od.2
      have E_av := EV.ext Od.2
      have B0 := B0.ext Od.2
      have G0 := G0.ext Od.2
      have Ab0 := Ab0.ext Od.2
      have Ag0 := Ag0.ext Od.2
      have B1 := B1.ext Od.2
      have G1 := G1.ext Od.2
      have Ab1 := Ab1.ext Od.2
      have Ag1 := Ag1.ext Od.2
      have B2 := B2.ext Od.2
      have G2 := G2.ext Od.2
      have Ab2 := Ab2.ext Od.2
      have Ag2 := Ag2.ext Od.2
      have B3 := B3.ext Od.2
      have G3 := G3.ext Od.2
      have Ab3 := Ab3.ext Od.2
      have Ag3 := Ag3.ext Od.2
      have B4 := B4.ext Od.2
      have G4 := G4.ext Od.2
      have Ab4 := Ab4.ext Od.2
      have Ag4 := Ag4.ext Od.2
      have B5 := B5.ext Od.2
      have G5 := G5.ext Od.2
      have Ab5 := Ab5.ext Od.2
      have Ag5 := Ag5.ext Od.2
      refine s_callS 443 [(.ref o9)] [] 0 C X at_440 (List.mem_of_getElem? (i := 12) rfl) (List.mem_of_getElem? (i := 13) rfl) (List.mem_of_getElem? (i := 10) rfl) (List.mem_of_getElem? (i := 14) rfl) (rm_of l Z a0 hw o9 2 k_o9 _ (nth4 (bb c0) (bb c1) 0 0) av k_av f0 f1 f2 f3 f4 f5 b0 g0 k_b0 k_g0 vb0 vg0 b1 g1 k_b1 k_g1 vb1 vg1 b2 g2 k_b2 k_g2 vb2 vg2 b3 g3 k_b3 k_g3 vb3 vg3 b4 g4 k_b4 k_g4 vb4 vg4 b5 g5 k_b5 k_g5 vb5 vg5 _ n0 X.sz Od S_V A_av E_av S_0 A_o9 ha B0 G0 Ab0 Hb0 Ag0 Hg0 B1 G1 Ab1 Hb1 Ag1 Hg1 B2 G2 Ab2 Hb2 Ag2 Hg2 B3 G3 Ab3 Hb3 Ag3 Hg3 B4 G4 Ab4 Hb4 Ag4 Hg4 B5 G5 Ab5 Hb5 Ag5 Hg5) (lenOf pd___B_Lcom_example_shapelint_shapelint_io_XmlEncodingFamily_ rfl) rfl rfl rfl (fun T v hh X q => ?_)
      obtain ⟨rfl, Kc⟩ := q
      refine Run.cast (st' := [(.ref (nthA f0 f1 f2 f3 f4 f5 (famS (2 : Int32).toInt (bb c0).toInt (bb c1).toInt ((0 : Int32)).toInt ((0 : Int32)).toInt)))]) rfl ?_
      refine s_aload 445 C X at_443 rfl rfl ?_
      have bq0 := own_bbc ⟨l_c0, u_c0⟩
      have bq1 := own_bbc ⟨l_c1, u_c1⟩
      have kn : (2 : Int32).toInt = 2 := by decide
      have hs : famS (2 : Int32).toInt (bb c0).toInt (bb c1).toInt ((0 : Int32)).toInt ((0 : Int32)).toInt = famI (c0.toInt) (c1.toInt) ((-1 : Int)) ((-1 : Int)) := own_same (by omega) (by omega) (by omega) (by omega)
      have hz : ((.ref (nthA f0 f1 f2 f3 f4 f5 (famS (2 : Int32).toInt (bb c0).toInt (bb c1).toInt ((0 : Int32)).toInt ((0 : Int32)).toInt))) : Value) = (.ref ex) := by rw [hs, hex]
      refine s_acmp_ne 452 448 C X at_445 rfl rfl (fun c => absurd hz c) (fun c445 => ?_)
      refine s_iconst 449 C X at_448 kc_iconst_1 ?_
      refine s_goto 453 C X at_449 ?_
      refine s_nreturn C X at_453 rfl (by simp) rfl ?_
      rfl
    have J8 : ∀ (T : State), St p l e room_1 s m #[(.int x0), (.int x1), (.int x2), (.int x3), (.int x4), (.int x5)] below meth c n0 T hh 5 130 → ¬ (c0.toInt = 239 ∧ c1.toInt = 187 ∧ (-1 : Int) = 191) → ¬ (c0.toInt = 254 ∧ c1.toInt = 255) → ¬ (c0.toInt = 0 ∧ c1.toInt = 60 ∧ (-1 : Int) = 0 ∧ (-1 : Int) = 63) → ¬ (c0.toInt = 255 ∧ c1.toInt = 254) → ¬ (c0.toInt = 60 ∧ c1.toInt = 0 ∧ (-1 : Int) = 63 ∧ (-1 : Int) = 0) → ¬ (c0.toInt = 0 ∧ c1.toInt = 0 ∧ (-1 : Int) = 0 ∧ (-1 : Int) = 60) → ¬ (c0.toInt = 60 ∧ c1.toInt = 0 ∧ (-1 : Int) = 0 ∧ (-1 : Int) = 0) → ¬ (c0.toInt = 76 ∧ c1.toInt = 111 ∧ (-1 : Int) = 167 ∧ (-1 : Int) = 148) → Run p e below n0 (fun (v : Option Value) (h : Heap) => v = some (.int 1)) (fun o t L => FrameEnd s o t L room_1.cells room_1.slots) m T 433 #[.val (.int x0), .val (.int x1), .val (.int x2), .val (.int x3), .val (.int x4), .val (.int x5), .val (.int (2 : Int32)), .val (.int kk), .val (.int c0), .val (.int c1), .val (.int c2), .val (.int c3), .val (.int c4), .val (.ref o9), .val (.int c0), .val (.int c1), .val (.int (-1 : Int32)), .val (.int (-1 : Int32)), .unset] [] := by
      intro T X q0 q1 q2 q3 q4 q5 q6 q7
      refine s_getstatic 436 C X (host := "") at_433 (Or.inl (List.mem_of_getElem? (i := 9) rfl)) Via.refl (S_0.ext Od.2) (fun T X => ?_)
      refine s_astore 438 C X (l' := #[.val (.int x0), .val (.int x1), .val (.int x2), .val (.int x3), .val (.int x4), .val (.int x5), .val (.int (2 : Int32)), .val (.int kk), .val (.int c0), .val (.int c1), .val (.int c2), .val (.int c3), .val (.int c4), .val (.ref o9), .val (.int c0), .val (.int c1), .val (.int (-1 : Int32)), .val (.int (-1 : Int32)), .val (.ref f0)]) at_436 rfl rfl ?_
      refine J T _ ?_ X
      have hf : famI (c0.toInt) (c1.toInt) ((-1 : Int)) ((-1 : Int)) = 0 := by
        unfold famI
        rw [if_neg (by omega), if_neg (by omega), if_neg (by omega), if_neg (by omega), if_neg (by omega), if_neg (by omega), if_neg (by omega), if_neg (by omega)]
      rw [hf]; rfl
    have J7 : ∀ (T : State), St p l e room_1 s m #[(.int x0), (.int x1), (.int x2), (.int x3), (.int x4), (.int x5)] below meth c n0 T hh 5 130 → ¬ (c0.toInt = 239 ∧ c1.toInt = 187 ∧ (-1 : Int) = 191) → ¬ (c0.toInt = 254 ∧ c1.toInt = 255) → ¬ (c0.toInt = 0 ∧ c1.toInt = 60 ∧ (-1 : Int) = 0 ∧ (-1 : Int) = 63) → ¬ (c0.toInt = 255 ∧ c1.toInt = 254) → ¬ (c0.toInt = 60 ∧ c1.toInt = 0 ∧ (-1 : Int) = 63 ∧ (-1 : Int) = 0) → ¬ (c0.toInt = 0 ∧ c1.toInt = 0 ∧ (-1 : Int) = 0 ∧ (-1 : Int) = 60) → ¬ (c0.toInt = 60 ∧ c1.toInt = 0 ∧ (-1 : Int) = 0 ∧ (-1 : Int) = 0) → Run p e below n0 (fun (v : Option Value) (h : Heap) => v = some (.int 1)) (fun o t L => FrameEnd s o t L room_1.cells room_1.slots) m T 395 #[.val (.int x0), .val (.int x1), .val (.int x2), .val (.int x3), .val (.int x4), .val (.int x5), .val (.int (2 : Int32)), .val (.int kk), .val (.int c0), .val (.int c1), .val (.int c2), .val (.int c3), .val (.int c4), .val (.ref o9), .val (.int c0), .val (.int c1), .val (.int (-1 : Int32)), .val (.int (-1 : Int32)), .unset] [] := by
      intro T X q0 q1 q2 q3 q4 q5 q6
      refine s_iload 397 C X at_395 rfl ?_
      refine s_bipush 399 C X at_397 kc_bipush_76 ?_
      refine s_icmp_ne 433 402 C X at_399 (fun c399 => ?_) (fun c399 => ?_)
      · have t_c399 : ¬ ((c0).toInt = (76 : Int)) := fun q => c399 (Int32.toInt_inj.mp q)
        exact J8 T X (by omega) (by omega) (by omega) (by omega) (by omega) (by omega) (by omega) (by omega)
      have t_c399 : (c0).toInt = (76 : Int) := congrArg Int32.toInt c399
      refine s_iload 404 C X at_402 rfl ?_
      refine s_bipush 406 C X at_404 kc_bipush_111 ?_
      refine s_icmp_ne 433 409 C X at_406 (fun c406 => ?_) (fun c406 => ?_)
      · have t_c406 : ¬ ((c1).toInt = (111 : Int)) := fun q => c406 (Int32.toInt_inj.mp q)
        exact J8 T X (by omega) (by omega) (by omega) (by omega) (by omega) (by omega) (by omega) (by omega)
      have t_c406 : (c1).toInt = (111 : Int) := congrArg Int32.toInt c406
      refine s_iload 411 C X at_409 rfl ?_
      refine s_sipush 414 C X at_411 kc_sipush_167 ?_
      refine s_icmp_ne 433 417 C X at_414 (fun _ => ?_) (fun c => absurd c (by decide))
      exact J8 T X (by omega) (by omega) (by omega) (by omega) (by omega) (by omega) (by omega) (by omega)
    have J6 : ∀ (T : State), St p l e room_1 s m #[(.int x0), (.int x1), (.int x2), (.int x3), (.int x4), (.int x5)] below meth c n0 T hh 5 130 → ¬ (c0.toInt = 239 ∧ c1.toInt = 187 ∧ (-1 : Int) = 191) → ¬ (c0.toInt = 254 ∧ c1.toInt = 255) → ¬ (c0.toInt = 0 ∧ c1.toInt = 60 ∧ (-1 : Int) = 0 ∧ (-1 : Int) = 63) → ¬ (c0.toInt = 255 ∧ c1.toInt = 254) → ¬ (c0.toInt = 60 ∧ c1.toInt = 0 ∧ (-1 : Int) = 63 ∧ (-1 : Int) = 0) → ¬ (c0.toInt = 0 ∧ c1.toInt = 0 ∧ (-1 : Int) = 0 ∧ (-1 : Int) = 60) → Run p e below n0 (fun (v : Option Value) (h : Heap) => v = some (.int 1)) (fun o t L => FrameEnd s o t L room_1.cells room_1.slots) m T 365 #[.val (.int x0), .val (.int x1), .val (.int x2), .val (.int x3), .val (.int x4), .val (.int x5), .val (.int (2 : Int32)), .val (.int kk), .val (.int c0), .val (.int c1), .val (.int c2), .val (.int c3), .val (.int c4), .val (.ref o9), .val (.int c0), .val (.int c1), .val (.int (-1 : Int32)), .val (.int (-1 : Int32)), .unset] [] := by
      intro T X q0 q1 q2 q3 q4 q5
      refine s_iload 367 C X at_365 rfl ?_
      refine s_bipush 369 C X at_367 kc_bipush_60 ?_
      refine s_icmp_ne 395 372 C X at_369 (fun c369 => ?_) (fun c369 => ?_)
      · have t_c369 : ¬ ((c0).toInt = (60 : Int)) := fun q => c369 (Int32.toInt_inj.mp q)
        exact J7 T X (by omega) (by omega) (by omega) (by omega) (by omega) (by omega) (by omega)
      have t_c369 : (c0).toInt = (60 : Int) := congrArg Int32.toInt c369
      refine s_iload 374 C X at_372 rfl ?_
      refine s_if_ne 395 377 C X at_374 (fun c374 => ?_) (fun c374 => ?_)
      · have t_c374 : ¬ ((c1).toInt = (0 : Int)) := fun q => c374 (Int32.toInt_inj.mp q)
        exact J7 T X (by omega) (by omega) (by omega) (by omega) (by omega) (by omega) (by omega)
      have t_c374 : (c1).toInt = (0 : Int) := congrArg Int32.toInt c374
      refine s_iload 379 C X at_377 rfl ?_
      refine s_if_ne 395 382 C X at_379 (fun _ => ?_) (fun c => absurd c (by decide))
      exact J7 T X (by omega) (by omega) (by omega) (by omega) (by omega) (by omega) (by omega)
    have J5 : ∀ (T : State), St p l e room_1 s m #[(.int x0), (.int x1), (.int x2), (.int x3), (.int x4), (.int x5)] below meth c n0 T hh 5 130 → ¬ (c0.toInt = 239 ∧ c1.toInt = 187 ∧ (-1 : Int) = 191) → ¬ (c0.toInt = 254 ∧ c1.toInt = 255) → ¬ (c0.toInt = 0 ∧ c1.toInt = 60 ∧ (-1 : Int) = 0 ∧ (-1 : Int) = 63) → ¬ (c0.toInt = 255 ∧ c1.toInt = 254) → ¬ (c0.toInt = 60 ∧ c1.toInt = 0 ∧ (-1 : Int) = 63 ∧ (-1 : Int) = 0) → Run p e below n0 (fun (v : Option Value) (h : Heap) => v = some (.int 1)) (fun o t L => FrameEnd s o t L room_1.cells room_1.slots) m T 335 #[.val (.int x0), .val (.int x1), .val (.int x2), .val (.int x3), .val (.int x4), .val (.int x5), .val (.int (2 : Int32)), .val (.int kk), .val (.int c0), .val (.int c1), .val (.int c2), .val (.int c3), .val (.int c4), .val (.ref o9), .val (.int c0), .val (.int c1), .val (.int (-1 : Int32)), .val (.int (-1 : Int32)), .unset] [] := by
      intro T X q0 q1 q2 q3 q4
      refine s_iload 337 C X at_335 rfl ?_
      refine s_if_ne 365 340 C X at_337 (fun c337 => ?_) (fun c337 => ?_)
      · have t_c337 : ¬ ((c0).toInt = (0 : Int)) := fun q => c337 (Int32.toInt_inj.mp q)
        exact J6 T X (by omega) (by omega) (by omega) (by omega) (by omega) (by omega)
      have t_c337 : (c0).toInt = (0 : Int) := congrArg Int32.toInt c337
      refine s_iload 342 C X at_340 rfl ?_
      refine s_if_ne 365 345 C X at_342 (fun c342 => ?_) (fun c342 => ?_)
      · have t_c342 : ¬ ((c1).toInt = (0 : Int)) := fun q => c342 (Int32.toInt_inj.mp q)
        exact J6 T X (by omega) (by omega) (by omega) (by omega) (by omega) (by omega)
      have t_c342 : (c1).toInt = (0 : Int) := congrArg Int32.toInt c342
      refine s_iload 347 C X at_345 rfl ?_
      refine s_if_ne 365 350 C X at_347 (fun _ => ?_) (fun c => absurd c (by decide))
      exact J6 T X (by omega) (by omega) (by omega) (by omega) (by omega) (by omega)
    have J4 : ∀ (T : State), St p l e room_1 s m #[(.int x0), (.int x1), (.int x2), (.int x3), (.int x4), (.int x5)] below meth c n0 T hh 5 130 → ¬ (c0.toInt = 239 ∧ c1.toInt = 187 ∧ (-1 : Int) = 191) → ¬ (c0.toInt = 254 ∧ c1.toInt = 255) → ¬ (c0.toInt = 0 ∧ c1.toInt = 60 ∧ (-1 : Int) = 0 ∧ (-1 : Int) = 63) → ¬ (c0.toInt = 255 ∧ c1.toInt = 254) → Run p e below n0 (fun (v : Option Value) (h : Heap) => v = some (.int 1)) (fun o t L => FrameEnd s o t L room_1.cells room_1.slots) m T 303 #[.val (.int x0), .val (.int x1), .val (.int x2), .val (.int x3), .val (.int x4), .val (.int x5), .val (.int (2 : Int32)), .val (.int kk), .val (.int c0), .val (.int c1), .val (.int c2), .val (.int c3), .val (.int c4), .val (.ref o9), .val (.int c0), .val (.int c1), .val (.int (-1 : Int32)), .val (.int (-1 : Int32)), .unset] [] := by
      intro T X q0 q1 q2 q3
      refine s_iload 305 C X at_303 rfl ?_
      refine s_bipush 307 C X at_305 kc_bipush_60 ?_
      refine s_icmp_ne 335 310 C X at_307 (fun c307 => ?_) (fun c307 => ?_)
      · have t_c307 : ¬ ((c0).toInt = (60 : Int)) := fun q => c307 (Int32.toInt_inj.mp q)
        exact J5 T X (by omega) (by omega) (by omega) (by omega) (by omega)
      have t_c307 : (c0).toInt = (60 : Int) := congrArg Int32.toInt c307
      refine s_iload 312 C X at_310 rfl ?_
      refine s_if_ne 335 315 C X at_312 (fun c312 => ?_) (fun c312 => ?_)
      · have t_c312 : ¬ ((c1).toInt = (0 : Int)) := fun q => c312 (Int32.toInt_inj.mp q)
        exact J5 T X (by omega) (by omega) (by omega) (by omega) (by omega)
      have t_c312 : (c1).toInt = (0 : Int) := congrArg Int32.toInt c312
      refine s_iload 317 C X at_315 rfl ?_
      refine s_bipush 319 C X at_317 kc_bipush_63 ?_
      refine s_icmp_ne 335 322 C X at_319 (fun _ => ?_) (fun c => absurd c (by decide))
      exact J5 T X (by omega) (by omega) (by omega) (by omega) (by omega)
    have J3 : ∀ (T : State), St p l e room_1 s m #[(.int x0), (.int x1), (.int x2), (.int x3), (.int x4), (.int x5)] below meth c n0 T hh 5 130 → ¬ (c0.toInt = 239 ∧ c1.toInt = 187 ∧ (-1 : Int) = 191) → ¬ (c0.toInt = 254 ∧ c1.toInt = 255) → ¬ (c0.toInt = 0 ∧ c1.toInt = 60 ∧ (-1 : Int) = 0 ∧ (-1 : Int) = 63) → Run p e below n0 (fun (v : Option Value) (h : Heap) => v = some (.int 1)) (fun o t L => FrameEnd s o t L room_1.cells room_1.slots) m T 279 #[.val (.int x0), .val (.int x1), .val (.int x2), .val (.int x3), .val (.int x4), .val (.int x5), .val (.int (2 : Int32)), .val (.int kk), .val (.int c0), .val (.int c1), .val (.int c2), .val (.int c3), .val (.int c4), .val (.ref o9), .val (.int c0), .val (.int c1), .val (.int (-1 : Int32)), .val (.int (-1 : Int32)), .unset] [] := by
      intro T X q0 q1 q2
      refine s_iload 281 C X at_279 rfl ?_
      refine s_sipush 284 C X at_281 kc_sipush_255 ?_
      refine s_icmp_ne 303 287 C X at_284 (fun c284 => ?_) (fun c284 => ?_)
      · have t_c284 : ¬ ((c0).toInt = (255 : Int)) := fun q => c284 (Int32.toInt_inj.mp q)
        exact J4 T X (by omega) (by omega) (by omega) (by omega)
      have t_c284 : (c0).toInt = (255 : Int) := congrArg Int32.toInt c284
      refine s_iload 289 C X at_287 rfl ?_
      refine s_sipush 292 C X at_289 kc_sipush_254 ?_
      refine s_icmp_ne 303 295 C X at_292 (fun c292 => ?_) (fun c292 => ?_)
      · have t_c292 : ¬ ((c1).toInt = (254 : Int)) := fun q => c292 (Int32.toInt_inj.mp q)
        exact J4 T X (by omega) (by omega) (by omega) (by omega)
      have t_c292 : (c1).toInt = (254 : Int) := congrArg Int32.toInt c292
      refine s_getstatic 298 C X (host := "") at_295 (Or.inl (List.mem_of_getElem? (i := 55) rfl)) Via.refl (S_2.ext Od.2) (fun T X => ?_)
      refine s_astore 300 C X (l' := #[.val (.int x0), .val (.int x1), .val (.int x2), .val (.int x3), .val (.int x4), .val (.int x5), .val (.int (2 : Int32)), .val (.int kk), .val (.int c0), .val (.int c1), .val (.int c2), .val (.int c3), .val (.int c4), .val (.ref o9), .val (.int c0), .val (.int c1), .val (.int (-1 : Int32)), .val (.int (-1 : Int32)), .val (.ref f2)]) at_298 rfl rfl ?_
      refine s_goto 438 C X at_300 ?_
      refine J T _ ?_ X
      have hf : famI (c0.toInt) (c1.toInt) ((-1 : Int)) ((-1 : Int)) = 2 := by
        unfold famI
        rw [if_neg (by omega), if_neg (by omega), if_neg (by omega), if_pos (by omega)]
      rw [hf]; rfl
    have J2 : ∀ (T : State), St p l e room_1 s m #[(.int x0), (.int x1), (.int x2), (.int x3), (.int x4), (.int x5)] below meth c n0 T hh 5 130 → ¬ (c0.toInt = 239 ∧ c1.toInt = 187 ∧ (-1 : Int) = 191) → ¬ (c0.toInt = 254 ∧ c1.toInt = 255) → Run p e below n0 (fun (v : Option Value) (h : Heap) => v = some (.int 1)) (fun o t L => FrameEnd s o t L room_1.cells room_1.slots) m T 247 #[.val (.int x0), .val (.int x1), .val (.int x2), .val (.int x3), .val (.int x4), .val (.int x5), .val (.int (2 : Int32)), .val (.int kk), .val (.int c0), .val (.int c1), .val (.int c2), .val (.int c3), .val (.int c4), .val (.ref o9), .val (.int c0), .val (.int c1), .val (.int (-1 : Int32)), .val (.int (-1 : Int32)), .unset] [] := by
      intro T X q0 q1
      refine s_iload 249 C X at_247 rfl ?_
      refine s_if_ne 279 252 C X at_249 (fun c249 => ?_) (fun c249 => ?_)
      · have t_c249 : ¬ ((c0).toInt = (0 : Int)) := fun q => c249 (Int32.toInt_inj.mp q)
        exact J3 T X (by omega) (by omega) (by omega)
      have t_c249 : (c0).toInt = (0 : Int) := congrArg Int32.toInt c249
      refine s_iload 254 C X at_252 rfl ?_
      refine s_bipush 256 C X at_254 kc_bipush_60 ?_
      refine s_icmp_ne 279 259 C X at_256 (fun c256 => ?_) (fun c256 => ?_)
      · have t_c256 : ¬ ((c1).toInt = (60 : Int)) := fun q => c256 (Int32.toInt_inj.mp q)
        exact J3 T X (by omega) (by omega) (by omega)
      have t_c256 : (c1).toInt = (60 : Int) := congrArg Int32.toInt c256
      refine s_iload 261 C X at_259 rfl ?_
      refine s_if_ne 279 264 C X at_261 (fun _ => ?_) (fun c => absurd c (by decide))
      exact J3 T X (by omega) (by omega) (by omega)
    have J1 : ∀ (T : State), St p l e room_1 s m #[(.int x0), (.int x1), (.int x2), (.int x3), (.int x4), (.int x5)] below meth c n0 T hh 5 130 → ¬ (c0.toInt = 239 ∧ c1.toInt = 187 ∧ (-1 : Int) = 191) → Run p e below n0 (fun (v : Option Value) (h : Heap) => v = some (.int 1)) (fun o t L => FrameEnd s o t L room_1.cells room_1.slots) m T 223 #[.val (.int x0), .val (.int x1), .val (.int x2), .val (.int x3), .val (.int x4), .val (.int x5), .val (.int (2 : Int32)), .val (.int kk), .val (.int c0), .val (.int c1), .val (.int c2), .val (.int c3), .val (.int c4), .val (.ref o9), .val (.int c0), .val (.int c1), .val (.int (-1 : Int32)), .val (.int (-1 : Int32)), .unset] [] := by
      intro T X q0
      refine s_iload 225 C X at_223 rfl ?_
      refine s_sipush 228 C X at_225 kc_sipush_254 ?_
      refine s_icmp_ne 247 231 C X at_228 (fun c228 => ?_) (fun c228 => ?_)
      · have t_c228 : ¬ ((c0).toInt = (254 : Int)) := fun q => c228 (Int32.toInt_inj.mp q)
        exact J2 T X (by omega) (by omega)
      have t_c228 : (c0).toInt = (254 : Int) := congrArg Int32.toInt c228
      refine s_iload 233 C X at_231 rfl ?_
      refine s_sipush 236 C X at_233 kc_sipush_255 ?_
      refine s_icmp_ne 247 239 C X at_236 (fun c236 => ?_) (fun c236 => ?_)
      · have t_c236 : ¬ ((c1).toInt = (255 : Int)) := fun q => c236 (Int32.toInt_inj.mp q)
        exact J2 T X (by omega) (by omega)
      have t_c236 : (c1).toInt = (255 : Int) := congrArg Int32.toInt c236
      refine s_getstatic 242 C X (host := "") at_239 (Or.inl (List.mem_of_getElem? (i := 56) rfl)) Via.refl (S_1.ext Od.2) (fun T X => ?_)
      refine s_astore 244 C X (l' := #[.val (.int x0), .val (.int x1), .val (.int x2), .val (.int x3), .val (.int x4), .val (.int x5), .val (.int (2 : Int32)), .val (.int kk), .val (.int c0), .val (.int c1), .val (.int c2), .val (.int c3), .val (.int c4), .val (.ref o9), .val (.int c0), .val (.int c1), .val (.int (-1 : Int32)), .val (.int (-1 : Int32)), .val (.ref f1)]) at_242 rfl rfl ?_
      refine s_goto 438 C X at_244 ?_
      refine J T _ ?_ X
      have hf : famI (c0.toInt) (c1.toInt) ((-1 : Int)) ((-1 : Int)) = 1 := by
        unfold famI
        rw [if_neg (by omega), if_pos (by omega)]
      rw [hf]; rfl
    refine s_iload 193 C X at_191 rfl ?_
    refine s_sipush 196 C X at_193 kc_sipush_239 ?_
    refine s_icmp_ne 223 199 C X at_196 (fun c196 => ?_) (fun c196 => ?_)
    · have t_c196 : ¬ ((c0).toInt = (239 : Int)) := fun q => c196 (Int32.toInt_inj.mp q)
      exact J1 T X (by omega)
    have t_c196 : (c0).toInt = (239 : Int) := congrArg Int32.toInt c196
    refine s_iload 201 C X at_199 rfl ?_
    refine s_sipush 204 C X at_201 kc_sipush_187 ?_
    refine s_icmp_ne 223 207 C X at_204 (fun c204 => ?_) (fun c204 => ?_)
    · have t_c204 : ¬ ((c1).toInt = (187 : Int)) := fun q => c204 (Int32.toInt_inj.mp q)
      exact J1 T X (by omega)
    have t_c204 : (c1).toInt = (187 : Int) := congrArg Int32.toInt c204
    refine s_iload 209 C X at_207 rfl ?_
    refine s_sipush 212 C X at_209 kc_sipush_191 ?_
    refine s_icmp_ne 223 215 C X at_212 (fun _ => ?_) (fun c => absurd c (by decide))
    exact J1 T X (by omega)
  · refine s_iload 68 C X at_66 rfl ?_
    refine s_newarray 70 3 C X at_68 (List.mem_of_getElem? (i := 8) rfl) (by decide) (by decide) (fun T hh o11 k_o11 hb_o11 X E A_o11 g_o11 => ?_)
    have Od := Od.ext E
    have A_o11 : Arv Z _ o11 k_o11 .byte (3 : Int32) [(.int (0 : Int32)), (.int (0 : Int32)), (.int (0 : Int32))] (.int (0 : Int32)) := A_o11.pad (pad_rep [] _ 3)
    refine s_astore 72 C X (l' := #[.val (.int x0), .val (.int x1), .val (.int x2), .val (.int x3), .val (.int x4), .val (.int x5), .val (.int (3 : Int32)), .val (.int kk), .val (.int c0), .val (.int c1), .val (.int c2), .val (.int c3), .val (.int c4), .val (.ref o11), .unset, .unset, .unset, .unset, .unset]) at_70 rfl rfl ?_
    refine s_iload 74 C X at_72 rfl ?_
    refine s_if_le 84 77 C X at_74 (fun c => absurd (by decide : (0 : Int32) < (3 : Int32)) c) (fun _ => ?_)
    refine s_aload 79 C X at_77 rfl rfl ?_
    refine s_iconst 80 C X at_79 kc_iconst_0 ?_
    refine s_iload 82 C X at_80 rfl ?_
    refine s_i2b 83 C X at_82 ?_
    refine s_bastore 84 0 C X at_83 A_o11 g_o11 ⟨by decide, by decide⟩ rfl (Nat.le_of_ble_eq_true rfl) (fun T hh X W A_o11 => ?_)
    have A_o11 : Arv Z _ o11 k_o11 .byte (3 : Int32) [(.int (nar .byte (c0).toInt8.toInt32)), (.int (0 : Int32)), (.int (0 : Int32))] (.int (0 : Int32)) := A_o11
    have Od := Od.wr W g_o11
    refine s_iload 86 C X at_84 rfl ?_
    refine s_iconst 87 C X at_86 kc_iconst_1 ?_
    refine s_icmp_le 97 90 C X at_87 (fun c => absurd (by decide : (1 : Int32) < (3 : Int32)) c) (fun _ => ?_)
    refine s_aload 92 C X at_90 rfl rfl ?_
    refine s_iconst 93 C X at_92 kc_iconst_1 ?_
    refine s_iload 95 C X at_93 rfl ?_
    refine s_i2b 96 C X at_95 ?_
    refine s_bastore 97 1 C X at_96 A_o11 g_o11 ⟨by decide, by decide⟩ rfl (Nat.le_of_ble_eq_true rfl) (fun T hh X W A_o11 => ?_)
    have A_o11 : Arv Z _ o11 k_o11 .byte (3 : Int32) [(.int (nar .byte (c0).toInt8.toInt32)), (.int (nar .byte (c1).toInt8.toInt32)), (.int (0 : Int32))] (.int (0 : Int32)) := A_o11
    have Od := Od.wr W g_o11
    refine s_iload 99 C X at_97 rfl ?_
    refine s_iconst 100 C X at_99 kc_iconst_2 ?_
    refine s_icmp_le 110 103 C X at_100 (fun c => absurd (by decide : (2 : Int32) < (3 : Int32)) c) (fun _ => ?_)
    refine s_aload 105 C X at_103 rfl rfl ?_
    refine s_iconst 106 C X at_105 kc_iconst_2 ?_
    refine s_iload 108 C X at_106 rfl ?_
    refine s_i2b 109 C X at_108 ?_
    refine s_bastore 110 2 C X at_109 A_o11 g_o11 ⟨by decide, by decide⟩ rfl (Nat.le_of_ble_eq_true rfl) (fun T hh X W A_o11 => ?_)
    have A_o11 : Arv Z _ o11 k_o11 .byte (3 : Int32) [(.int (nar .byte (c0).toInt8.toInt32)), (.int (nar .byte (c1).toInt8.toInt32)), (.int (nar .byte (c2).toInt8.toInt32))] (.int (0 : Int32)) := A_o11
    have Od := Od.wr W g_o11
    refine s_iload 112 C X at_110 rfl ?_
    refine s_iconst 113 C X at_112 kc_iconst_3 ?_
    refine s_icmp_le 123 116 C X at_113 (fun _ => ?_) (fun c => absurd c (by decide))
    refine s_iload 125 C X at_123 rfl ?_
    refine s_iconst 126 C X at_125 kc_iconst_4 ?_
    refine s_icmp_le 136 129 C X at_126 (fun _ => ?_) (fun c => absurd c (by decide))
    refine s_iload 138 C X at_136 rfl ?_
    refine s_if_le 146 141 C X at_138 (fun c => absurd (by decide : (0 : Int32) < (3 : Int32)) c) (fun _ => ?_)
    refine s_iload 143 C X at_141 rfl ?_
    refine s_goto 147 C X at_143 ?_
    refine s_istore 149 C X (l' := #[.val (.int x0), .val (.int x1), .val (.int x2), .val (.int x3), .val (.int x4), .val (.int x5), .val (.int (3 : Int32)), .val (.int kk), .val (.int c0), .val (.int c1), .val (.int c2), .val (.int c3), .val (.int c4), .val (.ref o11), .val (.int c0), .unset, .unset, .unset, .unset]) at_147 rfl ?_
    refine s_iload 151 C X at_149 rfl ?_
    refine s_iconst 152 C X at_151 kc_iconst_1 ?_
    refine s_icmp_le 160 155 C X at_152 (fun c => absurd (by decide : (1 : Int32) < (3 : Int32)) c) (fun _ => ?_)
    refine s_iload 157 C X at_155 rfl ?_
    refine s_goto 161 C X at_157 ?_
    refine s_istore 163 C X (l' := #[.val (.int x0), .val (.int x1), .val (.int x2), .val (.int x3), .val (.int x4), .val (.int x5), .val (.int (3 : Int32)), .val (.int kk), .val (.int c0), .val (.int c1), .val (.int c2), .val (.int c3), .val (.int c4), .val (.ref o11), .val (.int c0), .val (.int c1), .unset, .unset, .unset]) at_161 rfl ?_
    refine s_iload 165 C X at_163 rfl ?_
    refine s_iconst 166 C X at_165 kc_iconst_2 ?_
    refine s_icmp_le 174 169 C X at_166 (fun c => absurd (by decide : (2 : Int32) < (3 : Int32)) c) (fun _ => ?_)
    refine s_iload 171 C X at_169 rfl ?_
    refine s_goto 175 C X at_171 ?_
    refine s_istore 177 C X (l' := #[.val (.int x0), .val (.int x1), .val (.int x2), .val (.int x3), .val (.int x4), .val (.int x5), .val (.int (3 : Int32)), .val (.int kk), .val (.int c0), .val (.int c1), .val (.int c2), .val (.int c3), .val (.int c4), .val (.ref o11), .val (.int c0), .val (.int c1), .val (.int c2), .unset, .unset]) at_175 rfl ?_
    refine s_iload 179 C X at_177 rfl ?_
    refine s_iconst 180 C X at_179 kc_iconst_3 ?_
    refine s_icmp_le 188 183 C X at_180 (fun _ => ?_) (fun c => absurd c (by decide))
    refine s_iconst 189 C X at_188 kc_iconst_m1 ?_
    refine s_istore 191 C X (l' := #[.val (.int x0), .val (.int x1), .val (.int x2), .val (.int x3), .val (.int x4), .val (.int x5), .val (.int (3 : Int32)), .val (.int kk), .val (.int c0), .val (.int c1), .val (.int c2), .val (.int c3), .val (.int c4), .val (.ref o11), .val (.int c0), .val (.int c1), .val (.int c2), .val (.int (-1 : Int32)), .unset]) at_189 rfl ?_
    have J : ∀ (T : State) (ex : Addr), ex = nthA f0 f1 f2 f3 f4 f5 (famI (c0.toInt) (c1.toInt) (c2.toInt) ((-1 : Int))) → St p l e room_1 s m #[(.int x0), (.int x1), (.int x2), (.int x3), (.int x4), (.int x5)] below meth c n0 T hh 5 131 → Run p e below n0 (fun (v : Option Value) (h : Heap) => v = some (.int 1)) (fun o t L => FrameEnd s o t L room_1.cells room_1.slots) m T 438 #[.val (.int x0), .val (.int x1), .val (.int x2), .val (.int x3), .val (.int x4), .val (.int x5), .val (.int (3 : Int32)), .val (.int kk), .val (.int c0), .val (.int c1), .val (.int c2), .val (.int c3), .val (.int c4), .val (.ref o11), .val (.int c0), .val (.int c1), .val (.int c2), .val (.int (-1 : Int32)), .val (.ref ex)] [] := by
      intro T ex hex X
      refine s_aload 440 C X at_438 rfl rfl ?_
      have ha : ∀ i : Nat, (i : Int) < (3 : Int32).toInt → ([(.int (bb c0)), (.int (bb c1)), (.int (bb c2))] : List Value).getD i (.int 0) = .int ((nth4 (bb c0) (bb c1) (bb c2) 0) i) := by
        intro i hi
        have kz : (3 : Int32).toInt = 3 := by decide
        rcases i with _ | _ | _ | i
        · rfl
        · rfl
        · rfl
        · exfalso; omega
      have A_av := AV.ext Od.2
      have E_av := EV.ext Od.2
      have B0 := B0.ext Od.2
      have G0 := G0.ext Od.2
      have Ab0 := Ab0.ext Od.2
      have Ag0 := Ag0.ext Od.2
      have B1 := B1.ext Od.2
      have G1 := G1.ext Od.2
      have Ab1 := Ab1.ext Od.2
      have Ag1 := Ag1.ext Od.2
      have B2 := B2.ext Od.2
      have G2 := G2.ext Od.2
      have Ab2 := Ab2.ext Od.2
      have Ag2 := Ag2.ext Od.2
      have B3 := B3.ext Od.2
      have G3 := G3.ext Od.2
      have Ab3 := Ab3.ext Od.2
      have Ag3 := Ag3.ext Od.2
      have B4 := B4.ext Od.2
      have G4 := G4.ext Od.2
      have Ab4 := Ab4.ext Od.2
      have Ag4 := Ag4.ext Od.2
      have B5 := B5.ext Od.2
      have G5 := G5.ext Od.2
      have Ab5 := Ab5.ext Od.2
      have Ag5 := Ag5.ext Od.2
      refine s_callS 443 [(.ref o11)] [] 0 C X at_440 (List.mem_of_getElem? (i := 12) rfl) (List.mem_of_getElem? (i := 13) rfl) (List.mem_of_getElem? (i := 10) rfl) (List.mem_of_getElem? (i := 14) rfl) (rm_of l Z a0 hw o11 3 k_o11 _ (nth4 (bb c0) (bb c1) (bb c2) 0) av k_av f0 f1 f2 f3 f4 f5 b0 g0 k_b0 k_g0 vb0 vg0 b1 g1 k_b1 k_g1 vb1 vg1 b2 g2 k_b2 k_g2 vb2 vg2 b3 g3 k_b3 k_g3 vb3 vg3 b4 g4 k_b4 k_g4 vb4 vg4 b5 g5 k_b5 k_g5 vb5 vg5 _ n0 X.sz Od S_V A_av E_av S_0 A_o11 ha B0 G0 Ab0 Hb0 Ag0 Hg0 B1 G1 Ab1 Hb1 Ag1 Hg1 B2 G2 Ab2 Hb2 Ag2 Hg2 B3 G3 Ab3 Hb3 Ag3 Hg3 B4 G4 Ab4 Hb4 Ag4 Hg4 B5 G5 Ab5 Hb5 Ag5 Hg5) (lenOf pd___B_Lcom_example_shapelint_shapelint_io_XmlEncodingFamily_ rfl) rfl rfl rfl (fun T v hh X q => ?_)
      obtain ⟨rfl, Kc⟩ := q
      refine Run.cast (st' := [(.ref (nthA f0 f1 f2 f3 f4 f5 (famS (3 : Int32).toInt (bb c0).toInt (bb c1).toInt (bb c2).toInt ((0 : Int32)).toInt)))]) rfl ?_
      refine s_aload 445 C X at_443 rfl rfl ?_
      have bq0 := own_bbc ⟨l_c0, u_c0⟩
      have bq1 := own_bbc ⟨l_c1, u_c1⟩
      have bq2 := own_bbc ⟨l_c2, u_c2⟩
      have kn : (3 : Int32).toInt = 3 := by decide
      have hs : famS (3 : Int32).toInt (bb c0).toInt (bb c1).toInt (bb c2).toInt ((0 : Int32)).toInt = famI (c0.toInt) (c1.toInt) (c2.toInt) ((-1 : Int)) := own_same (by omega) (by omega) (by omega) (by omega)
      have hz : ((.ref (nthA f0 f1 f2 f3 f4 f5 (famS (3 : Int32).toInt (bb c0).toInt (bb c1).toInt (bb c2).toInt ((0 : Int32)).toInt))) : Value) = (.ref ex) := by rw [hs, hex]
      refine s_acmp_ne 452 448 C X at_445 rfl rfl (fun c => absurd hz c) (fun c445 => ?_)
      refine s_iconst 449 C X at_448 kc_iconst_1 ?_
      refine s_goto 453 C X at_449 ?_
      refine s_nreturn C X at_453 rfl (by simp) rfl ?_
      rfl
    have J8 : ∀ (T : State), St p l e room_1 s m #[(.int x0), (.int x1), (.int x2), (.int x3), (.int x4), (.int x5)] below meth c n0 T hh 5 131 → ¬ (c0.toInt = 239 ∧ c1.toInt = 187 ∧ c2.toInt = 191) → ¬ (c0.toInt = 254 ∧ c1.toInt = 255) → ¬ (c0.toInt = 0 ∧ c1.toInt = 60 ∧ c2.toInt = 0 ∧ (-1 : Int) = 63) → ¬ (c0.toInt = 255 ∧ c1.toInt = 254) → ¬ (c0.toInt = 60 ∧ c1.toInt = 0 ∧ c2.toInt = 63 ∧ (-1 : Int) = 0) → ¬ (c0.toInt = 0 ∧ c1.toInt = 0 ∧ c2.toInt = 0 ∧ (-1 : Int) = 60) → ¬ (c0.toInt = 60 ∧ c1.toInt = 0 ∧ c2.toInt = 0 ∧ (-1 : Int) = 0) → ¬ (c0.toInt = 76 ∧ c1.toInt = 111 ∧ c2.toInt = 167 ∧ (-1 : Int) = 148) → Run p e below n0 (fun (v : Option Value) (h : Heap) => v = some (.int 1)) (fun o t L => FrameEnd s o t L room_1.cells room_1.slots) m T 433 #[.val (.int x0), .val (.int x1), .val (.int x2), .val (.int x3), .val (.int x4), .val (.int x5), .val (.int (3 : Int32)), .val (.int kk), .val (.int c0), .val (.int c1), .val (.int c2), .val (.int c3), .val (.int c4), .val (.ref o11), .val (.int c0), .val (.int c1), .val (.int c2), .val (.int (-1 : Int32)), .unset] [] := by
      intro T X q0 q1 q2 q3 q4 q5 q6 q7
      refine s_getstatic 436 C X (host := "") at_433 (Or.inl (List.mem_of_getElem? (i := 9) rfl)) Via.refl (S_0.ext Od.2) (fun T X => ?_)
      refine s_astore 438 C X (l' := #[.val (.int x0), .val (.int x1), .val (.int x2), .val (.int x3), .val (.int x4), .val (.int x5), .val (.int (3 : Int32)), .val (.int kk), .val (.int c0), .val (.int c1), .val (.int c2), .val (.int c3), .val (.int c4), .val (.ref o11), .val (.int c0), .val (.int c1), .val (.int c2), .val (.int (-1 : Int32)), .val (.ref f0)]) at_436 rfl rfl ?_
      refine J T _ ?_ X
      have hf : famI (c0.toInt) (c1.toInt) (c2.toInt) ((-1 : Int)) = 0 := by
        unfold famI
        rw [if_neg (by omega), if_neg (by omega), if_neg (by omega), if_neg (by omega), if_neg (by omega), if_neg (by omega), if_neg (by omega), if_neg (by omega)]
      rw [hf]; rfl
    have J7 : ∀ (T : State), St p l e room_1 s m #[(.int x0), (.int x1), (.int x2), (.int x3), (.int x4), (.int x5)] below meth c n0 T hh 5 131 → ¬ (c0.toInt = 239 ∧ c1.toInt = 187 ∧ c2.toInt = 191) → ¬ (c0.toInt = 254 ∧ c1.toInt = 255) → ¬ (c0.toInt = 0 ∧ c1.toInt = 60 ∧ c2.toInt = 0 ∧ (-1 : Int) = 63) → ¬ (c0.toInt = 255 ∧ c1.toInt = 254) → ¬ (c0.toInt = 60 ∧ c1.toInt = 0 ∧ c2.toInt = 63 ∧ (-1 : Int) = 0) → ¬ (c0.toInt = 0 ∧ c1.toInt = 0 ∧ c2.toInt = 0 ∧ (-1 : Int) = 60) → ¬ (c0.toInt = 60 ∧ c1.toInt = 0 ∧ c2.toInt = 0 ∧ (-1 : Int) = 0) → Run p e below n0 (fun (v : Option Value) (h : Heap) => v = some (.int 1)) (fun o t L => FrameEnd s o t L room_1.cells room_1.slots) m T 395 #[.val (.int x0), .val (.int x1), .val (.int x2), .val (.int x3), .val (.int x4), .val (.int x5), .val (.int (3 : Int32)), .val (.int kk), .val (.int c0), .val (.int c1), .val (.int c2), .val (.int c3), .val (.int c4), .val (.ref o11), .val (.int c0), .val (.int c1), .val (.int c2), .val (.int (-1 : Int32)), .unset] [] := by
      intro T X q0 q1 q2 q3 q4 q5 q6
      refine s_iload 397 C X at_395 rfl ?_
      refine s_bipush 399 C X at_397 kc_bipush_76 ?_
      refine s_icmp_ne 433 402 C X at_399 (fun c399 => ?_) (fun c399 => ?_)
      · have t_c399 : ¬ ((c0).toInt = (76 : Int)) := fun q => c399 (Int32.toInt_inj.mp q)
        exact J8 T X (by omega) (by omega) (by omega) (by omega) (by omega) (by omega) (by omega) (by omega)
      have t_c399 : (c0).toInt = (76 : Int) := congrArg Int32.toInt c399
      refine s_iload 404 C X at_402 rfl ?_
      refine s_bipush 406 C X at_404 kc_bipush_111 ?_
      refine s_icmp_ne 433 409 C X at_406 (fun c406 => ?_) (fun c406 => ?_)
      · have t_c406 : ¬ ((c1).toInt = (111 : Int)) := fun q => c406 (Int32.toInt_inj.mp q)
        exact J8 T X (by omega) (by omega) (by omega) (by omega) (by omega) (by omega) (by omega) (by omega)
      have t_c406 : (c1).toInt = (111 : Int) := congrArg Int32.toInt c406
      refine s_iload 411 C X at_409 rfl ?_
      refine s_sipush 414 C X at_411 kc_sipush_167 ?_
      refine s_icmp_ne 433 417 C X at_414 (fun c414 => ?_) (fun c414 => ?_)
      · have t_c414 : ¬ ((c2).toInt = (167 : Int)) := fun q => c414 (Int32.toInt_inj.mp q)
        exact J8 T X (by omega) (by omega) (by omega) (by omega) (by omega) (by omega) (by omega) (by omega)
      have t_c414 : (c2).toInt = (167 : Int) := congrArg Int32.toInt c414
      refine s_iload 419 C X at_417 rfl ?_
      refine s_sipush 422 C X at_419 kc_sipush_148 ?_
      refine s_icmp_ne 433 425 C X at_422 (fun _ => ?_) (fun c => absurd c (by decide))
      exact J8 T X (by omega) (by omega) (by omega) (by omega) (by omega) (by omega) (by omega) (by omega)
    have J6 : ∀ (T : State), St p l e room_1 s m #[(.int x0), (.int x1), (.int x2), (.int x3), (.int x4), (.int x5)] below meth c n0 T hh 5 131 → ¬ (c0.toInt = 239 ∧ c1.toInt = 187 ∧ c2.toInt = 191) → ¬ (c0.toInt = 254 ∧ c1.toInt = 255) → ¬ (c0.toInt = 0 ∧ c1.toInt = 60 ∧ c2.toInt = 0 ∧ (-1 : Int) = 63) → ¬ (c0.toInt = 255 ∧ c1.toInt = 254) → ¬ (c0.toInt = 60 ∧ c1.toInt = 0 ∧ c2.toInt = 63 ∧ (-1 : Int) = 0) → ¬ (c0.toInt = 0 ∧ c1.toInt = 0 ∧ c2.toInt = 0 ∧ (-1 : Int) = 60) → Run p e below n0 (fun (v : Option Value) (h : Heap) => v = some (.int 1)) (fun o t L => FrameEnd s o t L room_1.cells room_1.slots) m T 365 #[.val (.int x0), .val (.int x1), .val (.int x2), .val (.int x3), .val (.int x4), .val (.int x5), .val (.int (3 : Int32)), .val (.int kk), .val (.int c0), .val (.int c1), .val (.int c2), .val (.int c3), .val (.int c4), .val (.ref o11), .val (.int c0), .val (.int c1), .val (.int c2), .val (.int (-1 : Int32)), .unset] [] := by
      intro T X q0 q1 q2 q3 q4 q5
      refine s_iload 367 C X at_365 rfl ?_
      refine s_bipush 369 C X at_367 kc_bipush_60 ?_
      refine s_icmp_ne 395 372 C X at_369 (fun c369 => ?_) (fun c369 => ?_)
      · have t_c369 : ¬ ((c0).toInt = (60 : Int)) := fun q => c369 (Int32.toInt_inj.mp q)
        exact J7 T X (by omega) (by omega) (by omega) (by omega) (by omega) (by omega) (by omega)
      have t_c369 : (c0).toInt = (60 : Int) := congrArg Int32.toInt c369
      refine s_iload 374 C X at_372 rfl ?_
      refine s_if_ne 395 377 C X at_374 (fun c374 => ?_) (fun c374 => ?_)
      · have t_c374 : ¬ ((c1).toInt = (0 : Int)) := fun q => c374 (Int32.toInt_inj.mp q)
        exact J7 T X (by omega) (by omega) (by omega) (by omega) (by omega) (by omega) (by omega)
      have t_c374 : (c1).toInt = (0 : Int) := congrArg Int32.toInt c374
      refine s_iload 379 C X at_377 rfl ?_
      refine s_if_ne 395 382 C X at_379 (fun c379 => ?_) (fun c379 => ?_)
      · have t_c379 : ¬ ((c2).toInt = (0 : Int)) := fun q => c379 (Int32.toInt_inj.mp q)
        exact J7 T X (by omega) (by omega) (by omega) (by omega) (by omega) (by omega) (by omega)
      have t_c379 : (c2).toInt = (0 : Int) := congrArg Int32.toInt c379
      refine s_iload 384 C X at_382 rfl ?_
      refine s_if_ne 395 387 C X at_384 (fun _ => ?_) (fun c => absurd c (by decide))
      exact J7 T X (by omega) (by omega) (by omega) (by omega) (by omega) (by omega) (by omega)
    have J5 : ∀ (T : State), St p l e room_1 s m #[(.int x0), (.int x1), (.int x2), (.int x3), (.int x4), (.int x5)] below meth c n0 T hh 5 131 → ¬ (c0.toInt = 239 ∧ c1.toInt = 187 ∧ c2.toInt = 191) → ¬ (c0.toInt = 254 ∧ c1.toInt = 255) → ¬ (c0.toInt = 0 ∧ c1.toInt = 60 ∧ c2.toInt = 0 ∧ (-1 : Int) = 63) → ¬ (c0.toInt = 255 ∧ c1.toInt = 254) → ¬ (c0.toInt = 60 ∧ c1.toInt = 0 ∧ c2.toInt = 63 ∧ (-1 : Int) = 0) → Run p e below n0 (fun (v : Option Value) (h : Heap) => v = some (.int 1)) (fun o t L => FrameEnd s o t L room_1.cells room_1.slots) m T 335 #[.val (.int x0), .val (.int x1), .val (.int x2), .val (.int x3), .val (.int x4), .val (.int x5), .val (.int (3 : Int32)), .val (.int kk), .val (.int c0), .val (.int c1), .val (.int c2), .val (.int c3), .val (.int c4), .val (.ref o11), .val (.int c0), .val (.int c1), .val (.int c2), .val (.int (-1 : Int32)), .unset] [] := by
      intro T X q0 q1 q2 q3 q4
      refine s_iload 337 C X at_335 rfl ?_
      refine s_if_ne 365 340 C X at_337 (fun c337 => ?_) (fun c337 => ?_)
      · have t_c337 : ¬ ((c0).toInt = (0 : Int)) := fun q => c337 (Int32.toInt_inj.mp q)
        exact J6 T X (by omega) (by omega) (by omega) (by omega) (by omega) (by omega)
      have t_c337 : (c0).toInt = (0 : Int) := congrArg Int32.toInt c337
      refine s_iload 342 C X at_340 rfl ?_
      refine s_if_ne 365 345 C X at_342 (fun c342 => ?_) (fun c342 => ?_)
      · have t_c342 : ¬ ((c1).toInt = (0 : Int)) := fun q => c342 (Int32.toInt_inj.mp q)
        exact J6 T X (by omega) (by omega) (by omega) (by omega) (by omega) (by omega)
      have t_c342 : (c1).toInt = (0 : Int) := congrArg Int32.toInt c342
      refine s_iload 347 C X at_345 rfl ?_
      refine s_if_ne 365 350 C X at_347 (fun c347 => ?_) (fun c347 => ?_)
      · have t_c347 : ¬ ((c2).toInt = (0 : Int)) := fun q => c347 (Int32.toInt_inj.mp q)
        exact J6 T X (by omega) (by omega) (by omega) (by omega) (by omega) (by omega)
      have t_c347 : (c2).toInt = (0 : Int) := congrArg Int32.toInt c347
      refine s_iload 352 C X at_350 rfl ?_
      refine s_bipush 354 C X at_352 kc_bipush_60 ?_
      refine s_icmp_ne 365 357 C X at_354 (fun _ => ?_) (fun c => absurd c (by decide))
      exact J6 T X (by omega) (by omega) (by omega) (by omega) (by omega) (by omega)
    have J4 : ∀ (T : State), St p l e room_1 s m #[(.int x0), (.int x1), (.int x2), (.int x3), (.int x4), (.int x5)] below meth c n0 T hh 5 131 → ¬ (c0.toInt = 239 ∧ c1.toInt = 187 ∧ c2.toInt = 191) → ¬ (c0.toInt = 254 ∧ c1.toInt = 255) → ¬ (c0.toInt = 0 ∧ c1.toInt = 60 ∧ c2.toInt = 0 ∧ (-1 : Int) = 63) → ¬ (c0.toInt = 255 ∧ c1.toInt = 254) → Run p e below n0 (fun (v : Option Value) (h : Heap) => v = some (.int 1)) (fun o t L => FrameEnd s o t L room_1.cells room_1.slots) m T 303 #[.val (.int x0), .val (.int x1), .val (.int x2), .val (.int x3), .val (.int x4), .val (.int x5), .val (.int (3 : Int32)), .val (.int kk), .val (.int c0), .val (.int c1), .val (.int c2), .val (.int c3), .val (.int c4), .val (.ref o11), .val (.int c0), .val (.int c1), .val (.int c2), .val (.int (-1 : Int32)), .unset] [] := by
      intro T X q0 q1 q2 q3
      refine s_iload 305 C X at_303 rfl ?_
      refine s_bipush 307 C X at_305 kc_bipush_60 ?_
      refine s_icmp_ne 335 310 C X at_307 (fun c307 => ?_) (fun c307 => ?_)
      · have t_c307 : ¬ ((c0).toInt = (60 : Int)) := fun q => c307 (Int32.toInt_inj.mp q)
        exact J5 T X (by omega) (by omega) (by omega) (by omega) (by omega)
      have t_c307 : (c0).toInt = (60 : Int) := congrArg Int32.toInt c307
      refine s_iload 312 C X at_310 rfl ?_
      refine s_if_ne 335 315 C X at_312 (fun c312 => ?_) (fun c312 => ?_)
      · have t_c312 : ¬ ((c1).toInt = (0 : Int)) := fun q => c312 (Int32.toInt_inj.mp q)
        exact J5 T X (by omega) (by omega) (by omega) (by omega) (by omega)
      have t_c312 : (c1).toInt = (0 : Int) := congrArg Int32.toInt c312
      refine s_iload 317 C X at_315 rfl ?_
      refine s_bipush 319 C X at_317 kc_bipush_63 ?_
      refine s_icmp_ne 335 322 C X at_319 (fun c319 => ?_) (fun c319 => ?_)
      · have t_c319 : ¬ ((c2).toInt = (63 : Int)) := fun q => c319 (Int32.toInt_inj.mp q)
        exact J5 T X (by omega) (by omega) (by omega) (by omega) (by omega)
      have t_c319 : (c2).toInt = (63 : Int) := congrArg Int32.toInt c319
      refine s_iload 324 C X at_322 rfl ?_
      refine s_if_ne 335 327 C X at_324 (fun _ => ?_) (fun c => absurd c (by decide))
      exact J5 T X (by omega) (by omega) (by omega) (by omega) (by omega)
    have J3 : ∀ (T : State), St p l e room_1 s m #[(.int x0), (.int x1), (.int x2), (.int x3), (.int x4), (.int x5)] below meth c n0 T hh 5 131 → ¬ (c0.toInt = 239 ∧ c1.toInt = 187 ∧ c2.toInt = 191) → ¬ (c0.toInt = 254 ∧ c1.toInt = 255) → ¬ (c0.toInt = 0 ∧ c1.toInt = 60 ∧ c2.toInt = 0 ∧ (-1 : Int) = 63) → Run p e below n0 (fun (v : Option Value) (h : Heap) => v = some (.int 1)) (fun o t L => FrameEnd s o t L room_1.cells room_1.slots) m T 279 #[.val (.int x0), .val (.int x1), .val (.int x2), .val (.int x3), .val (.int x4), .val (.int x5), .val (.int (3 : Int32)), .val (.int kk), .val (.int c0), .val (.int c1), .val (.int c2), .val (.int c3), .val (.int c4), .val (.ref o11), .val (.int c0), .val (.int c1), .val (.int c2), .val (.int (-1 : Int32)), .unset] [] := by
      intro T X q0 q1 q2
      refine s_iload 281 C X at_279 rfl ?_
      refine s_sipush 284 C X at_281 kc_sipush_255 ?_
      refine s_icmp_ne 303 287 C X at_284 (fun c284 => ?_) (fun c284 => ?_)
      · have t_c284 : ¬ ((c0).toInt = (255 : Int)) := fun q => c284 (Int32.toInt_inj.mp q)
        exact J4 T X (by omega) (by omega) (by omega) (by omega)
      have t_c284 : (c0).toInt = (255 : Int) := congrArg Int32.toInt c284
      refine s_iload 289 C X at_287 rfl ?_
      refine s_sipush 292 C X at_289 kc_sipush_254 ?_
      refine s_icmp_ne 303 295 C X at_292 (fun c292 => ?_) (fun c292 => ?_)
      · have t_c292 : ¬ ((c1).toInt = (254 : Int)) := fun q => c292 (Int32.toInt_inj.mp q)
        exact J4 T X (by omega) (by omega) (by omega) (by omega)
      have t_c292 : (c1).toInt = (254 : Int) := congrArg Int32.toInt c292
      refine s_getstatic 298 C X (host := "") at_295 (Or.inl (List.mem_of_getElem? (i := 55) rfl)) Via.refl (S_2.ext Od.2) (fun T X => ?_)
      refine s_astore 300 C X (l' := #[.val (.int x0), .val (.int x1), .val (.int x2), .val (.int x3), .val (.int x4), .val (.int x5), .val (.int (3 : Int32)), .val (.int kk), .val (.int c0), .val (.int c1), .val (.int c2), .val (.int c3), .val (.int c4), .val (.ref o11), .val (.int c0), .val (.int c1), .val (.int c2), .val (.int (-1 : Int32)), .val (.ref f2)]) at_298 rfl rfl ?_
      refine s_goto 438 C X at_300 ?_
      refine J T _ ?_ X
      have hf : famI (c0.toInt) (c1.toInt) (c2.toInt) ((-1 : Int)) = 2 := by
        unfold famI
        rw [if_neg (by omega), if_neg (by omega), if_neg (by omega), if_pos (by omega)]
      rw [hf]; rfl
    have J2 : ∀ (T : State), St p l e room_1 s m #[(.int x0), (.int x1), (.int x2), (.int x3), (.int x4), (.int x5)] below meth c n0 T hh 5 131 → ¬ (c0.toInt = 239 ∧ c1.toInt = 187 ∧ c2.toInt = 191) → ¬ (c0.toInt = 254 ∧ c1.toInt = 255) → Run p e below n0 (fun (v : Option Value) (h : Heap) => v = some (.int 1)) (fun o t L => FrameEnd s o t L room_1.cells room_1.slots) m T 247 #[.val (.int x0), .val (.int x1), .val (.int x2), .val (.int x3), .val (.int x4), .val (.int x5), .val (.int (3 : Int32)), .val (.int kk), .val (.int c0), .val (.int c1), .val (.int c2), .val (.int c3), .val (.int c4), .val (.ref o11), .val (.int c0), .val (.int c1), .val (.int c2), .val (.int (-1 : Int32)), .unset] [] := by
      intro T X q0 q1
      refine s_iload 249 C X at_247 rfl ?_
      refine s_if_ne 279 252 C X at_249 (fun c249 => ?_) (fun c249 => ?_)
      · have t_c249 : ¬ ((c0).toInt = (0 : Int)) := fun q => c249 (Int32.toInt_inj.mp q)
        exact J3 T X (by omega) (by omega) (by omega)
      have t_c249 : (c0).toInt = (0 : Int) := congrArg Int32.toInt c249
      refine s_iload 254 C X at_252 rfl ?_
      refine s_bipush 256 C X at_254 kc_bipush_60 ?_
      refine s_icmp_ne 279 259 C X at_256 (fun c256 => ?_) (fun c256 => ?_)
      · have t_c256 : ¬ ((c1).toInt = (60 : Int)) := fun q => c256 (Int32.toInt_inj.mp q)
        exact J3 T X (by omega) (by omega) (by omega)
      have t_c256 : (c1).toInt = (60 : Int) := congrArg Int32.toInt c256
      refine s_iload 261 C X at_259 rfl ?_
      refine s_if_ne 279 264 C X at_261 (fun c261 => ?_) (fun c261 => ?_)
      · have t_c261 : ¬ ((c2).toInt = (0 : Int)) := fun q => c261 (Int32.toInt_inj.mp q)
        exact J3 T X (by omega) (by omega) (by omega)
      have t_c261 : (c2).toInt = (0 : Int) := congrArg Int32.toInt c261
      refine s_iload 266 C X at_264 rfl ?_
      refine s_bipush 268 C X at_266 kc_bipush_63 ?_
      refine s_icmp_ne 279 271 C X at_268 (fun _ => ?_) (fun c => absurd c (by decide))
      exact J3 T X (by omega) (by omega) (by omega)
    have J1 : ∀ (T : State), St p l e room_1 s m #[(.int x0), (.int x1), (.int x2), (.int x3), (.int x4), (.int x5)] below meth c n0 T hh 5 131 → ¬ (c0.toInt = 239 ∧ c1.toInt = 187 ∧ c2.toInt = 191) → Run p e below n0 (fun (v : Option Value) (h : Heap) => v = some (.int 1)) (fun o t L => FrameEnd s o t L room_1.cells room_1.slots) m T 223 #[.val (.int x0), .val (.int x1), .val (.int x2), .val (.int x3), .val (.int x4), .val (.int x5), .val (.int (3 : Int32)), .val (.int kk), .val (.int c0), .val (.int c1), .val (.int c2), .val (.int c3), .val (.int c4), .val (.ref o11), .val (.int c0), .val (.int c1), .val (.int c2), .val (.int (-1 : Int32)), .unset] [] := by
      intro T X q0
      refine s_iload 225 C X at_223 rfl ?_
      refine s_sipush 228 C X at_225 kc_sipush_254 ?_
      refine s_icmp_ne 247 231 C X at_228 (fun c228 => ?_) (fun c228 => ?_)
      · have t_c228 : ¬ ((c0).toInt = (254 : Int)) := fun q => c228 (Int32.toInt_inj.mp q)
        exact J2 T X (by omega) (by omega)
      have t_c228 : (c0).toInt = (254 : Int) := congrArg Int32.toInt c228
      refine s_iload 233 C X at_231 rfl ?_
      refine s_sipush 236 C X at_233 kc_sipush_255 ?_
      refine s_icmp_ne 247 239 C X at_236 (fun c236 => ?_) (fun c236 => ?_)
      · have t_c236 : ¬ ((c1).toInt = (255 : Int)) := fun q => c236 (Int32.toInt_inj.mp q)
        exact J2 T X (by omega) (by omega)
      have t_c236 : (c1).toInt = (255 : Int) := congrArg Int32.toInt c236
      refine s_getstatic 242 C X (host := "") at_239 (Or.inl (List.mem_of_getElem? (i := 56) rfl)) Via.refl (S_1.ext Od.2) (fun T X => ?_)
      refine s_astore 244 C X (l' := #[.val (.int x0), .val (.int x1), .val (.int x2), .val (.int x3), .val (.int x4), .val (.int x5), .val (.int (3 : Int32)), .val (.int kk), .val (.int c0), .val (.int c1), .val (.int c2), .val (.int c3), .val (.int c4), .val (.ref o11), .val (.int c0), .val (.int c1), .val (.int c2), .val (.int (-1 : Int32)), .val (.ref f1)]) at_242 rfl rfl ?_
      refine s_goto 438 C X at_244 ?_
      refine J T _ ?_ X
      have hf : famI (c0.toInt) (c1.toInt) (c2.toInt) ((-1 : Int)) = 1 := by
        unfold famI
        rw [if_neg (by omega), if_pos (by omega)]
      rw [hf]; rfl
    refine s_iload 193 C X at_191 rfl ?_
    refine s_sipush 196 C X at_193 kc_sipush_239 ?_
    refine s_icmp_ne 223 199 C X at_196 (fun c196 => ?_) (fun c196 => ?_)
    · have t_c196 : ¬ ((c0).toInt = (239 : Int)) := fun q => c196 (Int32.toInt_inj.mp q)
      exact J1 T X (by omega)
    have t_c196 : (c0).toInt = (239 : Int) := congrArg Int32.toInt c196
    refine s_iload 201 C X at_199 rfl ?_
    refine s_sipush 204 C X at_201 kc_sipush_187 ?_
    refine s_icmp_ne 223 207 C X at_204 (fun c204 => ?_) (fun c204 => ?_)
    · have t_c204 : ¬ ((c1).toInt = (187 : Int)) := fun q => c204 (Int32.toInt_inj.mp q)
      exact J1 T X (by omega)
    have t_c204 : (c1).toInt = (187 : Int) := congrArg Int32.toInt c204
    refine s_iload 209 C X at_207 rfl ?_
    refine s_sipush 212 C X at_209 kc_sipush_191 ?_
    refine s_icmp_ne 223 215 C X at_212 (fun c212 => ?_) (fun c212 => ?_)
    · have t_c212 : ¬ ((c2).toInt = (191 : Int)) := fun q => c212 (Int32.toInt_inj.mp q)
      exact J1 T X (by omega)
    have t_c212 : (c2).toInt = (191 : Int) := congrArg Int32.toInt c212
    refine s_getstatic 218 C X (host := "") at_215 (Or.inl (List.mem_of_getElem? (i := 9) rfl)) Via.refl (S_0.ext Od.2) (fun T X => ?_)
    refine s_astore 220 C X (l' := #[.val (.int x0), .val (.int x1), .val (.int x2), .val (.int x3), .val (.int x4), .val (.int x5), .val (.int (3 : Int32)), .val (.int kk), .val (.int c0), .val (.int c1), .val (.int c2), .val (.int c3), .val (.int c4), .val (.ref o11), .val (.int c0), .val (.int c1), .val (.int c2), .val (.int (-1 : Int32)), .val (.ref f0)]) at_218 rfl rfl ?_
    refine s_goto 438 C X at_220 ?_
    refine J T _ ?_ X
    have hf : famI (c0.toInt) (c1.toInt) (c2.toInt) ((-1 : Int)) = 0 := by
      unfold famI
      rw [if_pos (by omega)]
    rw [hf]; rfl
  · refine s_iload 68 C X at_66 rfl ?_
    refine s_newarray 70 4 C X at_68 (List.mem_of_getElem? (i := 8) rfl) (by decide) (by decide) (fun T hh o13 k_o13 hb_o13 X E A_o13 g_o13 => ?_)
    have Od := Od.ext E
    have A_o13 : Arv Z _ o13 k_o13 .byte (4 : Int32) [(.int (0 : Int32)), (.int (0 : Int32)), (.int (0 : Int32)), (.int (0 : Int32))] (.int (0 : Int32)) := A_o13.pad (pad_rep [] _ 4)
    refine s_astore 72 C X (l' := #[.val (.int x0), .val (.int x1), .val (.int x2), .val (.int x3), .val (.int x4), .val (.int x5), .val (.int (4 : Int32)), .val (.int kk), .val (.int c0), .val (.int c1), .val (.int c2), .val (.int c3), .val (.int c4), .val (.ref o13), .unset, .unset, .unset, .unset, .unset]) at_70 rfl rfl ?_
    refine s_iload 74 C X at_72 rfl ?_
    refine s_if_le 84 77 C X at_74 (fun c => absurd (by decide : (0 : Int32) < (4 : Int32)) c) (fun _ => ?_)
    refine s_aload 79 C X at_77 rfl rfl ?_
    refine s_iconst 80 C X at_79 kc_iconst_0 ?_
    refine s_iload 82 C X at_80 rfl ?_
    refine s_i2b 83 C X at_82 ?_
    refine s_bastore 84 0 C X at_83 A_o13 g_o13 ⟨by decide, by decide⟩ rfl (Nat.le_of_ble_eq_true rfl) (fun T hh X W A_o13 => ?_)
    have A_o13 : Arv Z _ o13 k_o13 .byte (4 : Int32) [(.int (nar .byte (c0).toInt8.toInt32)), (.int (0 : Int32)), (.int (0 : Int32)), (.int (0 : Int32))] (.int (0 : Int32)) := A_o13
    have Od := Od.wr W g_o13
    refine s_iload 86 C X at_84 rfl ?_
    refine s_iconst 87 C X at_86 kc_iconst_1 ?_
    refine s_icmp_le 97 90 C X at_87 (fun c => absurd (by decide : (1 : Int32) < (4 : Int32)) c) (fun _ => ?_)
    refine s_aload 92 C X at_90 rfl rfl ?_
    refine s_iconst 93 C X at_92 kc_iconst_1 ?_
    refine s_iload 95 C X at_93 rfl ?_
    refine s_i2b 96 C X at_95 ?_
    refine s_bastore 97 1 C X at_96 A_o13 g_o13 ⟨by decide, by decide⟩ rfl (Nat.le_of_ble_eq_true rfl) (fun T hh X W A_o13 => ?_)
    have A_o13 : Arv Z _ o13 k_o13 .byte (4 : Int32) [(.int (nar .byte (c0).toInt8.toInt32)), (.int (nar .byte (c1).toInt8.toInt32)), (.int (0 : Int32)), (.int (0 : Int32))] (.int (0 : Int32)) := A_o13
    have Od := Od.wr W g_o13
    refine s_iload 99 C X at_97 rfl ?_
    refine s_iconst 100 C X at_99 kc_iconst_2 ?_
    refine s_icmp_le 110 103 C X at_100 (fun c => absurd (by decide : (2 : Int32) < (4 : Int32)) c) (fun _ => ?_)
    refine s_aload 105 C X at_103 rfl rfl ?_
    refine s_iconst 106 C X at_105 kc_iconst_2 ?_
    refine s_iload 108 C X at_106 rfl ?_
    refine s_i2b 109 C X at_108 ?_
    refine s_bastore 110 2 C X at_109 A_o13 g_o13 ⟨by decide, by decide⟩ rfl (Nat.le_of_ble_eq_true rfl) (fun T hh X W A_o13 => ?_)
    have A_o13 : Arv Z _ o13 k_o13 .byte (4 : Int32) [(.int (nar .byte (c0).toInt8.toInt32)), (.int (nar .byte (c1).toInt8.toInt32)), (.int (nar .byte (c2).toInt8.toInt32)), (.int (0 : Int32))] (.int (0 : Int32)) := A_o13
    have Od := Od.wr W g_o13
    refine s_iload 112 C X at_110 rfl ?_
    refine s_iconst 113 C X at_112 kc_iconst_3 ?_
    refine s_icmp_le 123 116 C X at_113 (fun c => absurd (by decide : (3 : Int32) < (4 : Int32)) c) (fun _ => ?_)
    refine s_aload 118 C X at_116 rfl rfl ?_
    refine s_iconst 119 C X at_118 kc_iconst_3 ?_
    refine s_iload 121 C X at_119 rfl ?_
    refine s_i2b 122 C X at_121 ?_
    refine s_bastore 123 3 C X at_122 A_o13 g_o13 ⟨by decide, by decide⟩ rfl (Nat.le_of_ble_eq_true rfl) (fun T hh X W A_o13 => ?_)
    have A_o13 : Arv Z _ o13 k_o13 .byte (4 : Int32) [(.int (nar .byte (c0).toInt8.toInt32)), (.int (nar .byte (c1).toInt8.toInt32)), (.int (nar .byte (c2).toInt8.toInt32)), (.int (nar .byte (c3).toInt8.toInt32))] (.int (0 : Int32)) := A_o13
    have Od := Od.wr W g_o13
    refine s_iload 125 C X at_123 rfl ?_
    refine s_iconst 126 C X at_125 kc_iconst_4 ?_
    refine s_icmp_le 136 129 C X at_126 (fun _ => ?_) (fun c => absurd c (by decide))
    refine s_iload 138 C X at_136 rfl ?_
    refine s_if_le 146 141 C X at_138 (fun c => absurd (by decide : (0 : Int32) < (4 : Int32)) c) (fun _ => ?_)
    refine s_iload 143 C X at_141 rfl ?_
    refine s_goto 147 C X at_143 ?_
    refine s_istore 149 C X (l' := #[.val (.int x0), .val (.int x1), .val (.int x2), .val (.int x3), .val (.int x4), .val (.int x5), .val (.int (4 : Int32)), .val (.int kk), .val (.int c0), .val (.int c1), .val (.int c2), .val (.int c3), .val (.int c4), .val (.ref o13), .val (.int c0), .unset, .unset, .unset, .unset]) at_147 rfl ?_
    refine s_iload 151 C X at_149 rfl ?_
    refine s_iconst 152 C X at_151 kc_iconst_1 ?_
    refine s_icmp_le 160 155 C X at_152 (fun c => absurd (by decide : (1 : Int32) < (4 : Int32)) c) (fun _ => ?_)
    refine s_iload 157 C X at_155 rfl ?_
    refine s_goto 161 C X at_157 ?_
    refine s_istore 163 C X (l' := #[.val (.int x0), .val (.int x1), .val (.int x2), .val (.int x3), .val (.int x4), .val (.int x5), .val (.int (4 : Int32)), .val (.int kk), .val (.int c0), .val (.int c1), .val (.int c2), .val (.int c3), .val (.int c4), .val (.ref o13), .val (.int c0), .val (.int c1), .unset, .unset, .unset]) at_161 rfl ?_
    refine s_iload 165 C X at_163 rfl ?_
    refine s_iconst 166 C X at_165 kc_iconst_2 ?_
    refine s_icmp_le 174 169 C X at_166 (fun c => absurd (by decide : (2 : Int32) < (4 : Int32)) c) (fun _ => ?_)
    refine s_iload 171 C X at_169 rfl ?_
    refine s_goto 175 C X at_171 ?_
    refine s_istore 177 C X (l' := #[.val (.int x0), .val (.int x1), .val (.int x2), .val (.int x3), .val (.int x4), .val (.int x5), .val (.int (4 : Int32)), .val (.int kk), .val (.int c0), .val (.int c1), .val (.int c2), .val (.int c3), .val (.int c4), .val (.ref o13), .val (.int c0), .val (.int c1), .val (.int c2), .unset, .unset]) at_175 rfl ?_
    refine s_iload 179 C X at_177 rfl ?_
    refine s_iconst 180 C X at_179 kc_iconst_3 ?_
    refine s_icmp_le 188 183 C X at_180 (fun c => absurd (by decide : (3 : Int32) < (4 : Int32)) c) (fun _ => ?_)
    refine s_iload 185 C X at_183 rfl ?_
    refine s_goto 189 C X at_185 ?_
    refine s_istore 191 C X (l' := #[.val (.int x0), .val (.int x1), .val (.int x2), .val (.int x3), .val (.int x4), .val (.int x5), .val (.int (4 : Int32)), .val (.int kk), .val (.int c0), .val (.int c1), .val (.int c2), .val (.int c3), .val (.int c4), .val (.ref o13), .val (.int c0), .val (.int c1), .val (.int c2), .val (.int c3), .unset]) at_189 rfl ?_
    have J : ∀ (T : State) (ex : Addr), ex = nthA f0 f1 f2 f3 f4 f5 (famI (c0.toInt) (c1.toInt) (c2.toInt) (c3.toInt)) → St p l e room_1 s m #[(.int x0), (.int x1), (.int x2), (.int x3), (.int x4), (.int x5)] below meth c n0 T hh 5 132 → Run p e below n0 (fun (v : Option Value) (h : Heap) => v = some (.int 1)) (fun o t L => FrameEnd s o t L room_1.cells room_1.slots) m T 438 #[.val (.int x0), .val (.int x1), .val (.int x2), .val (.int x3), .val (.int x4), .val (.int x5), .val (.int (4 : Int32)), .val (.int kk), .val (.int c0), .val (.int c1), .val (.int c2), .val (.int c3), .val (.int c4), .val (.ref o13), .val (.int c0), .val (.int c1), .val (.int c2), .val (.int c3), .val (.ref ex)] [] := by
      intro T ex hex X
      refine s_aload 440 C X at_438 rfl rfl ?_
      have ha : ∀ i : Nat, (i : Int) < (4 : Int32).toInt → ([(.int (bb c0)), (.int (bb c1)), (.int (bb c2)), (.int (bb c3))] : List Value).getD i (.int 0) = .int ((nth4 (bb c0) (bb c1) (bb c2) (bb c3)) i) := by
        intro i hi
        have kz : (4 : Int32).toInt = 4 := by decide
        rcases i with _ | _ | _ | _ | i
        · rfl
        · rfl
        · rfl
        · rfl
        · exfalso; omega
      have A_av := AV.ext Od.2
      have E_av := EV.ext Od.2
      have B0 := B0.ext Od.2
      have G0 := G0.ext Od.2
      have Ab0 := Ab0.ext Od.2
      have Ag0 := Ag0.ext Od.2
      have B1 := B1.ext Od.2
      have G1 := G1.ext Od.2
      have Ab1 := Ab1.ext Od.2
      have Ag1 := Ag1.ext Od.2
      have B2 := B2.ext Od.2
      have G2 := G2.ext Od.2
      have Ab2 := Ab2.ext Od.2
      have Ag2 := Ag2.ext Od.2
      have B3 := B3.ext Od.2
      have G3 := G3.ext Od.2
      have Ab3 := Ab3.ext Od.2
      have Ag3 := Ag3.ext Od.2
      have B4 := B4.ext Od.2
      have G4 := G4.ext Od.2
      have Ab4 := Ab4.ext Od.2
      have Ag4 := Ag4.ext Od.2
      have B5 := B5.ext Od.2
      have G5 := G5.ext Od.2
      have Ab5 := Ab5.ext Od.2
      have Ag5 := Ag5.ext Od.2
      refine s_callS 443 [(.ref o13)] [] 0 C X at_440 (List.mem_of_getElem? (i := 12) rfl) (List.mem_of_getElem? (i := 13) rfl) (List.mem_of_getElem? (i := 10) rfl) (List.mem_of_getElem? (i := 14) rfl) (rm_of l Z a0 hw o13 4 k_o13 _ (nth4 (bb c0) (bb c1) (bb c2) (bb c3)) av k_av f0 f1 f2 f3 f4 f5 b0 g0 k_b0 k_g0 vb0 vg0 b1 g1 k_b1 k_g1 vb1 vg1 b2 g2 k_b2 k_g2 vb2 vg2 b3 g3 k_b3 k_g3 vb3 vg3 b4 g4 k_b4 k_g4 vb4 vg4 b5 g5 k_b5 k_g5 vb5 vg5 _ n0 X.sz Od S_V A_av E_av S_0 A_o13 ha B0 G0 Ab0 Hb0 Ag0 Hg0 B1 G1 Ab1 Hb1 Ag1 Hg1 B2 G2 Ab2 Hb2 Ag2 Hg2 B3 G3 Ab3 Hb3 Ag3 Hg3 B4 G4 Ab4 Hb4 Ag4 Hg4 B5 G5 Ab5 Hb5 Ag5 Hg5) (lenOf pd___B_Lcom_example_shapelint_shapelint_io_XmlEncodingFamily_ rfl) rfl rfl rfl (fun T v hh X q => ?_)
      obtain ⟨rfl, Kc⟩ := q
      refine Run.cast (st' := [(.ref (nthA f0 f1 f2 f3 f4 f5 (famS (4 : Int32).toInt (bb c0).toInt (bb c1).toInt (bb c2).toInt (bb c3).toInt)))]) rfl ?_
      refine s_aload 445 C X at_443 rfl rfl ?_
      have bq0 := own_bbc ⟨l_c0, u_c0⟩
      have bq1 := own_bbc ⟨l_c1, u_c1⟩
      have bq2 := own_bbc ⟨l_c2, u_c2⟩
      have bq3 := own_bbc ⟨l_c3, u_c3⟩
      have kn : (4 : Int32).toInt = 4 := by decide
      have hs : famS (4 : Int32).toInt (bb c0).toInt (bb c1).toInt (bb c2).toInt (bb c3).toInt = famI (c0.toInt) (c1.toInt) (c2.toInt) (c3.toInt) := own_same (by omega) (by omega) (by omega) (by omega)
      have hz : ((.ref (nthA f0 f1 f2 f3 f4 f5 (famS (4 : Int32).toInt (bb c0).toInt (bb c1).toInt (bb c2).toInt (bb c3).toInt))) : Value) = (.ref ex) := by rw [hs, hex]
      refine s_acmp_ne 452 448 C X at_445 rfl rfl (fun c => absurd hz c) (fun c445 => ?_)
      refine s_iconst 449 C X at_448 kc_iconst_1 ?_
      refine s_goto 453 C X at_449 ?_
      refine s_nreturn C X at_453 rfl (by simp) rfl ?_
      rfl
    have J8 : ∀ (T : State), St p l e room_1 s m #[(.int x0), (.int x1), (.int x2), (.int x3), (.int x4), (.int x5)] below meth c n0 T hh 5 132 → ¬ (c0.toInt = 239 ∧ c1.toInt = 187 ∧ c2.toInt = 191) → ¬ (c0.toInt = 254 ∧ c1.toInt = 255) → ¬ (c0.toInt = 0 ∧ c1.toInt = 60 ∧ c2.toInt = 0 ∧ c3.toInt = 63) → ¬ (c0.toInt = 255 ∧ c1.toInt = 254) → ¬ (c0.toInt = 60 ∧ c1.toInt = 0 ∧ c2.toInt = 63 ∧ c3.toInt = 0) → ¬ (c0.toInt = 0 ∧ c1.toInt = 0 ∧ c2.toInt = 0 ∧ c3.toInt = 60) → ¬ (c0.toInt = 60 ∧ c1.toInt = 0 ∧ c2.toInt = 0 ∧ c3.toInt = 0) → ¬ (c0.toInt = 76 ∧ c1.toInt = 111 ∧ c2.toInt = 167 ∧ c3.toInt = 148) → Run p e below n0 (fun (v : Option Value) (h : Heap) => v = some (.int 1)) (fun o t L => FrameEnd s o t L room_1.cells room_1.slots) m T 433 #[.val (.int x0), .val (.int x1), .val (.int x2), .val (.int x3), .val (.int x4), .val (.int x5), .val (.int (4 : Int32)), .val (.int kk), .val (.int c0), .val (.int c1), .val (.int c2), .val (.int c3), .val (.int c4), .val (.ref o13), .val (.int c0), .val (.int c1), .val (.int c2), .val (.int c3), .unset] [] := by
      intro T X q0 q1 q2 q3 q4 q5 q6 q7
      refine s_getstatic 436 C X (host := "") at_433 (Or.inl (List.mem_of_getElem? (i := 9) rfl)) Via.refl (S_0.ext Od.2) (fun T X => ?_)
      refine s_astore 438 C X (l' := #[.val (.int x0), .val (.int x1), .val (.int x2), .val (.int x3), .val (.int x4), .val (.int x5), .val (.int (4 : Int32)), .val (.int kk), .val (.int c0), .val (.int c1), .val (.int c2), .val (.int c3), .val (.int c4), .val (.ref o13), .val (.int c0), .val (.int c1), .val (.int c2), .val (.int c3), .val (.ref f0)]) at_436 rfl rfl ?_
      refine J T _ ?_ X
      have hf : famI (c0.toInt) (c1.toInt) (c2.toInt) (c3.toInt) = 0 := by
        unfold famI
        rw [if_neg (by omega), if_neg (by omega), if_neg (by omega), if_neg (by omega), if_neg (by omega), if_neg (by omega), if_neg (by omega), if_neg (by omega)]
      rw [hf]; rfl
    have J7 : ∀ (T : State), St p l e room_1 s m #[(.int x0), (.int x1), (.int x2), (.int x3), (.int x4), (.int x5)] below meth c n0 T hh 5 132 → ¬ (c0.toInt = 239 ∧ c1.toInt = 187 ∧ c2.toInt = 191) → ¬ (c0.toInt = 254 ∧ c1.toInt = 255) → ¬ (c0.toInt = 0 ∧ c1.toInt = 60 ∧ c2.toInt = 0 ∧ c3.toInt = 63) → ¬ (c0.toInt = 255 ∧ c1.toInt = 254) → ¬ (c0.toInt = 60 ∧ c1.toInt = 0 ∧ c2.toInt = 63 ∧ c3.toInt = 0) → ¬ (c0.toInt = 0 ∧ c1.toInt = 0 ∧ c2.toInt = 0 ∧ c3.toInt = 60) → ¬ (c0.toInt = 60 ∧ c1.toInt = 0 ∧ c2.toInt = 0 ∧ c3.toInt = 0) → Run p e below n0 (fun (v : Option Value) (h : Heap) => v = some (.int 1)) (fun o t L => FrameEnd s o t L room_1.cells room_1.slots) m T 395 #[.val (.int x0), .val (.int x1), .val (.int x2), .val (.int x3), .val (.int x4), .val (.int x5), .val (.int (4 : Int32)), .val (.int kk), .val (.int c0), .val (.int c1), .val (.int c2), .val (.int c3), .val (.int c4), .val (.ref o13), .val (.int c0), .val (.int c1), .val (.int c2), .val (.int c3), .unset] [] := by
      intro T X q0 q1 q2 q3 q4 q5 q6
      refine s_iload 397 C X at_395 rfl ?_
      refine s_bipush 399 C X at_397 kc_bipush_76 ?_
      refine s_icmp_ne 433 402 C X at_399 (fun c399 => ?_) (fun c399 => ?_)
      · have t_c399 : ¬ ((c0).toInt = (76 : Int)) := fun q => c399 (Int32.toInt_inj.mp q)
        exact J8 T X (by omega) (by omega) (by omega) (by omega) (by omega) (by omega) (by omega) (by omega)
      have t_c399 : (c0).toInt = (76 : Int) := congrArg Int32.toInt c399
      refine s_iload 404 C X at_402 rfl ?_
      refine s_bipush 406 C X at_404 kc_bipush_111 ?_
      refine s_icmp_ne 433 409 C X at_406 (fun c406 => ?_) (fun c406 => ?_)
      · have t_c406 : ¬ ((c1).toInt = (111 : Int)) := fun q => c406 (Int32.toInt_inj.mp q)
        exact J8 T X (by omega) (by omega) (by omega) (by omega) (by omega) (by omega) (by omega) (by omega)
      have t_c406 : (c1).toInt = (111 : Int) := congrArg Int32.toInt c406
      refine s_iload 411 C X at_409 rfl ?_
      refine s_sipush 414 C X at_411 kc_sipush_167 ?_
      refine s_icmp_ne 433 417 C X at_414 (fun c414 => ?_) (fun c414 => ?_)
      · have t_c414 : ¬ ((c2).toInt = (167 : Int)) := fun q => c414 (Int32.toInt_inj.mp q)
        exact J8 T X (by omega) (by omega) (by omega) (by omega) (by omega) (by omega) (by omega) (by omega)
      have t_c414 : (c2).toInt = (167 : Int) := congrArg Int32.toInt c414
      refine s_iload 419 C X at_417 rfl ?_
      refine s_sipush 422 C X at_419 kc_sipush_148 ?_
      refine s_icmp_ne 433 425 C X at_422 (fun c422 => ?_) (fun c422 => ?_)
      · have t_c422 : ¬ ((c3).toInt = (148 : Int)) := fun q => c422 (Int32.toInt_inj.mp q)
        exact J8 T X (by omega) (by omega) (by omega) (by omega) (by omega) (by omega) (by omega) (by omega)
      have t_c422 : (c3).toInt = (148 : Int) := congrArg Int32.toInt c422
      refine s_getstatic 428 C X (host := "") at_425 (Or.inl (List.mem_of_getElem? (i := 57) rfl)) Via.refl (S_5.ext Od.2) (fun T X => ?_)
      refine s_astore 430 C X (l' := #[.val (.int x0), .val (.int x1), .val (.int x2), .val (.int x3), .val (.int x4), .val (.int x5), .val (.int (4 : Int32)), .val (.int kk), .val (.int c0), .val (.int c1), .val (.int c2), .val (.int c3), .val (.int c4), .val (.ref o13), .val (.int c0), .val (.int c1), .val (.int c2), .val (.int c3), .val (.ref f5)]) at_428 rfl rfl ?_
      refine s_goto 438 C X at_430 ?_
      refine J T _ ?_ X
      have hf : famI (c0.toInt) (c1.toInt) (c2.toInt) (c3.toInt) = 5 := by
        unfold famI
        rw [if_neg (by omega), if_neg (by omega), if_neg (by omega), if_neg (by omega), if_neg (by omega), if_neg (by omega), if_neg (by omega), if_pos (by omega)]
      rw [hf]; rfl
    have J6 : ∀ (T : State), St p l e room_1 s m #[(.int x0), (.int x1), (.int x2), (.int x3), (.int x4), (.int x5)] below meth c n0 T hh 5 132 → ¬ (c0.toInt = 239 ∧ c1.toInt = 187 ∧ c2.toInt = 191) → ¬ (c0.toInt = 254 ∧ c1.toInt = 255) → ¬ (c0.toInt = 0 ∧ c1.toInt = 60 ∧ c2.toInt = 0 ∧ c3.toInt = 63) → ¬ (c0.toInt = 255 ∧ c1.toInt = 254) → ¬ (c0.toInt = 60 ∧ c1.toInt = 0 ∧ c2.toInt = 63 ∧ c3.toInt = 0) → ¬ (c0.toInt = 0 ∧ c1.toInt = 0 ∧ c2.toInt = 0 ∧ c3.toInt = 60) → Run p e below n0 (fun (v : Option Value) (h : Heap) => v = some (.int 1)) (fun o t L => FrameEnd s o t L room_1.cells room_1.slots) m T 365 #[.val (.int x0), .val (.int x1), .val (.int x2), .val (.int x3), .val (.int x4), .val (.int x5), .val (.int (4 : Int32)), .val (.int kk), .val (.int c0), .val (.int c1), .val (.int c2), .val (.int c3), .val (.int c4), .val (.ref o13), .val (.int c0), .val (.int c1), .val (.int c2), .val (.int c3), .unset] [] := by
      intro T X q0 q1 q2 q3 q4 q5
      refine s_iload 367 C X at_365 rfl ?_
      refine s_bipush 369 C X at_367 kc_bipush_60 ?_
      refine s_icmp_ne 395 372 C X at_369 (fun c369 => ?_) (fun c369 => ?_)
      · have t_c369 : ¬ ((c0).toInt = (60 : Int)) := fun q => c369 (Int32.toInt_inj.mp q)
        exact J7 T X (by omega) (by omega) (by omega) (by omega) (by omega) (by omega) (by omega)
      have t_c369 : (c0).toInt = (60 : Int) := congrArg Int32.toInt c369
      refine s_iload 374 C X at_372 rfl ?_
      refine s_if_ne 395 377 C X at_374 (fun c374 => ?_) (fun c374 => ?_)
      · have t_c374 : ¬ ((c1).toInt = (0 : Int)) := fun q => c374 (Int32.toInt_inj.mp q)
        exact J7 T X (by omega) (by omega) (by omega) (by omega) (by omega) (by omega) (by omega)
      have t_c374 : (c1).toInt = (0 : Int) := congrArg Int32.toInt c374
      refine s_iload 379 C X at_377 rfl ?_
      refine s_if_ne 395 382 C X at_379 (fun c379 => ?_) (fun c379 => ?_)
      · have t_c379 : ¬ ((c2).toInt = (0 : Int)) := fun q => c379 (Int32.toInt_inj.mp q)
        exact J7 T X (by omega) (by omega) (by omega) (by omega) (by omega) (by omega) (by omega)
      have t_c379 : (c2).toInt = (0 : Int) := congrArg Int32.toInt c379
      refine s_iload 384 C X at_382 rfl ?_
      refine s_if_ne 395 387 C X at_384 (fun c384 => ?_) (fun c384 => ?_)
      · have t_c384 : ¬ ((c3).toInt = (0 : Int)) := fun q => c384 (Int32.toInt_inj.mp q)
        exact J7 T X (by omega) (by omega) (by omega) (by omega) (by omega) (by omega) (by omega)
      have t_c384 : (c3).toInt = (0 : Int) := congrArg Int32.toInt c384
      refine s_getstatic 390 C X (host := "") at_387 (Or.inl (List.mem_of_getElem? (i := 60) rfl)) Via.refl (S_4.ext Od.2) (fun T X => ?_)
      refine s_astore 392 C X (l' := #[.val (.int x0), .val (.int x1), .val (.int x2), .val (.int x3), .val (.int x4), .val (.int x5), .val (.int (4 : Int32)), .val (.int kk), .val (.int c0), .val (.int c1), .val (.int c2), .val (.int c3), .val (.int c4), .val (.ref o13), .val (.int c0), .val (.int c1), .val (.int c2), .val (.int c3), .val (.ref f4)]) at_390 rfl rfl ?_
      refine s_goto 438 C X at_392 ?_
      refine J T _ ?_ X
      have hf : famI (c0.toInt) (c1.toInt) (c2.toInt) (c3.toInt) = 4 := by
        unfold famI
        rw [if_neg (by omega), if_neg (by omega), if_neg (by omega), if_neg (by omega), if_neg (by omega), if_neg (by omega), if_pos (by omega)]
      rw [hf]; rfl
    have J5 : ∀ (T : State), St p l e room_1 s m #[(.int x0), (.int x1), (.int x2), (.int x3), (.int x4), (.int x5)] below meth c n0 T hh 5 132 → ¬ (c0.toInt = 239 ∧ c1.toInt = 187 ∧ c2.toInt = 191) → ¬ (c0.toInt = 254 ∧ c1.toInt = 255) → ¬ (c0.toInt = 0 ∧ c1.toInt = 60 ∧ c2.toInt = 0 ∧ c3.toInt = 63) → ¬ (c0.toInt = 255 ∧ c1.toInt = 254) → ¬ (c0.toInt = 60 ∧ c1.toInt = 0 ∧ c2.toInt = 63 ∧ c3.toInt = 0) → Run p e below n0 (fun (v : Option Value) (h : Heap) => v = some (.int 1)) (fun o t L => FrameEnd s o t L room_1.cells room_1.slots) m T 335 #[.val (.int x0), .val (.int x1), .val (.int x2), .val (.int x3), .val (.int x4), .val (.int x5), .val (.int (4 : Int32)), .val (.int kk), .val (.int c0), .val (.int c1), .val (.int c2), .val (.int c3), .val (.int c4), .val (.ref o13), .val (.int c0), .val (.int c1), .val (.int c2), .val (.int c3), .unset] [] := by
      intro T X q0 q1 q2 q3 q4
      refine s_iload 337 C X at_335 rfl ?_
      refine s_if_ne 365 340 C X at_337 (fun c337 => ?_) (fun c337 => ?_)
      · have t_c337 : ¬ ((c0).toInt = (0 : Int)) := fun q => c337 (Int32.toInt_inj.mp q)
        exact J6 T X (by omega) (by omega) (by omega) (by omega) (by omega) (by omega)
      have t_c337 : (c0).toInt = (0 : Int) := congrArg Int32.toInt c337
      refine s_iload 342 C X at_340 rfl ?_
      refine s_if_ne 365 345 C X at_342 (fun c342 => ?_) (fun c342 => ?_)
      · have t_c342 : ¬ ((c1).toInt = (0 : Int)) := fun q => c342 (Int32.toInt_inj.mp q)
        exact J6 T X (by omega) (by omega) (by omega) (by omega) (by omega) (by omega)
      have t_c342 : (c1).toInt = (0 : Int) := congrArg Int32.toInt c342
      refine s_iload 347 C X at_345 rfl ?_
      refine s_if_ne 365 350 C X at_347 (fun c347 => ?_) (fun c347 => ?_)
      · have t_c347 : ¬ ((c2).toInt = (0 : Int)) := fun q => c347 (Int32.toInt_inj.mp q)
        exact J6 T X (by omega) (by omega) (by omega) (by omega) (by omega) (by omega)
      have t_c347 : (c2).toInt = (0 : Int) := congrArg Int32.toInt c347
      refine s_iload 352 C X at_350 rfl ?_
      refine s_bipush 354 C X at_352 kc_bipush_60 ?_
      refine s_icmp_ne 365 357 C X at_354 (fun c354 => ?_) (fun c354 => ?_)
      · have t_c354 : ¬ ((c3).toInt = (60 : Int)) := fun q => c354 (Int32.toInt_inj.mp q)
        exact J6 T X (by omega) (by omega) (by omega) (by omega) (by omega) (by omega)
      have t_c354 : (c3).toInt = (60 : Int) := congrArg Int32.toInt c354
      refine s_getstatic 360 C X (host := "") at_357 (Or.inl (List.mem_of_getElem? (i := 59) rfl)) Via.refl (S_3.ext Od.2) (fun T X => ?_)
      refine s_astore 362 C X (l' := #[.val (.int x0), .val (.int x1), .val (.int x2), .val (.int x3), .val (.int x4), .val (.int x5), .val (.int (4 : Int32)), .val (.int kk), .val (.int c0), .val (.int c1), .val (.int c2), .val (.int c3), .val (.int c4), .val (.ref o13), .val (.int c0), .val (.int c1), .val (.int c2), .val (.int c3), .val (.ref f3)]) at_360 rfl rfl ?_
      refine s_goto 438 C X at_362 ?_
      refine J T _ ?_ X
      have hf : famI (c0.toInt) (c1.toInt) (c2.toInt) (c3.toInt) = 3 := by
        unfold famI
        rw [if_neg (by omega), if_neg (by omega), if_neg (by omega), if_neg (by omega), if_neg (by omega), if_pos (by omega)]
      rw [hf]; rfl
    have J4 : ∀ (T : State), St p l e room_1 s m #[(.int x0), (.int x1), (.int x2), (.int x3), (.int x4), (.int x5)] below meth c n0 T hh 5 132 → ¬ (c0.toInt = 239 ∧ c1.toInt = 187 ∧ c2.toInt = 191) → ¬ (c0.toInt = 254 ∧ c1.toInt = 255) → ¬ (c0.toInt = 0 ∧ c1.toInt = 60 ∧ c2.toInt = 0 ∧ c3.toInt = 63) → ¬ (c0.toInt = 255 ∧ c1.toInt = 254) → Run p e below n0 (fun (v : Option Value) (h : Heap) => v = some (.int 1)) (fun o t L => FrameEnd s o t L room_1.cells room_1.slots) m T 303 #[.val (.int x0), .val (.int x1), .val (.int x2), .val (.int x3), .val (.int x4), .val (.int x5), .val (.int (4 : Int32)), .val (.int kk), .val (.int c0), .val (.int c1), .val (.int c2), .val (.int c3), .val (.int c4), .val (.ref o13), .val (.int c0), .val (.int c1), .val (.int c2), .val (.int c3), .unset] [] := by
      intro T X q0 q1 q2 q3
      refine s_iload 305 C X at_303 rfl ?_
      refine s_bipush 307 C X at_305 kc_bipush_60 ?_
      refine s_icmp_ne 335 310 C X at_307 (fun c307 => ?_) (fun c307 => ?_)
      · have t_c307 : ¬ ((c0).toInt = (60 : Int)) := fun q => c307 (Int32.toInt_inj.mp q)
        exact J5 T X (by omega) (by omega) (by omega) (by omega) (by omega)
      have t_c307 : (c0).toInt = (60 : Int) := congrArg Int32.toInt c307
      refine s_iload 312 C X at_310 rfl ?_
      refine s_if_ne 335 315 C X at_312 (fun c312 => ?_) (fun c312 => ?_)
      · have t_c312 : ¬ ((c1).toInt = (0 : Int)) := fun q => c312 (Int32.toInt_inj.mp q)
        exact J5 T X (by omega) (by omega) (by omega) (by omega) (by omega)
      have t_c312 : (c1).toInt = (0 : Int) := congrArg Int32.toInt c312
      refine s_iload 317 C X at_315 rfl ?_
      refine s_bipush 319 C X at_317 kc_bipush_63 ?_
      refine s_icmp_ne 335 322 C X at_319 (fun c319 => ?_) (fun c319 => ?_)
      · have t_c319 : ¬ ((c2).toInt = (63 : Int)) := fun q => c319 (Int32.toInt_inj.mp q)
        exact J5 T X (by omega) (by omega) (by omega) (by omega) (by omega)
      have t_c319 : (c2).toInt = (63 : Int) := congrArg Int32.toInt c319
      refine s_iload 324 C X at_322 rfl ?_
      refine s_if_ne 335 327 C X at_324 (fun c324 => ?_) (fun c324 => ?_)
      · have t_c324 : ¬ ((c3).toInt = (0 : Int)) := fun q => c324 (Int32.toInt_inj.mp q)
        exact J5 T X (by omega) (by omega) (by omega) (by omega) (by omega)
      have t_c324 : (c3).toInt = (0 : Int) := congrArg Int32.toInt c324
      refine s_getstatic 330 C X (host := "") at_327 (Or.inl (List.mem_of_getElem? (i := 55) rfl)) Via.refl (S_2.ext Od.2) (fun T X => ?_)
      refine s_astore 332 C X (l' := #[.val (.int x0), .val (.int x1), .val (.int x2), .val (.int x3), .val (.int x4), .val (.int x5), .val (.int (4 : Int32)), .val (.int kk), .val (.int c0), .val (.int c1), .val (.int c2), .val (.int c3), .val (.int c4), .val (.ref o13), .val (.int c0), .val (.int c1), .val (.int c2), .val (.int c3), .val (.ref f2)]) at_330 rfl rfl ?_
      refine s_goto 438 C X at_332 ?_
      refine J T _ ?_ X
      have hf : famI (c0.toInt) (c1.toInt) (c2.toInt) (c3.toInt) = 2 := by
        unfold famI
        rw [if_neg (by omega), if_neg (by omega), if_neg (by omega), if_neg (by omega), if_pos (by omega)]
      rw [hf]; rfl
    have J3 : ∀ (T : State), St p l e room_1 s m #[(.int x0), (.int x1), (.int x2), (.int x3), (.int x4), (.int x5)] below meth c n0 T hh 5 132 → ¬ (c0.toInt = 239 ∧ c1.toInt = 187 ∧ c2.toInt = 191) → ¬ (c0.toInt = 254 ∧ c1.toInt = 255) → ¬ (c0.toInt = 0 ∧ c1.toInt = 60 ∧ c2.toInt = 0 ∧ c3.toInt = 63) → Run p e below n0 (fun (v : Option Value) (h : Heap) => v = some (.int 1)) (fun o t L => FrameEnd s o t L room_1.cells room_1.slots) m T 279 #[.val (.int x0), .val (.int x1), .val (.int x2), .val (.int x3), .val (.int x4), .val (.int x5), .val (.int (4 : Int32)), .val (.int kk), .val (.int c0), .val (.int c1), .val (.int c2), .val (.int c3), .val (.int c4), .val (.ref o13), .val (.int c0), .val (.int c1), .val (.int c2), .val (.int c3), .unset] [] := by
      intro T X q0 q1 q2
      refine s_iload 281 C X at_279 rfl ?_
      refine s_sipush 284 C X at_281 kc_sipush_255 ?_
      refine s_icmp_ne 303 287 C X at_284 (fun c284 => ?_) (fun c284 => ?_)
      · have t_c284 : ¬ ((c0).toInt = (255 : Int)) := fun q => c284 (Int32.toInt_inj.mp q)
        exact J4 T X (by omega) (by omega) (by omega) (by omega)
      have t_c284 : (c0).toInt = (255 : Int) := congrArg Int32.toInt c284
      refine s_iload 289 C X at_287 rfl ?_
      refine s_sipush 292 C X at_289 kc_sipush_254 ?_
      refine s_icmp_ne 303 295 C X at_292 (fun c292 => ?_) (fun c292 => ?_)
      · have t_c292 : ¬ ((c1).toInt = (254 : Int)) := fun q => c292 (Int32.toInt_inj.mp q)
        exact J4 T X (by omega) (by omega) (by omega) (by omega)
      have t_c292 : (c1).toInt = (254 : Int) := congrArg Int32.toInt c292
      refine s_getstatic 298 C X (host := "") at_295 (Or.inl (List.mem_of_getElem? (i := 55) rfl)) Via.refl (S_2.ext Od.2) (fun T X => ?_)
      refine s_astore 300 C X (l' := #[.val (.int x0), .val (.int x1), .val (.int x2), .val (.int x3), .val (.int x4), .val (.int x5), .val (.int (4 : Int32)), .val (.int kk), .val (.int c0), .val (.int c1), .val (.int c2), .val (.int c3), .val (.int c4), .val (.ref o13), .val (.int c0), .val (.int c1), .val (.int c2), .val (.int c3), .val (.ref f2)]) at_298 rfl rfl ?_
      refine s_goto 438 C X at_300 ?_
      refine J T _ ?_ X
      have hf : famI (c0.toInt) (c1.toInt) (c2.toInt) (c3.toInt) = 2 := by
        unfold famI
        rw [if_neg (by omega), if_neg (by omega), if_neg (by omega), if_pos (by omega)]
      rw [hf]; rfl
    have J2 : ∀ (T : State), St p l e room_1 s m #[(.int x0), (.int x1), (.int x2), (.int x3), (.int x4), (.int x5)] below meth c n0 T hh 5 132 → ¬ (c0.toInt = 239 ∧ c1.toInt = 187 ∧ c2.toInt = 191) → ¬ (c0.toInt = 254 ∧ c1.toInt = 255) → Run p e below n0 (fun (v : Option Value) (h : Heap) => v = some (.int 1)) (fun o t L => FrameEnd s o t L room_1.cells room_1.slots) m T 247 #[.val (.int x0), .val (.int x1), .val (.int x2), .val (.int x3), .val (.int x4), .val (.int x5), .val (.int (4 : Int32)), .val (.int kk), .val (.int c0), .val (.int c1), .val (.int c2), .val (.int c3), .val (.int c4), .val (.ref o13), .val (.int c0), .val (.int c1), .val (.int c2), .val (.int c3), .unset] [] := by
      intro T X q0 q1
      refine s_iload 249 C X at_247 rfl ?_
      refine s_if_ne 279 252 C X at_249 (fun c249 => ?_) (fun c249 => ?_)
      · have t_c249 : ¬ ((c0).toInt = (0 : Int)) := fun q => c249 (Int32.toInt_inj.mp q)
        exact J3 T X (by omega) (by omega) (by omega)
      have t_c249 : (c0).toInt = (0 : Int) := congrArg Int32.toInt c249
      refine s_iload 254 C X at_252 rfl ?_
      refine s_bipush 256 C X at_254 kc_bipush_60 ?_
      refine s_icmp_ne 279 259 C X at_256 (fun c256 => ?_) (fun c256 => ?_)
      · have t_c256 : ¬ ((c1).toInt = (60 : Int)) := fun q => c256 (Int32.toInt_inj.mp q)
        exact J3 T X (by omega) (by omega) (by omega)
      have t_c256 : (c1).toInt = (60 : Int) := congrArg Int32.toInt c256
      refine s_iload 261 C X at_259 rfl ?_
      refine s_if_ne 279 264 C X at_261 (fun c261 => ?_) (fun c261 => ?_)
      · have t_c261 : ¬ ((c2).toInt = (0 : Int)) := fun q => c261 (Int32.toInt_inj.mp q)
        exact J3 T X (by omega) (by omega) (by omega)
      have t_c261 : (c2).toInt = (0 : Int) := congrArg Int32.toInt c261
      refine s_iload 266 C X at_264 rfl ?_
      refine s_bipush 268 C X at_266 kc_bipush_63 ?_
      refine s_icmp_ne 279 271 C X at_268 (fun c268 => ?_) (fun c268 => ?_)
      · have t_c268 : ¬ ((c3).toInt = (63 : Int)) := fun q => c268 (Int32.toInt_inj.mp q)
        exact J3 T X (by omega) (by omega) (by omega)
      have t_c268 : (c3).toInt = (63 : Int) := congrArg Int32.toInt c268
      refine s_getstatic 274 C X (host := "") at_271 (Or.inl (List.mem_of_getElem? (i := 56) rfl)) Via.refl (S_1.ext Od.2) (fun T X => ?_)
      refine s_astore 276 C X (l' := #[.val (.int x0), .val (.int x1), .val (.int x2), .val (.int x3), .val (.int x4), .val (.int x5), .val (.int (4 : Int32)), .val (.int kk), .val (.int c0), .val (.int c1), .val (.int c2), .val (.int c3), .val (.int c4), .val (.ref o13), .val (.int c0), .val (.int c1), .val (.int c2), .val (.int c3), .val (.ref f1)]) at_274 rfl rfl ?_
      refine s_goto 438 C X at_276 ?_
      refine J T _ ?_ X
      have hf : famI (c0.toInt) (c1.toInt) (c2.toInt) (c3.toInt) = 1 := by
        unfold famI
        rw [if_neg (by omega), if_neg (by omega), if_pos (by omega)]
      rw [hf]; rfl
    have J1 : ∀ (T : State), St p l e room_1 s m #[(.int x0), (.int x1), (.int x2), (.int x3), (.int x4), (.int x5)] below meth c n0 T hh 5 132 → ¬ (c0.toInt = 239 ∧ c1.toInt = 187 ∧ c2.toInt = 191) → Run p e below n0 (fun (v : Option Value) (h : Heap) => v = some (.int 1)) (fun o t L => FrameEnd s o t L room_1.cells room_1.slots) m T 223 #[.val (.int x0), .val (.int x1), .val (.int x2), .val (.int x3), .val (.int x4), .val (.int x5), .val (.int (4 : Int32)), .val (.int kk), .val (.int c0), .val (.int c1), .val (.int c2), .val (.int c3), .val (.int c4), .val (.ref o13), .val (.int c0), .val (.int c1), .val (.int c2), .val (.int c3), .unset] [] := by
      intro T X q0
      refine s_iload 225 C X at_223 rfl ?_
      refine s_sipush 228 C X at_225 kc_sipush_254 ?_
      refine s_icmp_ne 247 231 C X at_228 (fun c228 => ?_) (fun c228 => ?_)
      · have t_c228 : ¬ ((c0).toInt = (254 : Int)) := fun q => c228 (Int32.toInt_inj.mp q)
        exact J2 T X (by omega) (by omega)
      have t_c228 : (c0).toInt = (254 : Int) := congrArg Int32.toInt c228
      refine s_iload 233 C X at_231 rfl ?_
      refine s_sipush 236 C X at_233 kc_sipush_255 ?_
      refine s_icmp_ne 247 239 C X at_236 (fun c236 => ?_) (fun c236 => ?_)
      · have t_c236 : ¬ ((c1).toInt = (255 : Int)) := fun q => c236 (Int32.toInt_inj.mp q)
        exact J2 T X (by omega) (by omega)
      have t_c236 : (c1).toInt = (255 : Int) := congrArg Int32.toInt c236
      refine s_getstatic 242 C X (host := "") at_239 (Or.inl (List.mem_of_getElem? (i := 56) rfl)) Via.refl (S_1.ext Od.2) (fun T X => ?_)
      refine s_astore 244 C X (l' := #[.val (.int x0), .val (.int x1), .val (.int x2), .val (.int x3), .val (.int x4), .val (.int x5), .val (.int (4 : Int32)), .val (.int kk), .val (.int c0), .val (.int c1), .val (.int c2), .val (.int c3), .val (.int c4), .val (.ref o13), .val (.int c0), .val (.int c1), .val (.int c2), .val (.int c3), .val (.ref f1)]) at_242 rfl rfl ?_
      refine s_goto 438 C X at_244 ?_
      refine J T _ ?_ X
      have hf : famI (c0.toInt) (c1.toInt) (c2.toInt) (c3.toInt) = 1 := by
        unfold famI
        rw [if_neg (by omega), if_pos (by omega)]
      rw [hf]; rfl
    refine s_iload 193 C X at_191 rfl ?_
    refine s_sipush 196 C X at_193 kc_sipush_239 ?_
    refine s_icmp_ne 223 199 C X at_196 (fun c196 => ?_) (fun c196 => ?_)
    · have t_c196 : ¬ ((c0).toInt = (239 : Int)) := fun q => c196 (Int32.toInt_inj.mp q)
      exact J1 T X (by omega)
    have t_c196 : (c0).toInt = (239 : Int) := congrArg Int32.toInt c196
    refine s_iload 201 C X at_199 rfl ?_
    refine s_sipush 204 C X at_201 kc_sipush_187 ?_
    refine s_icmp_ne 223 207 C X at_204 (fun c204 => ?_) (fun c204 => ?_)
    · have t_c204 : ¬ ((c1).toInt = (187 : Int)) := fun q => c204 (Int32.toInt_inj.mp q)
      exact J1 T X (by omega)
    have t_c204 : (c1).toInt = (187 : Int) := congrArg Int32.toInt c204
    refine s_iload 209 C X at_207 rfl ?_
    refine s_sipush 212 C X at_209 kc_sipush_191 ?_
    refine s_icmp_ne 223 215 C X at_212 (fun c212 => ?_) (fun c212 => ?_)
    · have t_c212 : ¬ ((c2).toInt = (191 : Int)) := fun q => c212 (Int32.toInt_inj.mp q)
      exact J1 T X (by omega)
    have t_c212 : (c2).toInt = (191 : Int) := congrArg Int32.toInt c212
    refine s_getstatic 218 C X (host := "") at_215 (Or.inl (List.mem_of_getElem? (i := 9) rfl)) Via.refl (S_0.ext Od.2) (fun T X => ?_)
    refine s_astore 220 C X (l' := #[.val (.int x0), .val (.int x1), .val (.int x2), .val (.int x3), .val (.int x4), .val (.int x5), .val (.int (4 : Int32)), .val (.int kk), .val (.int c0), .val (.int c1), .val (.int c2), .val (.int c3), .val (.int c4), .val (.ref o13), .val (.int c0), .val (.int c1), .val (.int c2), .val (.int c3), .val (.ref f0)]) at_218 rfl rfl ?_
    refine s_goto 438 C X at_220 ?_
    refine J T _ ?_ X
    have hf : famI (c0.toInt) (c1.toInt) (c2.toInt) (c3.toInt) = 0 := by
      unfold famI
      rw [if_pos (by omega)]
    rw [hf]; rfl
  · refine s_iload 68 C X at_66 rfl ?_
    refine s_newarray 70 5 C X at_68 (List.mem_of_getElem? (i := 8) rfl) (by decide) (by decide) (fun T hh o15 k_o15 hb_o15 X E A_o15 g_o15 => ?_)
    have Od := Od.ext E
    have A_o15 : Arv Z _ o15 k_o15 .byte (5 : Int32) [(.int (0 : Int32)), (.int (0 : Int32)), (.int (0 : Int32)), (.int (0 : Int32)), (.int (0 : Int32))] (.int (0 : Int32)) := A_o15.pad (pad_rep [] _ 5)
    refine s_astore 72 C X (l' := #[.val (.int x0), .val (.int x1), .val (.int x2), .val (.int x3), .val (.int x4), .val (.int x5), .val (.int (5 : Int32)), .val (.int kk), .val (.int c0), .val (.int c1), .val (.int c2), .val (.int c3), .val (.int c4), .val (.ref o15), .unset, .unset, .unset, .unset, .unset]) at_70 rfl rfl ?_
    refine s_iload 74 C X at_72 rfl ?_
    refine s_if_le 84 77 C X at_74 (fun c => absurd (by decide : (0 : Int32) < (5 : Int32)) c) (fun _ => ?_)
    refine s_aload 79 C X at_77 rfl rfl ?_
    refine s_iconst 80 C X at_79 kc_iconst_0 ?_
    refine s_iload 82 C X at_80 rfl ?_
    refine s_i2b 83 C X at_82 ?_
    refine s_bastore 84 0 C X at_83 A_o15 g_o15 ⟨by decide, by decide⟩ rfl (Nat.le_of_ble_eq_true rfl) (fun T hh X W A_o15 => ?_)
    have A_o15 : Arv Z _ o15 k_o15 .byte (5 : Int32) [(.int (nar .byte (c0).toInt8.toInt32)), (.int (0 : Int32)), (.int (0 : Int32)), (.int (0 : Int32)), (.int (0 : Int32))] (.int (0 : Int32)) := A_o15
    have Od := Od.wr W g_o15
    refine s_iload 86 C X at_84 rfl ?_
    refine s_iconst 87 C X at_86 kc_iconst_1 ?_
    refine s_icmp_le 97 90 C X at_87 (fun c => absurd (by decide : (1 : Int32) < (5 : Int32)) c) (fun _ => ?_)
    refine s_aload 92 C X at_90 rfl rfl ?_
    refine s_iconst 93 C X at_92 kc_iconst_1 ?_
    refine s_iload 95 C X at_93 rfl ?_
    refine s_i2b 96 C X at_95 ?_
    refine s_bastore 97 1 C X at_96 A_o15 g_o15 ⟨by decide, by decide⟩ rfl (Nat.le_of_ble_eq_true rfl) (fun T hh X W A_o15 => ?_)
    have A_o15 : Arv Z _ o15 k_o15 .byte (5 : Int32) [(.int (nar .byte (c0).toInt8.toInt32)), (.int (nar .byte (c1).toInt8.toInt32)), (.int (0 : Int32)), (.int (0 : Int32)), (.int (0 : Int32))] (.int (0 : Int32)) := A_o15
    have Od := Od.wr W g_o15
    refine s_iload 99 C X at_97 rfl ?_
    refine s_iconst 100 C X at_99 kc_iconst_2 ?_
    refine s_icmp_le 110 103 C X at_100 (fun c => absurd (by decide : (2 : Int32) < (5 : Int32)) c) (fun _ => ?_)
    refine s_aload 105 C X at_103 rfl rfl ?_
    refine s_iconst 106 C X at_105 kc_iconst_2 ?_
    refine s_iload 108 C X at_106 rfl ?_
    refine s_i2b 109 C X at_108 ?_
    refine s_bastore 110 2 C X at_109 A_o15 g_o15 ⟨by decide, by decide⟩ rfl (Nat.le_of_ble_eq_true rfl) (fun T hh X W A_o15 => ?_)
    have A_o15 : Arv Z _ o15 k_o15 .byte (5 : Int32) [(.int (nar .byte (c0).toInt8.toInt32)), (.int (nar .byte (c1).toInt8.toInt32)), (.int (nar .byte (c2).toInt8.toInt32)), (.int (0 : Int32)), (.int (0 : Int32))] (.int (0 : Int32)) := A_o15
    have Od := Od.wr W g_o15
    refine s_iload 112 C X at_110 rfl ?_
    refine s_iconst 113 C X at_112 kc_iconst_3 ?_
    refine s_icmp_le 123 116 C X at_113 (fun c => absurd (by decide : (3 : Int32) < (5 : Int32)) c) (fun _ => ?_)
    refine s_aload 118 C X at_116 rfl rfl ?_
    refine s_iconst 119 C X at_118 kc_iconst_3 ?_
    refine s_iload 121 C X at_119 rfl ?_
    refine s_i2b 122 C X at_121 ?_
    refine s_bastore 123 3 C X at_122 A_o15 g_o15 ⟨by decide, by decide⟩ rfl (Nat.le_of_ble_eq_true rfl) (fun T hh X W A_o15 => ?_)
    have A_o15 : Arv Z _ o15 k_o15 .byte (5 : Int32) [(.int (nar .byte (c0).toInt8.toInt32)), (.int (nar .byte (c1).toInt8.toInt32)), (.int (nar .byte (c2).toInt8.toInt32)), (.int (nar .byte (c3).toInt8.toInt32)), (.int (0 : Int32))] (.int (0 : Int32)) := A_o15
    have Od := Od.wr W g_o15
    refine s_iload 125 C X at_123 rfl ?_
    refine s_iconst 126 C X at_125 kc_iconst_4 ?_
    refine s_icmp_le 136 129 C X at_126 (fun c => absurd (by decide : (4 : Int32) < (5 : Int32)) c) (fun _ => ?_)
    refine s_aload 131 C X at_129 rfl rfl ?_
    refine s_iconst 132 C X at_131 kc_iconst_4 ?_
    refine s_iload 134 C X at_132 rfl ?_
    refine s_i2b 135 C X at_134 ?_
    refine s_bastore 136 4 C X at_135 A_o15 g_o15 ⟨by decide, by decide⟩ rfl (Nat.le_of_ble_eq_true rfl) (fun T hh X W A_o15 => ?_)
    have A_o15 : Arv Z _ o15 k_o15 .byte (5 : Int32) [(.int (nar .byte (c0).toInt8.toInt32)), (.int (nar .byte (c1).toInt8.toInt32)), (.int (nar .byte (c2).toInt8.toInt32)), (.int (nar .byte (c3).toInt8.toInt32)), (.int (nar .byte (c4).toInt8.toInt32))] (.int (0 : Int32)) := A_o15
    have Od := Od.wr W g_o15
    refine s_iload 138 C X at_136 rfl ?_
    refine s_if_le 146 141 C X at_138 (fun c => absurd (by decide : (0 : Int32) < (5 : Int32)) c) (fun _ => ?_)
    refine s_iload 143 C X at_141 rfl ?_
    refine s_goto 147 C X at_143 ?_
    refine s_istore 149 C X (l' := #[.val (.int x0), .val (.int x1), .val (.int x2), .val (.int x3), .val (.int x4), .val (.int x5), .val (.int (5 : Int32)), .val (.int kk), .val (.int c0), .val (.int c1), .val (.int c2), .val (.int c3), .val (.int c4), .val (.ref o15), .val (.int c0), .unset, .unset, .unset, .unset]) at_147 rfl ?_
    refine s_iload 151 C X at_149 rfl ?_
    refine s_iconst 152 C X at_151 kc_iconst_1 ?_
    refine s_icmp_le 160 155 C X at_152 (fun c => absurd (by decide : (1 : Int32) < (5 : Int32)) c) (fun _ => ?_)
    refine s_iload 157 C X at_155 rfl ?_
    refine s_goto 161 C X at_157 ?_
    refine s_istore 163 C X (l' := #[.val (.int x0), .val (.int x1), .val (.int x2), .val (.int x3), .val (.int x4), .val (.int x5), .val (.int (5 : Int32)), .val (.int kk), .val (.int c0), .val (.int c1), .val (.int c2), .val (.int c3), .val (.int c4), .val (.ref o15), .val (.int c0), .val (.int c1), .unset, .unset, .unset]) at_161 rfl ?_
    refine s_iload 165 C X at_163 rfl ?_
    refine s_iconst 166 C X at_165 kc_iconst_2 ?_
    refine s_icmp_le 174 169 C X at_166 (fun c => absurd (by decide : (2 : Int32) < (5 : Int32)) c) (fun _ => ?_)
    refine s_iload 171 C X at_169 rfl ?_
    refine s_goto 175 C X at_171 ?_
    refine s_istore 177 C X (l' := #[.val (.int x0), .val (.int x1), .val (.int x2), .val (.int x3), .val (.int x4), .val (.int x5), .val (.int (5 : Int32)), .val (.int kk), .val (.int c0), .val (.int c1), .val (.int c2), .val (.int c3), .val (.int c4), .val (.ref o15), .val (.int c0), .val (.int c1), .val (.int c2), .unset, .unset]) at_175 rfl ?_
    refine s_iload 179 C X at_177 rfl ?_
    refine s_iconst 180 C X at_179 kc_iconst_3 ?_
    refine s_icmp_le 188 183 C X at_180 (fun c => absurd (by decide : (3 : Int32) < (5 : Int32)) c) (fun _ => ?_)
    refine s_iload 185 C X at_183 rfl ?_
    refine s_goto 189 C X at_185 ?_
    refine s_istore 191 C X (l' := #[.val (.int x0), .val (.int x1), .val (.int x2), .val (.int x3), .val (.int x4), .val (.int x5), .val (.int (5 : Int32)), .val (.int kk), .val (.int c0), .val (.int c1), .val (.int c2), .val (.int c3), .val (.int c4), .val (.ref o15), .val (.int c0), .val (.int c1), .val (.int c2), .val (.int c3), .unset]) at_189 rfl ?_
    have J : ∀ (T : State) (ex : Addr), ex = nthA f0 f1 f2 f3 f4 f5 (famI (c0.toInt) (c1.toInt) (c2.toInt) (c3.toInt)) → St p l e room_1 s m #[(.int x0), (.int x1), (.int x2), (.int x3), (.int x4), (.int x5)] below meth c n0 T hh 5 133 → Run p e below n0 (fun (v : Option Value) (h : Heap) => v = some (.int 1)) (fun o t L => FrameEnd s o t L room_1.cells room_1.slots) m T 438 #[.val (.int x0), .val (.int x1), .val (.int x2), .val (.int x3), .val (.int x4), .val (.int x5), .val (.int (5 : Int32)), .val (.int kk), .val (.int c0), .val (.int c1), .val (.int c2), .val (.int c3), .val (.int c4), .val (.ref o15), .val (.int c0), .val (.int c1), .val (.int c2), .val (.int c3), .val (.ref ex)] [] := by
      intro T ex hex X
      refine s_aload 440 C X at_438 rfl rfl ?_
      have ha : ∀ i : Nat, (i : Int) < (5 : Int32).toInt → ([(.int (bb c0)), (.int (bb c1)), (.int (bb c2)), (.int (bb c3)), (.int (bb c4))] : List Value).getD i (.int 0) = .int ((fun i => if i = 4 then bb c4 else (nth4 (bb c0) (bb c1) (bb c2) (bb c3)) i) i) := by
        intro i hi
        have kz : (5 : Int32).toInt = 5 := by decide
        rcases i with _ | _ | _ | _ | _ | i
        · rfl
        · rfl
        · rfl
        · rfl
        · rfl
        · exfalso; omega
      have A_av := AV.ext Od.2
      have E_av := EV.ext Od.2
      have B0 := B0.ext Od.2
      have G0 := G0.ext Od.2
      have Ab0 := Ab0.ext Od.2
      have Ag0 := Ag0.ext Od.2
      have B1 := B1.ext Od.2
      have G1 := G1.ext Od.2
      have Ab1 := Ab1.ext Od.2
      have Ag1 := Ag1.ext Od.2
      have B2 := B2.ext Od.2
      have G2 := G2.ext Od.2
      have Ab2 := Ab2.ext Od.2
      have Ag2 := Ag2.ext Od.2
      have B3 := B3.ext Od.2
      have G3 := G3.ext Od.2
      have Ab3 := Ab3.ext Od.2
      have Ag3 := Ag3.ext Od.2
      have B4 := B4.ext Od.2
      have G4 := G4.ext Od.2
      have Ab4 := Ab4.ext Od.2
      have Ag4 := Ag4.ext Od.2
      have B5 := B5.ext Od.2
      have G5 := G5.ext Od.2
      have Ab5 := Ab5.ext Od.2
      have Ag5 := Ag5.ext Od.2
      refine s_callS 443 [(.ref o15)] [] 0 C X at_440 (List.mem_of_getElem? (i := 12) rfl) (List.mem_of_getElem? (i := 13) rfl) (List.mem_of_getElem? (i := 10) rfl) (List.mem_of_getElem? (i := 14) rfl) (rm_of l Z a0 hw o15 5 k_o15 _ (fun i => if i = 4 then bb c4 else (nth4 (bb c0) (bb c1) (bb c2) (bb c3)) i) av k_av f0 f1 f2 f3 f4 f5 b0 g0 k_b0 k_g0 vb0 vg0 b1 g1 k_b1 k_g1 vb1 vg1 b2 g2 k_b2 k_g2 vb2 vg2 b3 g3 k_b3 k_g3 vb3 vg3 b4 g4 k_b4 k_g4 vb4 vg4 b5 g5 k_b5 k_g5 vb5 vg5 _ n0 X.sz Od S_V A_av E_av S_0 A_o15 ha B0 G0 Ab0 Hb0 Ag0 Hg0 B1 G1 Ab1 Hb1 Ag1 Hg1 B2 G2 Ab2 Hb2 Ag2 Hg2 B3 G3 Ab3 Hb3 Ag3 Hg3 B4 G4 Ab4 Hb4 Ag4 Hg4 B5 G5 Ab5 Hb5 Ag5 Hg5) (lenOf pd___B_Lcom_example_shapelint_shapelint_io_XmlEncodingFamily_ rfl) rfl rfl rfl (fun T v hh X q => ?_)
      obtain ⟨rfl, Kc⟩ := q
      refine Run.cast (st' := [(.ref (nthA f0 f1 f2 f3 f4 f5 (famS (5 : Int32).toInt (bb c0).toInt (bb c1).toInt (bb c2).toInt (bb c3).toInt)))]) rfl ?_
      refine s_aload 445 C X at_443 rfl rfl ?_
      have bq0 := own_bbc ⟨l_c0, u_c0⟩
      have bq1 := own_bbc ⟨l_c1, u_c1⟩
      have bq2 := own_bbc ⟨l_c2, u_c2⟩
      have bq3 := own_bbc ⟨l_c3, u_c3⟩
      have kn : (5 : Int32).toInt = 5 := by decide
      have hs : famS (5 : Int32).toInt (bb c0).toInt (bb c1).toInt (bb c2).toInt (bb c3).toInt = famI (c0.toInt) (c1.toInt) (c2.toInt) (c3.toInt) := own_same (by omega) (by omega) (by omega) (by omega)
      have hz : ((.ref (nthA f0 f1 f2 f3 f4 f5 (famS (5 : Int32).toInt (bb c0).toInt (bb c1).toInt (bb c2).toInt (bb c3).toInt))) : Value) = (.ref ex) := by rw [hs, hex]
      refine s_acmp_ne 452 448 C X at_445 rfl rfl (fun c => absurd hz c) (fun c445 => ?_)
      refine s_iconst 449 C X at_448 kc_iconst_1 ?_
      refine s_goto 453 C X at_449 ?_
      refine s_nreturn C X at_453 rfl (by simp) rfl ?_
      rfl
    have J8 : ∀ (T : State), St p l e room_1 s m #[(.int x0), (.int x1), (.int x2), (.int x3), (.int x4), (.int x5)] below meth c n0 T hh 5 133 → ¬ (c0.toInt = 239 ∧ c1.toInt = 187 ∧ c2.toInt = 191) → ¬ (c0.toInt = 254 ∧ c1.toInt = 255) → ¬ (c0.toInt = 0 ∧ c1.toInt = 60 ∧ c2.toInt = 0 ∧ c3.toInt = 63) → ¬ (c0.toInt = 255 ∧ c1.toInt = 254) → ¬ (c0.toInt = 60 ∧ c1.toInt = 0 ∧ c2.toInt = 63 ∧ c3.toInt = 0) → ¬ (c0.toInt = 0 ∧ c1.toInt = 0 ∧ c2.toInt = 0 ∧ c3.toInt = 60) → ¬ (c0.toInt = 60 ∧ c1.toInt = 0 ∧ c2.toInt = 0 ∧ c3.toInt = 0) → ¬ (c0.toInt = 76 ∧ c1.toInt = 111 ∧ c2.toInt = 167 ∧ c3.toInt = 148) → Run p e below n0 (fun (v : Option Value) (h : Heap) => v = some (.int 1)) (fun o t L => FrameEnd s o t L room_1.cells room_1.slots) m T 433 #[.val (.int x0), .val (.int x1), .val (.int x2), .val (.int x3), .val (.int x4), .val (.int x5), .val (.int (5 : Int32)), .val (.int kk), .val (.int c0), .val (.int c1), .val (.int c2), .val (.int c3), .val (.int c4), .val (.ref o15), .val (.int c0), .val (.int c1), .val (.int c2), .val (.int c3), .unset] [] := by
      intro T X q0 q1 q2 q3 q4 q5 q6 q7
      refine s_getstatic 436 C X (host := "") at_433 (Or.inl (List.mem_of_getElem? (i := 9) rfl)) Via.refl (S_0.ext Od.2) (fun T X => ?_)
      refine s_astore 438 C X (l' := #[.val (.int x0), .val (.int x1), .val (.int x2), .val (.int x3), .val (.int x4), .val (.int x5), .val (.int (5 : Int32)), .val (.int kk), .val (.int c0), .val (.int c1), .val (.int c2), .val (.int c3), .val (.int c4), .val (.ref o15), .val (.int c0), .val (.int c1), .val (.int c2), .val (.int c3), .val (.ref f0)]) at_436 rfl rfl ?_
      refine J T _ ?_ X
      have hf : famI (c0.toInt) (c1.toInt) (c2.toInt) (c3.toInt) = 0 := by
        unfold famI
        rw [if_neg (by omega), if_neg (by omega), if_neg (by omega), if_neg (by omega), if_neg (by omega), if_neg (by omega), if_neg (by omega), if_neg (by omega)]
      rw [hf]; rfl
    have J7 : ∀ (T : State), St p l e room_1 s m #[(.int x0), (.int x1), (.int x2), (.int x3), (.int x4), (.int x5)] below meth c n0 T hh 5 133 → ¬ (c0.toInt = 239 ∧ c1.toInt = 187 ∧ c2.toInt = 191) → ¬ (c0.toInt = 254 ∧ c1.toInt = 255) → ¬ (c0.toInt = 0 ∧ c1.toInt = 60 ∧ c2.toInt = 0 ∧ c3.toInt = 63) → ¬ (c0.toInt = 255 ∧ c1.toInt = 254) → ¬ (c0.toInt = 60 ∧ c1.toInt = 0 ∧ c2.toInt = 63 ∧ c3.toInt = 0) → ¬ (c0.toInt = 0 ∧ c1.toInt = 0 ∧ c2.toInt = 0 ∧ c3.toInt = 60) → ¬ (c0.toInt = 60 ∧ c1.toInt = 0 ∧ c2.toInt = 0 ∧ c3.toInt = 0) → Run p e below n0 (fun (v : Option Value) (h : Heap) => v = some (.int 1)) (fun o t L => FrameEnd s o t L room_1.cells room_1.slots) m T 395 #[.val (.int x0), .val (.int x1), .val (.int x2), .val (.int x3), .val (.int x4), .val (.int x5), .val (.int (5 : Int32)), .val (.int kk), .val (.int c0), .val (.int c1), .val (.int c2), .val (.int c3), .val (.int c4), .val (.ref o15), .val (.int c0), .val (.int c1), .val (.int c2), .val (.int c3), .unset] [] := by
      intro T X q0 q1 q2 q3 q4 q5 q6
      refine s_iload 397 C X at_395 rfl ?_
      refine s_bipush 399 C X at_397 kc_bipush_76 ?_
      refine s_icmp_ne 433 402 C X at_399 (fun c399 => ?_) (fun c399 => ?_)
      · have t_c399 : ¬ ((c0).toInt = (76 : Int)) := fun q => c399 (Int32.toInt_inj.mp q)
        exact J8 T X (by omega) (by omega) (by omega) (by omega) (by omega) (by omega) (by omega) (by omega)
      have t_c399 : (c0).toInt = (76 : Int) := congrArg Int32.toInt c399
      refine s_iload 404 C X at_402 rfl ?_
      refine s_bipush 406 C X at_404 kc_bipush_111 ?_
      refine s_icmp_ne 433 409 C X at_406 (fun c406 => ?_) (fun c406 => ?_)
      · have t_c406 : ¬ ((c1).toInt = (111 : Int)) := fun q => c406 (Int32.toInt_inj.mp q)
        exact J8 T X (by omega) (by omega) (by omega) (by omega) (by omega) (by omega) (by omega) (by omega)
      have t_c406 : (c1).toInt = (111 : Int) := congrArg Int32.toInt c406
      refine s_iload 411 C X at_409 rfl ?_
      refine s_sipush 414 C X at_411 kc_sipush_167 ?_
      refine s_icmp_ne 433 417 C X at_414 (fun c414 => ?_) (fun c414 => ?_)
      · have t_c414 : ¬ ((c2).toInt = (167 : Int)) := fun q => c414 (Int32.toInt_inj.mp q)
        exact J8 T X (by omega) (by omega) (by omega) (by omega) (by omega) (by omega) (by omega) (by omega)
      have t_c414 : (c2).toInt = (167 : Int) := congrArg Int32.toInt c414
      refine s_iload 419 C X at_417 rfl ?_
      refine s_sipush 422 C X at_419 kc_sipush_148 ?_
      refine s_icmp_ne 433 425 C X at_422 (fun c422 => ?_) (fun c422 => ?_)
      · have t_c422 : ¬ ((c3).toInt = (148 : Int)) := fun q => c422 (Int32.toInt_inj.mp q)
        exact J8 T X (by omega) (by omega) (by omega) (by omega) (by omega) (by omega) (by omega) (by omega)
      have t_c422 : (c3).toInt = (148 : Int) := congrArg Int32.toInt c422
      refine s_getstatic 428 C X (host := "") at_425 (Or.inl (List.mem_of_getElem? (i := 57) rfl)) Via.refl (S_5.ext Od.2) (fun T X => ?_)
      refine s_astore 430 C X (l' := #[.val (.int x0), .val (.int x1), .val (.int x2), .val (.int x3), .val (.int x4), .val (.int x5), .val (.int (5 : Int32)), .val (.int kk), .val (.int c0), .val (.int c1), .val (.int c2), .val (.int c3), .val (.int c4), .val (.ref o15), .val (.int c0), .val (.int c1), .val (.int c2), .val (.int c3), .val (.ref f5)]) at_428 rfl rfl ?_
      refine s_goto 438 C X at_430 ?_
      refine J T _ ?_ X
      have hf : famI (c0.toInt) (c1.toInt) (c2.toInt) (c3.toInt) = 5 := by
        unfold famI
        rw [if_neg (by omega), if_neg (by omega), if_neg (by omega), if_neg (by omega), if_neg (by omega), if_neg (by omega), if_neg (by omega), if_pos (by omega)]
      rw [hf]; rfl
    have J6 : ∀ (T : State), St p l e room_1 s m #[(.int x0), (.int x1), (.int x2), (.int x3), (.int x4), (.int x5)] below meth c n0 T hh 5 133 → ¬ (c0.toInt = 239 ∧ c1.toInt = 187 ∧ c2.toInt = 191) → ¬ (c0.toInt = 254 ∧ c1.toInt = 255) → ¬ (c0.toInt = 0 ∧ c1.toInt = 60 ∧ c2.toInt = 0 ∧ c3.toInt = 63) → ¬ (c0.toInt = 255 ∧ c1.toInt = 254) → ¬ (c0.toInt = 60 ∧ c1.toInt = 0 ∧ c2.toInt = 63 ∧ c3.toInt = 0) → ¬ (c0.toInt = 0 ∧ c1.toInt = 0 ∧ c2.toInt = 0 ∧ c3.toInt = 60) → Run p e below n0 (fun (v : Option Value) (h : Heap) => v = some (.int 1)) (fun o t L => FrameEnd s o t L room_1.cells room_1.slots) m T 365 #[.val (.int x0), .val (.int x1), .val (.int x2), .val (.int x3), .val (.int x4), .val (.int x5), .val (.int (5 : Int32)), .val (.int kk), .val (.int c0), .val (.int c1), .val (.int c2), .val (.int c3), .val (.int c4), .val (.ref o15), .val (.int c0), .val (.int c1), .val (.int c2), .val (.int c3), .unset] [] := by
      intro T X q0 q1 q2 q3 q4 q5
      refine s_iload 367 C X at_365 rfl ?_
      refine s_bipush 369 C X at_367 kc_bipush_60 ?_
      refine s_icmp_ne 395 372 C X at_369 (fun c369 => ?_) (fun c369 => ?_)
      · have t_c369 : ¬ ((c0).toInt = (60 : Int)) := fun q => c369 (Int32.toInt_inj.mp q)
        exact J7 T X (by omega) (by omega) (by omega) (by omega) (by omega) (by omega) (by omega)
      have t_c369 : (c0).toInt = (60 : Int) := congrArg Int32.toInt c369
      refine s_iload 374 C X at_372 rfl ?_
      refine s_if_ne 395 377 C X at_374 (fun c374 => ?_) (fun c374 => ?_)
      · have t_c374 : ¬ ((c1).toInt = (0 : Int)) := fun q => c374 (Int32.toInt_inj.mp q)
        exact J7 T X (by omega) (by omega) (by omega) (by omega) (by omega) (by omega) (by omega)
      have t_c374 : (c1).toInt = (0 : Int) := congrArg Int32.toInt c374
      refine s_iload 379 C X at_377 rfl ?_
      refine s_if_ne 395 382 C X at_379 (fun c379 => ?_) (fun c379 => ?_)
      · have t_c379 : ¬ ((c2).toInt = (0 : Int)) := fun q => c379 (Int32.toInt_inj.mp q)
        exact J7 T X (by omega) (by omega) (by omega) (by omega) (by omega) (by omega) (by omega)
      have t_c379 : (c2).toInt = (0 : Int) := congrArg Int32.toInt c379
      refine s_iload 384 C X at_382 rfl ?_
      refine s_if_ne 395 387 C X at_384 (fun c384 => ?_) (fun c384 => ?_)
      · have t_c384 : ¬ ((c3).toInt = (0 : Int)) := fun q => c384 (Int32.toInt_inj.mp q)
        exact J7 T X (by omega) (by omega) (by omega) (by omega) (by omega) (by omega) (by omega)
      have t_c384 : (c3).toInt = (0 : Int) := congrArg Int32.toInt c384
      refine s_getstatic 390 C X (host := "") at_387 (Or.inl (List.mem_of_getElem? (i := 60) rfl)) Via.refl (S_4.ext Od.2) (fun T X => ?_)
      refine s_astore 392 C X (l' := #[.val (.int x0), .val (.int x1), .val (.int x2), .val (.int x3), .val (.int x4), .val (.int x5), .val (.int (5 : Int32)), .val (.int kk), .val (.int c0), .val (.int c1), .val (.int c2), .val (.int c3), .val (.int c4), .val (.ref o15), .val (.int c0), .val (.int c1), .val (.int c2), .val (.int c3), .val (.ref f4)]) at_390 rfl rfl ?_
      refine s_goto 438 C X at_392 ?_
      refine J T _ ?_ X
      have hf : famI (c0.toInt) (c1.toInt) (c2.toInt) (c3.toInt) = 4 := by
        unfold famI
        rw [if_neg (by omega), if_neg (by omega), if_neg (by omega), if_neg (by omega), if_neg (by omega), if_neg (by omega), if_pos (by omega)]
      rw [hf]; rfl
    have J5 : ∀ (T : State), St p l e room_1 s m #[(.int x0), (.int x1), (.int x2), (.int x3), (.int x4), (.int x5)] below meth c n0 T hh 5 133 → ¬ (c0.toInt = 239 ∧ c1.toInt = 187 ∧ c2.toInt = 191) → ¬ (c0.toInt = 254 ∧ c1.toInt = 255) → ¬ (c0.toInt = 0 ∧ c1.toInt = 60 ∧ c2.toInt = 0 ∧ c3.toInt = 63) → ¬ (c0.toInt = 255 ∧ c1.toInt = 254) → ¬ (c0.toInt = 60 ∧ c1.toInt = 0 ∧ c2.toInt = 63 ∧ c3.toInt = 0) → Run p e below n0 (fun (v : Option Value) (h : Heap) => v = some (.int 1)) (fun o t L => FrameEnd s o t L room_1.cells room_1.slots) m T 335 #[.val (.int x0), .val (.int x1), .val (.int x2), .val (.int x3), .val (.int x4), .val (.int x5), .val (.int (5 : Int32)), .val (.int kk), .val (.int c0), .val (.int c1), .val (.int c2), .val (.int c3), .val (.int c4), .val (.ref o15), .val (.int c0), .val (.int c1), .val (.int c2), .val (.int c3), .unset] [] := by
      intro T X q0 q1 q2 q3 q4
      refine s_iload 337 C X at_335 rfl ?_
      refine s_if_ne 365 340 C X at_337 (fun c337 => ?_) (fun c337 => ?_)
      · have t_c337 : ¬ ((c0).toInt = (0 : Int)) := fun q => c337 (Int32.toInt_inj.mp q)
        exact J6 T X (by omega) (by omega) (by omega) (by omega) (by omega) (by omega)
      have t_c337 : (c0).toInt = (0 : Int) := congrArg Int32.toInt c337
      refine s_iload 342 C X at_340 rfl ?_
      refine s_if_ne 365 345 C X at_342 (fun c342 => ?_) (fun c342 => ?_)
      · have t_c342 : ¬ ((c1).toInt = (0 : Int)) := fun q => c342 (Int32.toInt_inj.mp q)
        exact J6 T X (by omega) (by omega) (by omega) (by omega) (by omega) (by omega)
      have t_c342 : (c1).toInt = (0 : Int) := congrArg Int32.toInt c342
      refine s_iload 347 C X at_345 rfl ?_
      refine s_if_ne 365 350 C X at_347 (fun c347 => ?_) (fun c347 => ?_)
      · have t_c347 : ¬ ((c2).toInt = (0 : Int)) := fun q => c347 (Int32.toInt_inj.mp q)
        exact J6 T X (by omega) (by omega) (by omega) (by omega) (by omega) (by omega)
      have t_c347 : (c2).toInt = (0 : Int) := congrArg Int32.toInt c347
      refine s_iload 352 C X at_350 rfl ?_
      refine s_bipush 354 C X at_352 kc_bipush_60 ?_
      refine s_icmp_ne 365 357 C X at_354 (fun c354 => ?_) (fun c354 => ?_)
      · have t_c354 : ¬ ((c3).toInt = (60 : Int)) := fun q => c354 (Int32.toInt_inj.mp q)
        exact J6 T X (by omega) (by omega) (by omega) (by omega) (by omega) (by omega)
      have t_c354 : (c3).toInt = (60 : Int) := congrArg Int32.toInt c354
      refine s_getstatic 360 C X (host := "") at_357 (Or.inl (List.mem_of_getElem? (i := 59) rfl)) Via.refl (S_3.ext Od.2) (fun T X => ?_)
      refine s_astore 362 C X (l' := #[.val (.int x0), .val (.int x1), .val (.int x2), .val (.int x3), .val (.int x4), .val (.int x5), .val (.int (5 : Int32)), .val (.int kk), .val (.int c0), .val (.int c1), .val (.int c2), .val (.int c3), .val (.int c4), .val (.ref o15), .val (.int c0), .val (.int c1), .val (.int c2), .val (.int c3), .val (.ref f3)]) at_360 rfl rfl ?_
      refine s_goto 438 C X at_362 ?_
      refine J T _ ?_ X
      have hf : famI (c0.toInt) (c1.toInt) (c2.toInt) (c3.toInt) = 3 := by
        unfold famI
        rw [if_neg (by omega), if_neg (by omega), if_neg (by omega), if_neg (by omega), if_neg (by omega), if_pos (by omega)]
      rw [hf]; rfl
    have J4 : ∀ (T : State), St p l e room_1 s m #[(.int x0), (.int x1), (.int x2), (.int x3), (.int x4), (.int x5)] below meth c n0 T hh 5 133 → ¬ (c0.toInt = 239 ∧ c1.toInt = 187 ∧ c2.toInt = 191) → ¬ (c0.toInt = 254 ∧ c1.toInt = 255) → ¬ (c0.toInt = 0 ∧ c1.toInt = 60 ∧ c2.toInt = 0 ∧ c3.toInt = 63) → ¬ (c0.toInt = 255 ∧ c1.toInt = 254) → Run p e below n0 (fun (v : Option Value) (h : Heap) => v = some (.int 1)) (fun o t L => FrameEnd s o t L room_1.cells room_1.slots) m T 303 #[.val (.int x0), .val (.int x1), .val (.int x2), .val (.int x3), .val (.int x4), .val (.int x5), .val (.int (5 : Int32)), .val (.int kk), .val (.int c0), .val (.int c1), .val (.int c2), .val (.int c3), .val (.int c4), .val (.ref o15), .val (.int c0), .val (.int c1), .val (.int c2), .val (.int c3), .unset] [] := by
      intro T X q0 q1 q2 q3
      refine s_iload 305 C X at_303 rfl ?_
      refine s_bipush 307 C X at_305 kc_bipush_60 ?_
      refine s_icmp_ne 335 310 C X at_307 (fun c307 => ?_) (fun c307 => ?_)
      · have t_c307 : ¬ ((c0).toInt = (60 : Int)) := fun q => c307 (Int32.toInt_inj.mp q)
        exact J5 T X (by omega) (by omega) (by omega) (by omega) (by omega)
      have t_c307 : (c0).toInt = (60 : Int) := congrArg Int32.toInt c307
      refine s_iload 312 C X at_310 rfl ?_
      refine s_if_ne 335 315 C X at_312 (fun c312 => ?_) (fun c312 => ?_)
      · have t_c312 : ¬ ((c1).toInt = (0 : Int)) := fun q => c312 (Int32.toInt_inj.mp q)
        exact J5 T X (by omega) (by omega) (by omega) (by omega) (by omega)
      have t_c312 : (c1).toInt = (0 : Int) := congrArg Int32.toInt c312
      refine s_iload 317 C X at_315 rfl ?_
      refine s_bipush 319 C X at_317 kc_bipush_63 ?_
      refine s_icmp_ne 335 322 C X at_319 (fun c319 => ?_) (fun c319 => ?_)
      · have t_c319 : ¬ ((c2).toInt = (63 : Int)) := fun q => c319 (Int32.toInt_inj.mp q)
        exact J5 T X (by omega) (by omega) (by omega) (by omega) (by omega)
      have t_c319 : (c2).toInt = (63 : Int) := congrArg Int32.toInt c319
      refine s_iload 324 C X at_322 rfl ?_
      refine s_if_ne 335 327 C X at_324 (fun c324 => ?_) (fun c324 => ?_)
      · have t_c324 : ¬ ((c3).toInt = (0 : Int)) := fun q => c324 (Int32.toInt_inj.mp q)
        exact J5 T X (by omega) (by omega) (by omega) (by omega) (by omega)
      have t_c324 : (c3).toInt = (0 : Int) := congrArg Int32.toInt c324
      refine s_getstatic 330 C X (host := "") at_327 (Or.inl (List.mem_of_getElem? (i := 55) rfl)) Via.refl (S_2.ext Od.2) (fun T X => ?_)
      refine s_astore 332 C X (l' := #[.val (.int x0), .val (.int x1), .val (.int x2), .val (.int x3), .val (.int x4), .val (.int x5), .val (.int (5 : Int32)), .val (.int kk), .val (.int c0), .val (.int c1), .val (.int c2), .val (.int c3), .val (.int c4), .val (.ref o15), .val (.int c0), .val (.int c1), .val (.int c2), .val (.int c3), .val (.ref f2)]) at_330 rfl rfl ?_
      refine s_goto 438 C X at_332 ?_
      refine J T _ ?_ X
      have hf : famI (c0.toInt) (c1.toInt) (c2.toInt) (c3.toInt) = 2 := by
        unfold famI
        rw [if_neg (by omega), if_neg (by omega), if_neg (by omega), if_neg (by omega), if_pos (by omega)]
      rw [hf]; rfl
    have J3 : ∀ (T : State), St p l e room_1 s m #[(.int x0), (.int x1), (.int x2), (.int x3), (.int x4), (.int x5)] below meth c n0 T hh 5 133 → ¬ (c0.toInt = 239 ∧ c1.toInt = 187 ∧ c2.toInt = 191) → ¬ (c0.toInt = 254 ∧ c1.toInt = 255) → ¬ (c0.toInt = 0 ∧ c1.toInt = 60 ∧ c2.toInt = 0 ∧ c3.toInt = 63) → Run p e below n0 (fun (v : Option Value) (h : Heap) => v = some (.int 1)) (fun o t L => FrameEnd s o t L room_1.cells room_1.slots) m T 279 #[.val (.int x0), .val (.int x1), .val (.int x2), .val (.int x3), .val (.int x4), .val (.int x5), .val (.int (5 : Int32)), .val (.int kk), .val (.int c0), .val (.int c1), .val (.int c2), .val (.int c3), .val (.int c4), .val (.ref o15), .val (.int c0), .val (.int c1), .val (.int c2), .val (.int c3), .unset] [] := by
      intro T X q0 q1 q2
      refine s_iload 281 C X at_279 rfl ?_
      refine s_sipush 284 C X at_281 kc_sipush_255 ?_
      refine s_icmp_ne 303 287 C X at_284 (fun c284 => ?_) (fun c284 => ?_)
      · have t_c284 : ¬ ((c0).toInt = (255 : Int)) := fun q => c284 (Int32.toInt_inj.mp q)
        exact J4 T X (by omega) (by omega) (by omega) (by omega)
      have t_c284 : (c0).toInt = (255 : Int) := congrArg Int32.toInt c284
      refine s_iload 289 C X at_287 rfl ?_
      refine s_sipush 292 C X at_289 kc_sipush_254 ?_
      refine s_icmp_ne 303 295 C X at_292 (fun c292 => ?_) (fun c292 => ?_)
      · have t_c292 : ¬ ((c1).toInt = (254 : Int)) := fun q => c292 (Int32.toInt_inj.mp q)
        exact J4 T X (by omega) (by omega) (by omega) (by omega)
      have t_c292 : (c1).toInt = (254 : Int) := congrArg Int32.toInt c292
      refine s_getstatic 298 C X (host := "") at_295 (Or.inl (List.mem_of_getElem? (i := 55) rfl)) Via.refl (S_2.ext Od.2) (fun T X => ?_)
      refine s_astore 300 C X (l' := #[.val (.int x0), .val (.int x1), .val (.int x2), .val (.int x3), .val (.int x4), .val (.int x5), .val (.int (5 : Int32)), .val (.int kk), .val (.int c0), .val (.int c1), .val (.int c2), .val (.int c3), .val (.int c4), .val (.ref o15), .val (.int c0), .val (.int c1), .val (.int c2), .val (.int c3), .val (.ref f2)]) at_298 rfl rfl ?_
      refine s_goto 438 C X at_300 ?_
      refine J T _ ?_ X
      have hf : famI (c0.toInt) (c1.toInt) (c2.toInt) (c3.toInt) = 2 := by
        unfold famI
        rw [if_neg (by omega), if_neg (by omega), if_neg (by omega), if_pos (by omega)]
      rw [hf]; rfl
    have J2 : ∀ (T : State), St p l e room_1 s m #[(.int x0), (.int x1), (.int x2), (.int x3), (.int x4), (.int x5)] below meth c n0 T hh 5 133 → ¬ (c0.toInt = 239 ∧ c1.toInt = 187 ∧ c2.toInt = 191) → ¬ (c0.toInt = 254 ∧ c1.toInt = 255) → Run p e below n0 (fun (v : Option Value) (h : Heap) => v = some (.int 1)) (fun o t L => FrameEnd s o t L room_1.cells room_1.slots) m T 247 #[.val (.int x0), .val (.int x1), .val (.int x2), .val (.int x3), .val (.int x4), .val (.int x5), .val (.int (5 : Int32)), .val (.int kk), .val (.int c0), .val (.int c1), .val (.int c2), .val (.int c3), .val (.int c4), .val (.ref o15), .val (.int c0), .val (.int c1), .val (.int c2), .val (.int c3), .unset] [] := by
      intro T X q0 q1
      refine s_iload 249 C X at_247 rfl ?_
      refine s_if_ne 279 252 C X at_249 (fun c249 => ?_) (fun c249 => ?_)
      · have t_c249 : ¬ ((c0).toInt = (0 : Int)) := fun q => c249 (Int32.toInt_inj.mp q)
        exact J3 T X (by omega) (by omega) (by omega)
      have t_c249 : (c0).toInt = (0 : Int) := congrArg Int32.toInt c249
      refine s_iload 254 C X at_252 rfl ?_
      refine s_bipush 256 C X at_254 kc_bipush_60 ?_
      refine s_icmp_ne 279 259 C X at_256 (fun c256 => ?_) (fun c256 => ?_)
      · have t_c256 : ¬ ((c1).toInt = (60 : Int)) := fun q => c256 (Int32.toInt_inj.mp q)
        exact J3 T X (by omega) (by omega) (by omega)
      have t_c256 : (c1).toInt = (60 : Int) := congrArg Int32.toInt c256
      refine s_iload 261 C X at_259 rfl ?_
      refine s_if_ne 279 264 C X at_261 (fun c261 => ?_) (fun c261 => ?_)
      · have t_c261 : ¬ ((c2).toInt = (0 : Int)) := fun q => c261 (Int32.toInt_inj.mp q)
        exact J3 T X (by omega) (by omega) (by omega)
      have t_c261 : (c2).toInt = (0 : Int) := congrArg Int32.toInt c261
      refine s_iload 266 C X at_264 rfl ?_
      refine s_bipush 268 C X at_266 kc_bipush_63 ?_
      refine s_icmp_ne 279 271 C X at_268 (fun c268 => ?_) (fun c268 => ?_)
      · have t_c268 : ¬ ((c3).toInt = (63 : Int)) := fun q => c268 (Int32.toInt_inj.mp q)
        exact J3 T X (by omega) (by omega) (by omega)
      have t_c268 : (c3).toInt = (63 : Int) := congrArg Int32.toInt c268
      refine s_getstatic 274 C X (host := "") at_271 (Or.inl (List.mem_of_getElem? (i := 56) rfl)) Via.refl (S_1.ext Od.2) (fun T X => ?_)
      refine s_astore 276 C X (l' := #[.val (.int x0), .val (.int x1), .val (.int x2), .val (.int x3), .val (.int x4), .val (.int x5), .val (.int (5 : Int32)), .val (.int kk), .val (.int c0), .val (.int c1), .val (.int c2), .val (.int c3), .val (.int c4), .val (.ref o15), .val (.int c0), .val (.int c1), .val (.int c2), .val (.int c3), .val (.ref f1)]) at_274 rfl rfl ?_
      refine s_goto 438 C X at_276 ?_
      refine J T _ ?_ X
      have hf : famI (c0.toInt) (c1.toInt) (c2.toInt) (c3.toInt) = 1 := by
        unfold famI
        rw [if_neg (by omega), if_neg (by omega), if_pos (by omega)]
      rw [hf]; rfl
    have J1 : ∀ (T : State), St p l e room_1 s m #[(.int x0), (.int x1), (.int x2), (.int x3), (.int x4), (.int x5)] below meth c n0 T hh 5 133 → ¬ (c0.toInt = 239 ∧ c1.toInt = 187 ∧ c2.toInt = 191) → Run p e below n0 (fun (v : Option Value) (h : Heap) => v = some (.int 1)) (fun o t L => FrameEnd s o t L room_1.cells room_1.slots) m T 223 #[.val (.int x0), .val (.int x1), .val (.int x2), .val (.int x3), .val (.int x4), .val (.int x5), .val (.int (5 : Int32)), .val (.int kk), .val (.int c0), .val (.int c1), .val (.int c2), .val (.int c3), .val (.int c4), .val (.ref o15), .val (.int c0), .val (.int c1), .val (.int c2), .val (.int c3), .unset] [] := by
      intro T X q0
      refine s_iload 225 C X at_223 rfl ?_
      refine s_sipush 228 C X at_225 kc_sipush_254 ?_
      refine s_icmp_ne 247 231 C X at_228 (fun c228 => ?_) (fun c228 => ?_)
      · have t_c228 : ¬ ((c0).toInt = (254 : Int)) := fun q => c228 (Int32.toInt_inj.mp q)
        exact J2 T X (by omega) (by omega)
      have t_c228 : (c0).toInt = (254 : Int) := congrArg Int32.toInt c228
      refine s_iload 233 C X at_231 rfl ?_
      refine s_sipush 236 C X at_233 kc_sipush_255 ?_
      refine s_icmp_ne 247 239 C X at_236 (fun c236 => ?_) (fun c236 => ?_)
      · have t_c236 : ¬ ((c1).toInt = (255 : Int)) := fun q => c236 (Int32.toInt_inj.mp q)
        exact J2 T X (by omega) (by omega)
      have t_c236 : (c1).toInt = (255 : Int) := congrArg Int32.toInt c236
      refine s_getstatic 242 C X (host := "") at_239 (Or.inl (List.mem_of_getElem? (i := 56) rfl)) Via.refl (S_1.ext Od.2) (fun T X => ?_)
      refine s_astore 244 C X (l' := #[.val (.int x0), .val (.int x1), .val (.int x2), .val (.int x3), .val (.int x4), .val (.int x5), .val (.int (5 : Int32)), .val (.int kk), .val (.int c0), .val (.int c1), .val (.int c2), .val (.int c3), .val (.int c4), .val (.ref o15), .val (.int c0), .val (.int c1), .val (.int c2), .val (.int c3), .val (.ref f1)]) at_242 rfl rfl ?_
      refine s_goto 438 C X at_244 ?_
      refine J T _ ?_ X
      have hf : famI (c0.toInt) (c1.toInt) (c2.toInt) (c3.toInt) = 1 := by
        unfold famI
        rw [if_neg (by omega), if_pos (by omega)]
      rw [hf]; rfl
    refine s_iload 193 C X at_191 rfl ?_
    refine s_sipush 196 C X at_193 kc_sipush_239 ?_
    refine s_icmp_ne 223 199 C X at_196 (fun c196 => ?_) (fun c196 => ?_)
    · have t_c196 : ¬ ((c0).toInt = (239 : Int)) := fun q => c196 (Int32.toInt_inj.mp q)
      exact J1 T X (by omega)
    have t_c196 : (c0).toInt = (239 : Int) := congrArg Int32.toInt c196
    refine s_iload 201 C X at_199 rfl ?_
    refine s_sipush 204 C X at_201 kc_sipush_187 ?_
    refine s_icmp_ne 223 207 C X at_204 (fun c204 => ?_) (fun c204 => ?_)
    · have t_c204 : ¬ ((c1).toInt = (187 : Int)) := fun q => c204 (Int32.toInt_inj.mp q)
      exact J1 T X (by omega)
    have t_c204 : (c1).toInt = (187 : Int) := congrArg Int32.toInt c204
    refine s_iload 209 C X at_207 rfl ?_
    refine s_sipush 212 C X at_209 kc_sipush_191 ?_
    refine s_icmp_ne 223 215 C X at_212 (fun c212 => ?_) (fun c212 => ?_)
    · have t_c212 : ¬ ((c2).toInt = (191 : Int)) := fun q => c212 (Int32.toInt_inj.mp q)
      exact J1 T X (by omega)
    have t_c212 : (c2).toInt = (191 : Int) := congrArg Int32.toInt c212
    refine s_getstatic 218 C X (host := "") at_215 (Or.inl (List.mem_of_getElem? (i := 9) rfl)) Via.refl (S_0.ext Od.2) (fun T X => ?_)
    refine s_astore 220 C X (l' := #[.val (.int x0), .val (.int x1), .val (.int x2), .val (.int x3), .val (.int x4), .val (.int x5), .val (.int (5 : Int32)), .val (.int kk), .val (.int c0), .val (.int c1), .val (.int c2), .val (.int c3), .val (.int c4), .val (.ref o15), .val (.int c0), .val (.int c1), .val (.int c2), .val (.int c3), .val (.ref f0)]) at_218 rfl rfl ?_
    refine s_goto 438 C X at_220 ?_
    refine J T _ ?_ X
    have hf : famI (c0.toInt) (c1.toInt) (c2.toInt) (c3.toInt) = 0 := by
      unfold famI
      rw [if_pos (by omega)]
    rw [hf]; rfl
set_option maxRecDepth 65536 in
set_option maxHeartbeats 40000000 in
theorem comes_1 {Post : Tables → Env → Array Value → State → Outcome → State → Prop} (hpost : ∀ tb e args s v u, (limb_1_1.after args s (.returned v) u = true ∧ limb_1_2.after args s (.returned v) u = true ∧ True) → FrameEnd s (.returned v) u (Jvm.fieldLocs frame_1_writes args s ++ Jvm.arrayLocs frame_1_arrays args s ++ Jvm.staticLocs frame_1_statics s) 24 384 → Post tb e args s (.returned v) u) :
    ArmFor flags0 classFile x code maxLocals ret World_1 tables_1 room_1 Calls_1 rest_1 Pre_1 Post := by
  intro l hfl _ _ p e ha hc hk s m args below hf hA hF happ hP
  obtain ⟨hcalls, hrest, hpre⟩ := hP
  obtain ⟨-, -, -, hnamed, -, -, -, hat⟩ := (Spec.applies_iff hf).mp happ
  obtain ⟨hg, hn⟩ := and_e (Cond.before_iff.mp (show (Jvm.Cond.and given_1 narrow_1).before args s = true from hpre))
  obtain ⟨g0, g1⟩ := and_e hg
  obtain ⟨ga0, gr0⟩ := and_e g1
  obtain ⟨ga1, gr1⟩ := and_e gr0
  obtain ⟨ga2, gr2⟩ := and_e gr1
  obtain ⟨ga3, gr3⟩ := and_e gr2
  obtain ⟨ga4, gr4⟩ := and_e gr3
  obtain ⟨w0, w1, w2, w3, w4, w5, rfl⟩ : ∃ w0 w1 w2 w3 w4 w5 : Value, args = #[w0, w1, w2, w3, w4, w5] := by
    have hs : args.size = 6 := by simpa [Cond.value, given_1] using g0
    obtain ⟨L⟩ := args
    match L, hs with
    | [w0, w1, w2, w3, w4, w5], _ => exact ⟨w0, w1, w2, w3, w4, w5, rfl⟩
  have hw := fun d (hd : d ∈ tables_1) => atoms_spec (ws := Jvm.Cond.code x code maxLocals ret :: tables_1) hat d (List.mem_cons_of_mem _ hd)
  have hfit : Fit s := fun {y c} hc i hi => by
    obtain ⟨ha, rfl⟩ := Array.getElem?_eq_some_iff.mp hc
    have q := List.all_eq_true.mp ((Array.all_eq_true_iff_forall_mem.mp hF) _ (Array.getElem_mem ha)) i (List.mem_range.mpr hi)
    simpa [Array.getElem?_eq_getElem hi] using q
  obtain ⟨i0, e0⟩ := is_v ga0
  obtain rfl : w0 = (.int i0) := Option.some.inj e0
  obtain ⟨i1, e1⟩ := is_v ga1
  obtain rfl : w1 = (.int i1) := Option.some.inj e1
  obtain ⟨i2, e2⟩ := is_v ga2
  obtain rfl : w2 = (.int i2) := Option.some.inj e2
  obtain ⟨i3, e3⟩ := is_v ga3
  obtain rfl : w3 = (.int i3) := Option.some.inj e3
  obtain ⟨i4, e4⟩ := is_v ga4
  obtain rfl : w4 = (.int i4) := Option.some.inj e4
  obtain ⟨i5, e5⟩ := is_v gr4
  obtain rfl : w5 = (.int i5) := Option.some.inj e5
  obtain ⟨n1, hn⟩ := and_e hn
  obtain ⟨n2, hn⟩ := and_e hn
  obtain ⟨n3, hn⟩ := and_e hn
  obtain ⟨n4, hn⟩ := and_e hn
  obtain ⟨n5, hn⟩ := and_e hn
  obtain ⟨n6, hn⟩ := and_e hn
  obtain ⟨n7, hn⟩ := and_e hn
  obtain ⟨n8, hn⟩ := and_e hn
  obtain ⟨n9, hn⟩ := and_e hn
  obtain ⟨n10, hn⟩ := and_e hn
  obtain ⟨n11, hn⟩ := and_e hn
  obtain ⟨n12, hn⟩ := and_e hn
  obtain ⟨n13, hn⟩ := and_e hn
  obtain ⟨n14, hn⟩ := and_e hn
  obtain ⟨n15, hn⟩ := and_e hn
  obtain ⟨n16, hn⟩ := and_e hn
  obtain ⟨n17, hn⟩ := and_e hn
  obtain ⟨n18, hn⟩ := and_e hn
  obtain ⟨n19, hn⟩ := and_e hn
  obtain ⟨n20, hn⟩ := and_e hn
  obtain ⟨n21, hn⟩ := and_e hn
  obtain ⟨n22, hn⟩ := and_e hn
  obtain ⟨n23, hn⟩ := and_e hn
  obtain ⟨n24, hn⟩ := and_e hn
  obtain ⟨n25, hn⟩ := and_e hn
  obtain ⟨n26, hn⟩ := and_e hn
  obtain ⟨n27, hn⟩ := and_e hn
  obtain ⟨n28, hn⟩ := and_e hn
  obtain ⟨n29, hn⟩ := and_e hn
  obtain ⟨n30, hn⟩ := and_e hn
  obtain ⟨n31, hn⟩ := and_e hn
  obtain ⟨n32, hn⟩ := and_e hn
  obtain ⟨n33, hn⟩ := and_e hn
  obtain ⟨n34, hn⟩ := and_e hn
  obtain ⟨n35, hn⟩ := and_e hn
  obtain ⟨n36, hn⟩ := and_e hn
  obtain ⟨n37, hn⟩ := and_e hn
  obtain ⟨n38, hn⟩ := and_e hn
  obtain ⟨n39, hn⟩ := and_e hn
  obtain ⟨n40, hn⟩ := and_e hn
  obtain ⟨n41, hn⟩ := and_e hn
  obtain ⟨n42, hn⟩ := and_e hn
  obtain ⟨n43, hn⟩ := and_e hn
  obtain ⟨n44, hn⟩ := and_e hn
  obtain ⟨n45, hn⟩ := and_e hn
  obtain ⟨n46, hn⟩ := and_e hn
  obtain ⟨n47, hn⟩ := and_e hn
  obtain ⟨n48, hn⟩ := and_e hn
  obtain ⟨n49, hn⟩ := and_e hn
  obtain ⟨n50, hn⟩ := and_e hn
  obtain ⟨n51, hn⟩ := and_e hn
  obtain ⟨n52, hn⟩ := and_e hn
  obtain ⟨n53, hn⟩ := and_e hn
  obtain ⟨n54, hn⟩ := and_e hn
  obtain ⟨n55, hn⟩ := and_e hn
  obtain ⟨n56, hn⟩ := and_e hn
  obtain ⟨n57, hn⟩ := and_e hn
  obtain ⟨n58, hn⟩ := and_e hn
  obtain ⟨n59, hn⟩ := and_e hn
  obtain ⟨n60, hn⟩ := and_e hn
  obtain ⟨n61, hn⟩ := and_e hn
  obtain ⟨n62, hn⟩ := and_e hn
  obtain ⟨n63, hn⟩ := and_e hn
  obtain ⟨n64, hn⟩ := and_e hn
  obtain ⟨n65, n66⟩ := and_e hn
  obtain ⟨av, eav⟩ := arr_v n2
  have S_V := Sta.start eav (Or.inr ⟨(hw _ (List.mem_of_getElem? (i := 10) rfl)), (hw _ (List.mem_of_getElem? (i := 20) rfl))⟩)
  obtain ⟨f0, e100⟩ := exa_v n1
  have S_0 := Sta.start e100 (Or.inr ⟨(hw _ (List.mem_of_getElem? (i := 10) rfl)), (hw _ (List.mem_of_getElem? (i := 11) rfl))⟩)
  obtain ⟨b0, eb0⟩ := arr_v n15
  have B0 := Fld.start ((fld_at e100).symm.trans eb0)
  obtain ⟨k_b0, vb0, Ab0, Nb0⟩ := own_bytes hfit eb0 n15 n16 (by decide)
  have Hb0 : ∀ i : Nat, (i : Int) < (3 : Int32).toInt → vb0.getD i (.int 0) = .int (nth4 (-17) (-69) (-65) (0) i) := by
    intro i hi
    have kz : (3 : Int32).toInt = 3 := by decide
    rcases i with _ | _ | _ | i
    · exact Nb0 0 _ n17
    · exact Nb0 1 _ n18
    · exact Nb0 2 _ n19
    · exfalso; omega
  obtain ⟨g0, eg0⟩ := arr_v n20
  have G0 := Fld.start ((fld_at e100).symm.trans eg0)
  obtain ⟨k_g0, vg0, Ag0, Ng0⟩ := own_bytes hfit eg0 n20 n21 (by decide)
  have Hg0 : ∀ i : Nat, (i : Int) < (0 : Int32).toInt → vg0.getD i (.int 0) = .int (nth4 (0) (0) (0) (0) i) := by
    intro i hi
    have kz : (0 : Int32).toInt = 0 := by decide
    rcases i with i
    · exfalso; omega
  obtain ⟨f1, e101⟩ := exa_v n6
  have S_1 := Sta.start e101 (Or.inr ⟨(hw _ (List.mem_of_getElem? (i := 10) rfl)), (hw _ (List.mem_of_getElem? (i := 28) rfl))⟩)
  obtain ⟨b1, eb1⟩ := arr_v n22
  have B1 := Fld.start ((fld_at e101).symm.trans eb1)
  obtain ⟨k_b1, vb1, Ab1, Nb1⟩ := own_bytes hfit eb1 n22 n23 (by decide)
  have Hb1 : ∀ i : Nat, (i : Int) < (2 : Int32).toInt → vb1.getD i (.int 0) = .int (nth4 (-2) (-1) (0) (0) i) := by
    intro i hi
    have kz : (2 : Int32).toInt = 2 := by decide
    rcases i with _ | _ | i
    · exact Nb1 0 _ n24
    · exact Nb1 1 _ n50
    · exfalso; omega
  obtain ⟨g1, eg1⟩ := arr_v n25
  have G1 := Fld.start ((fld_at e101).symm.trans eg1)
  obtain ⟨k_g1, vg1, Ag1, Ng1⟩ := own_bytes hfit eg1 n25 n26 (by decide)
  have Hg1 : ∀ i : Nat, (i : Int) < (4 : Int32).toInt → vg1.getD i (.int 0) = .int (nth4 (0) (60) (0) (63) i) := by
    intro i hi
    have kz : (4 : Int32).toInt = 4 := by decide
    rcases i with _ | _ | _ | _ | i
    · exact Ng1 0 _ n44
    · exact Ng1 1 _ n55
    · exact Ng1 2 _ n64
    · exact Ng1 3 _ n65
    · exfalso; omega
  obtain ⟨f2, e102⟩ := exa_v n8
  have S_2 := Sta.start e102 (Or.inr ⟨(hw _ (List.mem_of_getElem? (i := 10) rfl)), (hw _ (List.mem_of_getElem? (i := 29) rfl))⟩)
  obtain ⟨b2, eb2⟩ := arr_v n27
  have B2 := Fld.start ((fld_at e102).symm.trans eb2)
  obtain ⟨k_b2, vb2, Ab2, Nb2⟩ := own_bytes hfit eb2 n27 n28 (by decide)
  have Hb2 : ∀ i : Nat, (i : Int) < (2 : Int32).toInt → vb2.getD i (.int 0) = .int (nth4 (-1) (-2) (0) (0) i) := by
    intro i hi
    have kz : (2 : Int32).toInt = 2 := by decide
    rcases i with _ | _ | i
    · exact Nb2 0 _ n29
    · exact Nb2 1 _ n49
    · exfalso; omega
  obtain ⟨g2, eg2⟩ := arr_v n30
  have G2 := Fld.start ((fld_at e102).symm.trans eg2)
  obtain ⟨k_g2, vg2, Ag2, Ng2⟩ := own_bytes hfit eg2 n30 n31 (by decide)
  have Hg2 : ∀ i : Nat, (i : Int) < (4 : Int32).toInt → vg2.getD i (.int 0) = .int (nth4 (60) (0) (63) (0) i) := by
    intro i hi
    have kz : (4 : Int32).toInt = 4 := by decide
    rcases i with _ | _ | _ | _ | i
    · exact Ng2 0 _ n45
    · exact Ng2 1 _ n59
    · exact Ng2 2 _ n60
    · exact Ng2 3 _ n61
    · exfalso; omega
  obtain ⟨f3, e103⟩ := exa_v n10
  have S_3 := Sta.start e103 (Or.inr ⟨(hw _ (List.mem_of_getElem? (i := 10) rfl)), (hw _ (List.mem_of_getElem? (i := 30) rfl))⟩)
  obtain ⟨b3, eb3⟩ := arr_v n32
  have B3 := Fld.start ((fld_at e103).symm.trans eb3)
  obtain ⟨k_b3, vb3, Ab3, Nb3⟩ := own_bytes hfit eb3 n32 n33 (by decide)
  have Hb3 : ∀ i : Nat, (i : Int) < (0 : Int32).toInt → vb3.getD i (.int 0) = .int (nth4 (0) (0) (0) (0) i) := by
    intro i hi
    have kz : (0 : Int32).toInt = 0 := by decide
    rcases i with i
    · exfalso; omega
  obtain ⟨g3, eg3⟩ := arr_v n34
  have G3 := Fld.start ((fld_at e103).symm.trans eg3)
  obtain ⟨k_g3, vg3, Ag3, Ng3⟩ := own_bytes hfit eg3 n34 n35 (by decide)
  have Hg3 : ∀ i : Nat, (i : Int) < (4 : Int32).toInt → vg3.getD i (.int 0) = .int (nth4 (0) (0) (0) (60) i) := by
    intro i hi
    have kz : (4 : Int32).toInt = 4 := by decide
    rcases i with _ | _ | _ | _ | i
    · exact Ng3 0 _ n46
    · exact Ng3 1 _ n56
    · exact Ng3 2 _ n57
    · exact Ng3 3 _ n58
    · exfalso; omega
  obtain ⟨f4, e104⟩ := exa_v n12
  have S_4 := Sta.start e104 (Or.inr ⟨(hw _ (List.mem_of_getElem? (i := 10) rfl)), (hw _ (List.mem_of_getElem? (i := 31) rfl))⟩)
  obtain ⟨b4, eb4⟩ := arr_v n36
  have B4 := Fld.start ((fld_at e104).symm.trans eb4)
  obtain ⟨k_b4, vb4, Ab4, Nb4⟩ := own_bytes hfit eb4 n36 n37 (by decide)
  have Hb4 : ∀ i : Nat, (i : Int) < (0 : Int32).toInt → vb4.getD i (.int 0) = .int (nth4 (0) (0) (0) (0) i) := by
    intro i hi
    have kz : (0 : Int32).toInt = 0 := by decide
    rcases i with i
    · exfalso; omega
  obtain ⟨g4, eg4⟩ := arr_v n38
  have G4 := Fld.start ((fld_at e104).symm.trans eg4)
  obtain ⟨k_g4, vg4, Ag4, Ng4⟩ := own_bytes hfit eg4 n38 n39 (by decide)
  have Hg4 : ∀ i : Nat, (i : Int) < (4 : Int32).toInt → vg4.getD i (.int 0) = .int (nth4 (60) (0) (0) (0) i) := by
    intro i hi
    have kz : (4 : Int32).toInt = 4 := by decide
    rcases i with _ | _ | _ | _ | i
    · exact Ng4 0 _ n47
    · exact Ng4 1 _ n62
    · exact Ng4 2 _ n63
    · exact Ng4 3 _ n66
    · exfalso; omega
  obtain ⟨f5, e105⟩ := exa_v n14
  have e5s := own_eqR n51 e105
  have S_5 := Sta.start e5s (Or.inr ⟨(hw _ (List.mem_of_getElem? (i := 10) rfl)), (hw _ (List.mem_of_getElem? (i := 58) rfl))⟩)
  obtain ⟨b5, eb5⟩ := arr_v n40
  have B5 := Fld.start ((fld_at e105).symm.trans eb5)
  obtain ⟨k_b5, vb5, Ab5, Nb5⟩ := own_bytes hfit eb5 n40 n41 (by decide)
  have Hb5 : ∀ i : Nat, (i : Int) < (0 : Int32).toInt → vb5.getD i (.int 0) = .int (nth4 (0) (0) (0) (0) i) := by
    intro i hi
    have kz : (0 : Int32).toInt = 0 := by decide
    rcases i with i
    · exfalso; omega
  obtain ⟨g5, eg5⟩ := arr_v n42
  have G5 := Fld.start ((fld_at e105).symm.trans eg5)
  obtain ⟨k_g5, vg5, Ag5, Ng5⟩ := own_bytes hfit eg5 n42 n43 (by decide)
  have Hg5 : ∀ i : Nat, (i : Int) < (4 : Int32).toInt → vg5.getD i (.int 0) = .int (nth4 (76) (111) (-89) (-108) i) := by
    intro i hi
    have kz : (4 : Int32).toInt = 4 := by decide
    rcases i with _ | _ | _ | _ | i
    · exact Ng5 0 _ n48
    · exact Ng5 1 _ n52
    · exact Ng5 2 _ n53
    · exact Ng5 3 _ n54
    · exfalso; omega
  have AV := own_refs6 hfit eav n2 n4 (own_eqR n5 e100) (own_eqR n7 e101) (own_eqR n9 e102) (own_eqR n11 e103) (own_eqR n13 e104) e105
  obtain ⟨k_av, AV⟩ := AV
  have EV := Exa.start eav n3
  obtain ⟨n, o, h1, h2, h3, _, L, rfl, ⟨rfl, N⟩, hq⟩ := rm0 l s _ hw i0 i1 i2 i3 i4 i5 av k_av f0 f1 f2 f3 f4 f5 b0 g0 k_b0 k_g0 vb0 vg0 b1 g1 k_b1 k_g1 vb1 vg1 b2 g2 k_b2 k_g2 vb2 vg2 b3 g3 k_b3 k_g3 vb3 vg3 b4 g4 k_b4 k_g4 vb4 vg4 b5 g5 k_b5 k_g5 vb5 vg5 s.heap s.heap.size (Nat.le_refl _) (Old.start s) S_V AV EV S_0 S_1 S_2 S_3 S_4 S_5 B0 G0 Ab0 Hb0 Ag0 Hg0 B1 G1 Ab1 Hb1 Ag1 Hg1 B2 G2 Ab2 Hb2 Ag2 Hg2 B3 G3 Ab3 Hb3 Ag3 Hg3 B4 G4 Ab4 Hb4 Ag4 Hg4 B5 G5 Ab5 Hb5 Ag5 Hg5 p e ha hc hk s m _ below hf ((Spec.applies_iff_loose hf).mp happ).1 ⟨rfl, State.Warmed39.refl s, rfl⟩ trivial
  exact ⟨n, _, h1, h2, h3, hpost _ _ _ _ _ _ ⟨Cond.after_iff.mpr rfl, Cond.after_iff.mpr (eq_i res_at (Term.int_eval (1)) rfl), trivial⟩ ⟨hq.1, hq.2.1, (hq.2.2.sift fun y hy => Or.inr (N y hy)).mono (by decide) (by decide)⟩⟩
theorem main_1_1 : Claimed_1_1 := comes_1 fun _ _ _ _ _ _ h hF => ⟨h.1, hF⟩
theorem main_1_2 : Claimed_1_2 := comes_1 fun _ _ _ _ _ _ h hF => ⟨h.2.1, hF⟩
end Jvm.Pilot.@@N@@
namespace Jvm.Pilot.@@N@@
open Jvm Jvm.ClassFile Sem Op Lib Jvm.Free Jvm.Stand Jvm.Pilot.@@N@@.Jvm.D
/-! MADE BY PROGRAM (witnessworld.py) out of the Statement's table words and the real class files: 16 classes; the members and pool entries that the words name. The judged class is class 1, her method 3. -/
namespace start1
open Jvm.ClassFile
def u (s : String) : CpInfo := .utf8 (stringToUtf16 s)
/-- a pool by its gaps: so many unusable entries, then the entry; so many at the end -/
def gap : Nat → List CpInfo → List CpInfo
  | 0, r => r
  | n + 1, r => .unusable :: gap n r
def poolList (es : List (Nat × CpInfo)) (last : Nat) : List CpInfo := es.foldr (fun e r => gap e.1 (e.2 :: r)) (gap last [])
def pool (es : List (Nat × CpInfo)) (last : Nat) : Array CpInfo := ⟨poolList es last⟩
def fileOf (pool : Array CpInfo) (this : Nat) (attrs : Array Attribute := #[]) (ms : Array MethodInfo := #[]) (fl : Nat := 33) (sup : Nat := 0) (ifs : Array Nat := #[]) (fds : Array FieldInfo := #[]) : ClassFile where
  minorVersion := 0
  majorVersion := 65
  constantPool := pool
  accessFlags := fl
  thisClass := this
  superClass := sup
  interfaces := ifs
  fields := fds
  methods := ms
  attributes := attrs
def plain (name : String) (sup : Option ClassId) : Class where
  name := name
  kind := .ordinary
  loader := none
  accessFlags := 33
  super := sup
  interfaces := #[]
  cf := none
  fields := #[]
  methods := #[]
  instanceTypes := #[]
  staticTypes := #[]
  resolved := #[]
  callSites := []
  init := .initialized
  statics := none
  mirror := none

def pool0 : Array CpInfo := pool [(5, u "<init>"), (0, u "()V"), (1, .class_ 10), (1, u "java/lang/Object"), (85, u "clone"), (0, u "()Ljava/lang/Object;")] 26

def k0m0 : Method := { name := "<init>", desc := "()V", sig := { parameters := [], returnType := none }, accessFlags := 1, code := none }
def k0m1 : Method := { name := "clone", desc := "()Ljava/lang/Object;", sig := { parameters := [], returnType := some (.object "java/lang/Object") }, accessFlags := 260, code := none }
/-- java/lang/Object -/
def k0 : Class := { plain "java/lang/Object" none with
  accessFlags := 33
  interfaces := #[]
  cf := some (fileOf pool0 8 #[] #[{ accessFlags := 1, nameIndex := 5, descriptorIndex := 6, attributes := #[] }, { accessFlags := 260, nameIndex := 96, descriptorIndex := 97, attributes := #[] }] 33 0 #[] #[])
  fields := #[]
  methods := #[k0m0, k0m1]
  instanceTypes := #[]
  staticTypes := #[]
  resolved := Array.replicate 124 none
  statics := none }

def pool1 : Array CpInfo := pool [(2, .class_ 4), (1, u "java/lang/Object"), (0, u "<init>"), (0, u "()V"), (0, .methodref 8 9), (0, .class_ 10), (0, .nameAndType 11 12), (0, u "com/example/shapelint/shapelint/io/XmlEncodingFamilyOfPinLaw"), (0, u "tpl"), (0, u "(II)I"), (0, .methodref 8 14), (0, .nameAndType 15 16), (0, u "pick"), (0, u "(IIII)I"), (0, .fieldref 18 19), (0, .class_ 20), (0, .nameAndType 21 22), (0, u "com/example/shapelint/shapelint/io/XmlEncodingFamily"), (0, u "ASCII_COMPATIBLE"), (0, u "Lcom/example/shapelint/shapelint/io/XmlEncodingFamily;"), (0, .fieldref 18 24), (0, .nameAndType 25 22), (0, u "UTF_16_BIG_ENDIAN"), (0, .fieldref 18 27), (0, .nameAndType 28 22), (0, u "UTF_16_LITTLE_ENDIAN"), (0, .fieldref 18 30), (0, .nameAndType 31 22), (0, u "UTF_32_BIG_ENDIAN"), (0, .fieldref 18 33), (0, .nameAndType 34 22), (0, u "UTF_32_LITTLE_ENDIAN"), (0, .fieldref 18 36), (0, .nameAndType 37 22), (0, u "EBCDIC"), (0, .methodref 18 39), (0, .nameAndType 40 41), (0, u "of"), (0, u "([B)Lcom/example/shapelint/shapelint/io/XmlEncodingFamily;"), (3, u "law"), (0, u "(IIIIII)Z")] 4

def k1m0 : Method := { name := "<init>", desc := "()V", sig := { parameters := [], returnType := none }, accessFlags := 1, code := none }
def k1c1 : Code := { maxStack := 4, maxLocals := 3, code := method_2_code, exceptionTable := #[], attributes := #[] }
def k1m1 : Method := { name := "tpl", desc := "(II)I", sig := { parameters := [.int, .int], returnType := some .int }, accessFlags := 10, code := some k1c1 }
def k1c2 : Code := { maxStack := 3, maxLocals := 4, code := method_3_code, exceptionTable := #[], attributes := #[] }
def k1m2 : Method := { name := "pick", desc := "(IIII)I", sig := { parameters := [.int, .int, .int, .int], returnType := some .int }, accessFlags := 10, code := some k1c2 }
def k1c3 : Code := { maxStack := 4, maxLocals := 19, code := code, exceptionTable := #[], attributes := #[] }
def k1m3 : Method := { name := "law", desc := "(IIIIII)Z", sig := { parameters := [.int, .int, .int, .int, .int, .int], returnType := some .boolean }, accessFlags := 9, code := some k1c3 }
/-- com/example/shapelint/shapelint/io/XmlEncodingFamilyOfPinLaw -/
def k1 : Class := { plain "com/example/shapelint/shapelint/io/XmlEncodingFamilyOfPinLaw" (some 0) with
  accessFlags := 49
  interfaces := #[]
  cf := some (fileOf pool1 8 #[] #[{ accessFlags := 1, nameIndex := 5, descriptorIndex := 6, attributes := #[] }, { accessFlags := 10, nameIndex := 11, descriptorIndex := 12, attributes := #[] }, { accessFlags := 10, nameIndex := 15, descriptorIndex := 16, attributes := #[] }, { accessFlags := 9, nameIndex := 45, descriptorIndex := 46, attributes := #[] }] 49 2 #[] #[])
  fields := #[]
  methods := #[k1m0, k1m1, k1m2, k1m3]
  instanceTypes := #[]
  staticTypes := #[]
  resolved := Array.replicate 51 none
  statics := none }

def pool2 : Array CpInfo := pool [(1, .class_ 2), (0, u "java/lang/constant/Constable"), (0, .class_ 4), (0, u "java/lang/Object")] 6

/-- java/lang/constant/Constable -/
def k2 : Class := { plain "java/lang/constant/Constable" (some 0) with
  accessFlags := 1537
  interfaces := #[]
  cf := some (fileOf pool2 1 #[] #[] 1537 3 #[] #[])
  fields := #[]
  methods := #[]
  instanceTypes := #[]
  staticTypes := #[]
  resolved := Array.replicate 11 none
  statics := none }

def pool3 : Array CpInfo := pool [(1, .class_ 2), (0, u "java/lang/Comparable"), (0, .class_ 4), (0, u "java/lang/Object")] 7

/-- java/lang/Comparable -/
def k3 : Class := { plain "java/lang/Comparable" (some 0) with
  accessFlags := 1537
  interfaces := #[]
  cf := some (fileOf pool3 1 #[] #[] 1537 3 #[] #[])
  fields := #[]
  methods := #[]
  instanceTypes := #[]
  staticTypes := #[]
  resolved := Array.replicate 12 none
  statics := none }

def pool4 : Array CpInfo := pool [(1, .class_ 2), (0, u "java/io/Serializable"), (0, .class_ 4), (0, u "java/lang/Object")] 2

/-- java/io/Serializable -/
def k4 : Class := { plain "java/io/Serializable" (some 0) with
  accessFlags := 1537
  interfaces := #[]
  cf := some (fileOf pool4 1 #[] #[] 1537 3 #[] #[])
  fields := #[]
  methods := #[]
  instanceTypes := #[]
  staticTypes := #[]
  resolved := Array.replicate 7 none
  statics := none }

def pool5 : Array CpInfo := pool [(2, .class_ 4), (1, u "java/lang/Enum"), (0, u "name"), (0, u "Ljava/lang/String;"), (2, u "ordinal"), (0, u "I"), (1, .class_ 14), (1, u "java/lang/Object"), (4, u "hash"), (86, .class_ 108), (1, u "java/lang/Enum$EnumDesc"), (2, .class_ 112), (0, u "java/lang/constant/Constable"), (0, .class_ 114), (0, u "java/lang/Comparable"), (0, .class_ 116), (0, u "java/io/Serializable")] 87

/-- java/lang/Enum -/
def k5 : Class := { plain "java/lang/Enum" (some 0) with
  accessFlags := 1057
  interfaces := #[2, 3, 4]
  cf := some (fileOf pool5 2 #[.nestMembers #[106]] #[] 1057 12 #[111, 113, 115] #[{ accessFlags := 18, nameIndex := 5, descriptorIndex := 6, attributes := #[] }, { accessFlags := 18, nameIndex := 9, descriptorIndex := 10, attributes := #[] }, { accessFlags := 2, nameIndex := 19, descriptorIndex := 10, attributes := #[] }])
  fields := #[{ name := "name", type := (.object "java/lang/String"), accessFlags := 18, slot := 0, constantValue := 0 }, { name := "ordinal", type := .int, accessFlags := 18, slot := 1, constantValue := 0 }, { name := "hash", type := .int, accessFlags := 2, slot := 2, constantValue := 0 }]
  methods := #[]
  instanceTypes := #[(.object "java/lang/String"), .int, .int]
  staticTypes := #[]
  resolved := Array.replicate 204 none
  statics := none }

def pool6 : Array CpInfo := pool [(1, .class_ 2), (0, u "com/example/shapelint/shapelint/io/XmlEncodingFamily"), (0, .fieldref 1 4), (0, .nameAndType 5 6), (0, u "ASCII_COMPATIBLE"), (0, u "Lcom/example/shapelint/shapelint/io/XmlEncodingFamily;"), (2, u "UTF_16_BIG_ENDIAN"), (2, u "UTF_16_LITTLE_ENDIAN"), (2, u "UTF_32_BIG_ENDIAN"), (2, u "UTF_32_LITTLE_ENDIAN"), (2, u "EBCDIC"), (0, .fieldref 1 23), (0, .nameAndType 24 25), (0, u "$VALUES"), (0, u "[Lcom/example/shapelint/shapelint/io/XmlEncodingFamily;"), (0, .methodref 27 28), (0, .class_ 25), (0, .nameAndType 29 30), (0, u "clone"), (0, u "()Ljava/lang/Object;"), (1, .class_ 34), (1, u "java/lang/Enum"), (8, u "_unitLength"), (0, u "I"), (2, u "_littleEndian"), (0, u "Z"), (0, .fieldref 1 50), (0, .nameAndType 51 52), (0, u "_byteOrderMark"), (0, u "[B"), (0, .fieldref 1 54), (0, .nameAndType 55 52), (0, u "_signature"), (0, .methodref 1 57), (0, .nameAndType 58 59), (0, u "values"), (0, u "()[Lcom/example/shapelint/shapelint/io/XmlEncodingFamily;"), (0, .methodref 1 61), (0, .nameAndType 62 63), (0, u "startsWith"), (0, u "([B[B)Z"), (0, .methodref 65 66), (0, .class_ 67), (0, .nameAndType 68 69), (0, u "java/util/Arrays"), (0, u "equals"), (0, u "([BII[BII)Z"), (12, .class_ 83), (0, u "com/example/shapelint/shapelint/io/XmlEncodingFamily$1"), (5, u "SIGNATURE_LENGTH"), (8, u "of"), (0, u "([B)Lcom/example/shapelint/shapelint/io/XmlEncodingFamily;"), (16, .class_ 117), (0, u "com/example/shapelint/shapelint/io/XmlEncodingFamily$CodePage037")] 3

def k6c0 : Code := { maxStack := 1, maxLocals := 0, code := prog_14_method_1_code, exceptionTable := #[], attributes := #[] }
def k6m0 : Method := { name := "values", desc := "()[Lcom/example/shapelint/shapelint/io/XmlEncodingFamily;", sig := { parameters := [], returnType := some (.array (.object "com/example/shapelint/shapelint/io/XmlEncodingFamily")) }, accessFlags := 9, code := some k6c0 }
def k6c1 : Code := { maxStack := 2, maxLocals := 6, code := prog_14_method_4_code, exceptionTable := #[], attributes := #[] }
def k6m1 : Method := { name := "of", desc := "([B)Lcom/example/shapelint/shapelint/io/XmlEncodingFamily;", sig := { parameters := [(.array .byte)], returnType := some (.object "com/example/shapelint/shapelint/io/XmlEncodingFamily") }, accessFlags := 8, code := some k6c1 }
def k6c2 : Code := { maxStack := 6, maxLocals := 2, code := prog_14_method_9_code, exceptionTable := #[], attributes := #[] }
def k6m2 : Method := { name := "startsWith", desc := "([B[B)Z", sig := { parameters := [(.array .byte), (.array .byte)], returnType := some .boolean }, accessFlags := 10, code := some k6c2 }
/-- com/example/shapelint/shapelint/io/XmlEncodingFamily -/
def k6 : Class := { plain "com/example/shapelint/shapelint/io/XmlEncodingFamily" (some 5) with
  accessFlags := 16416
  interfaces := #[]
  cf := some (fileOf pool6 1 #[.nestMembers #[116, 82]] #[{ accessFlags := 9, nameIndex := 58, descriptorIndex := 59, attributes := #[] }, { accessFlags := 8, nameIndex := 98, descriptorIndex := 99, attributes := #[] }, { accessFlags := 10, nameIndex := 62, descriptorIndex := 63, attributes := #[] }] 16416 32 #[] #[{ accessFlags := 16409, nameIndex := 5, descriptorIndex := 6, attributes := #[] }, { accessFlags := 16409, nameIndex := 9, descriptorIndex := 6, attributes := #[] }, { accessFlags := 16409, nameIndex := 12, descriptorIndex := 6, attributes := #[] }, { accessFlags := 16409, nameIndex := 15, descriptorIndex := 6, attributes := #[] }, { accessFlags := 16409, nameIndex := 18, descriptorIndex := 6, attributes := #[] }, { accessFlags := 16409, nameIndex := 21, descriptorIndex := 6, attributes := #[] }, { accessFlags := 24, nameIndex := 89, descriptorIndex := 44, attributes := #[] }, { accessFlags := 18, nameIndex := 43, descriptorIndex := 44, attributes := #[] }, { accessFlags := 18, nameIndex := 47, descriptorIndex := 48, attributes := #[] }, { accessFlags := 18, nameIndex := 51, descriptorIndex := 52, attributes := #[] }, { accessFlags := 18, nameIndex := 55, descriptorIndex := 52, attributes := #[] }, { accessFlags := 4122, nameIndex := 24, descriptorIndex := 25, attributes := #[] }])
  fields := #[{ name := "ASCII_COMPATIBLE", type := (.object "com/example/shapelint/shapelint/io/XmlEncodingFamily"), accessFlags := 16409, slot := 0, constantValue := 0 }, { name := "UTF_16_BIG_ENDIAN", type := (.object "com/example/shapelint/shapelint/io/XmlEncodingFamily"), accessFlags := 16409, slot := 1, constantValue := 0 }, { name := "UTF_16_LITTLE_ENDIAN", type := (.object "com/example/shapelint/shapelint/io/XmlEncodingFamily"), accessFlags := 16409, slot := 2, constantValue := 0 }, { name := "UTF_32_BIG_ENDIAN", type := (.object "com/example/shapelint/shapelint/io/XmlEncodingFamily"), accessFlags := 16409, slot := 3, constantValue := 0 }, { name := "UTF_32_LITTLE_ENDIAN", type := (.object "com/example/shapelint/shapelint/io/XmlEncodingFamily"), accessFlags := 16409, slot := 4, constantValue := 0 }, { name := "EBCDIC", type := (.object "com/example/shapelint/shapelint/io/XmlEncodingFamily"), accessFlags := 16409, slot := 5, constantValue := 0 }, { name := "SIGNATURE_LENGTH", type := .int, accessFlags := 24, slot := 6, constantValue := 0 }, { name := "_unitLength", type := .int, accessFlags := 18, slot := 3, constantValue := 0 }, { name := "_littleEndian", type := .boolean, accessFlags := 18, slot := 4, constantValue := 0 }, { name := "_byteOrderMark", type := (.array .byte), accessFlags := 18, slot := 5, constantValue := 0 }, { name := "_signature", type := (.array .byte), accessFlags := 18, slot := 6, constantValue := 0 }, { name := "$VALUES", type := (.array (.object "com/example/shapelint/shapelint/io/XmlEncodingFamily")), accessFlags := 4122, slot := 7, constantValue := 0 }]
  methods := #[k6m0, k6m1, k6m2]
  instanceTypes := #[(.object "java/lang/String"), .int, .int, .int, .boolean, (.array .byte), (.array .byte)]
  staticTypes := #[(.object "com/example/shapelint/shapelint/io/XmlEncodingFamily"), (.object "com/example/shapelint/shapelint/io/XmlEncodingFamily"), (.object "com/example/shapelint/shapelint/io/XmlEncodingFamily"), (.object "com/example/shapelint/shapelint/io/XmlEncodingFamily"), (.object "com/example/shapelint/shapelint/io/XmlEncodingFamily"), (.object "com/example/shapelint/shapelint/io/XmlEncodingFamily"), .int, (.array (.object "com/example/shapelint/shapelint/io/XmlEncodingFamily"))]
  resolved := Array.replicate 121 none
  statics := some 0 }

def pool7 : Array CpInfo := pool [(1, .class_ 2), (0, u "java/lang/Cloneable"), (0, .class_ 4), (0, u "java/lang/Object")] 2

/-- java/lang/Cloneable -/
def k7 : Class := { plain "java/lang/Cloneable" (some 0) with
  accessFlags := 1537
  interfaces := #[]
  cf := some (fileOf pool7 1 #[] #[] 1537 3 #[] #[])
  fields := #[]
  methods := #[]
  instanceTypes := #[]
  staticTypes := #[]
  resolved := Array.replicate 7 none
  statics := none }

def pool8 : Array CpInfo := pool [(2, .class_ 4), (1, u "java/lang/Object"), (0, u "<init>"), (0, u "()V"), (6, .methodref 14 15), (0, .class_ 16), (0, .nameAndType 17 18), (0, u "java/util/Arrays"), (0, u "rangeCheck"), (0, u "(III)V"), (55, .class_ 76), (1, u "java/util/Arrays$NaturalOrder"), (36, .class_ 115), (1, u "java/util/Arrays$LegacyMergeSort"), (1, u "Z"), (128, .class_ 248), (1, u "jdk/internal/util/ArraysSupport"), (0, u "mismatch"), (25, .methodref 246 276), (0, .nameAndType 249 277), (0, u "([BI[BII)I"), (20, u "equals"), (76, .class_ 376), (0, u "java/util/Arrays$ArrayList"), (68, u "$assertionsDisabled"), (269, u "MIN_ARRAY_SORT_GRAN"), (0, u "I"), (2, u "INSERTIONSORT_THRESHOLD"), (111, u "([BII[BII)Z"), (143, .class_ 976), (0, u "java/util/Arrays$ArrayItr")] 52

def k8m0 : Method := { name := "<init>", desc := "()V", sig := { parameters := [], returnType := none }, accessFlags := 2, code := none }
def k8c1 : Code := { maxStack := 4, maxLocals := 3, code := jdk_65_method_30_code, exceptionTable := #[], attributes := #[] }
def k8m1 : Method := { name := "rangeCheck", desc := "(III)V", sig := { parameters := [.int, .int, .int], returnType := none }, accessFlags := 8, code := some k8c1 }
def k8c2 : Code := { maxStack := 5, maxLocals := 8, code := jdk_65_method_90_code, exceptionTable := #[], attributes := #[] }
def k8m2 : Method := { name := "equals", desc := "([BII[BII)Z", sig := { parameters := [(.array .byte), .int, .int, (.array .byte), .int, .int], returnType := some .boolean }, accessFlags := 9, code := some k8c2 }
/-- java/util/Arrays -/
def k8 : Class := { plain "java/util/Arrays" (some 0) with
  accessFlags := 49
  interfaces := #[]
  cf := some (fileOf pool8 14 #[.nestMembers #[975, 375, 113, 74]] #[{ accessFlags := 2, nameIndex := 5, descriptorIndex := 6, attributes := #[] }, { accessFlags := 8, nameIndex := 17, descriptorIndex := 18, attributes := #[] }, { accessFlags := 9, nameIndex := 298, descriptorIndex := 831, attributes := #[] }] 49 2 #[] #[{ accessFlags := 26, nameIndex := 715, descriptorIndex := 716, attributes := #[] }, { accessFlags := 26, nameIndex := 719, descriptorIndex := 716, attributes := #[] }, { accessFlags := 4120, nameIndex := 445, descriptorIndex := 117, attributes := #[] }])
  fields := #[{ name := "MIN_ARRAY_SORT_GRAN", type := .int, accessFlags := 26, slot := 0, constantValue := 0 }, { name := "INSERTIONSORT_THRESHOLD", type := .int, accessFlags := 26, slot := 1, constantValue := 0 }, { name := "$assertionsDisabled", type := .boolean, accessFlags := 4120, slot := 2, constantValue := 0 }]
  methods := #[k8m0, k8m1, k8m2]
  instanceTypes := #[]
  staticTypes := #[.int, .int, .boolean]
  resolved := Array.replicate 1029 none
  statics := none }

def pool9 : Array CpInfo := pool [(9, u "<init>"), (6, .class_ 18), (1, u "java/lang/Object"), (0, u "()V"), (1, .class_ 23), (1, u "jdk/internal/util/ArraysSupport"), (0, u "LOG2_ARRAY_LONG_INDEX_SCALE"), (0, u "I"), (2, u "U"), (0, u "Ljdk/internal/misc/Unsafe;"), (8, u "BIG_ENDIAN"), (0, u "Z"), (8, u "LOG2_BYTE_BIT_SIZE"), (4, u "LOG2_ARRAY_INT_INDEX_SCALE"), (54, u "JLA"), (0, u "Ljdk/internal/access/JavaLangAccess;"), (11, u "LOG2_ARRAY_BOOLEAN_INDEX_SCALE"), (9, u "LOG2_ARRAY_BYTE_INDEX_SCALE"), (5, u "LOG2_ARRAY_CHAR_INDEX_SCALE"), (5, u "LOG2_ARRAY_SHORT_INDEX_SCALE"), (5, u "mismatch"), (12, u "LOG2_ARRAY_FLOAT_INDEX_SCALE"), (24, u "LOG2_ARRAY_DOUBLE_INDEX_SCALE"), (89, u "T_BOOLEAN"), (2, u "T_CHAR"), (1, u "T_FLOAT"), (1, u "T_DOUBLE"), (1, u "T_BYTE"), (1, u "T_SHORT"), (1, u "T_INT"), (1, u "T_LONG"), (1, u "SOFT_MAX_ARRAY_LENGTH"), (42, u "([BI[BII)I")] 40

def k9m0 : Method := { name := "<init>", desc := "()V", sig := { parameters := [], returnType := none }, accessFlags := 2, code := none }
def k9c1 : Code := { maxStack := 8, maxLocals := 8, code := jdk_48_method_14_code, exceptionTable := #[], attributes := #[] }
def k9m1 : Method := { name := "mismatch", desc := "([BI[BII)I", sig := { parameters := [(.array .byte), .int, (.array .byte), .int, .int], returnType := some .int }, accessFlags := 9, code := some k9c1 }
/-- jdk/internal/util/ArraysSupport -/
def k9 : Class := { plain "jdk/internal/util/ArraysSupport" (some 0) with
  accessFlags := 33
  interfaces := #[]
  cf := some (fileOf pool9 21 #[] #[{ accessFlags := 2, nameIndex := 9, descriptorIndex := 19, attributes := #[] }, { accessFlags := 9, nameIndex := 149, descriptorIndex := 337, attributes := #[] }] 33 16 #[] #[{ accessFlags := 24, nameIndex := 28, descriptorIndex := 29, attributes := #[] }, { accessFlags := 26, nameIndex := 38, descriptorIndex := 39, attributes := #[] }, { accessFlags := 25, nameIndex := 121, descriptorIndex := 25, attributes := #[] }, { accessFlags := 25, nameIndex := 131, descriptorIndex := 25, attributes := #[] }, { accessFlags := 25, nameIndex := 137, descriptorIndex := 25, attributes := #[] }, { accessFlags := 25, nameIndex := 143, descriptorIndex := 25, attributes := #[] }, { accessFlags := 25, nameIndex := 53, descriptorIndex := 25, attributes := #[] }, { accessFlags := 25, nameIndex := 24, descriptorIndex := 25, attributes := #[] }, { accessFlags := 25, nameIndex := 162, descriptorIndex := 25, attributes := #[] }, { accessFlags := 25, nameIndex := 187, descriptorIndex := 25, attributes := #[] }, { accessFlags := 26, nameIndex := 48, descriptorIndex := 25, attributes := #[] }, { accessFlags := 25, nameIndex := 277, descriptorIndex := 25, attributes := #[] }, { accessFlags := 25, nameIndex := 280, descriptorIndex := 25, attributes := #[] }, { accessFlags := 25, nameIndex := 282, descriptorIndex := 25, attributes := #[] }, { accessFlags := 25, nameIndex := 284, descriptorIndex := 25, attributes := #[] }, { accessFlags := 25, nameIndex := 286, descriptorIndex := 25, attributes := #[] }, { accessFlags := 25, nameIndex := 288, descriptorIndex := 25, attributes := #[] }, { accessFlags := 25, nameIndex := 290, descriptorIndex := 25, attributes := #[] }, { accessFlags := 25, nameIndex := 292, descriptorIndex := 25, attributes := #[] }, { accessFlags := 26, nameIndex := 108, descriptorIndex := 109, attributes := #[] }, { accessFlags := 25, nameIndex := 294, descriptorIndex := 25, attributes := #[] }])
  fields := #[{ name := "U", type := (.object "jdk/internal/misc/Unsafe"), accessFlags := 24, slot := 0, constantValue := 0 }, { name := "BIG_ENDIAN", type := .boolean, accessFlags := 26, slot := 1, constantValue := 0 }, { name := "LOG2_ARRAY_BOOLEAN_INDEX_SCALE", type := .int, accessFlags := 25, slot := 2, constantValue := 0 }, { name := "LOG2_ARRAY_BYTE_INDEX_SCALE", type := .int, accessFlags := 25, slot := 3, constantValue := 0 }, { name := "LOG2_ARRAY_CHAR_INDEX_SCALE", type := .int, accessFlags := 25, slot := 4, constantValue := 0 }, { name := "LOG2_ARRAY_SHORT_INDEX_SCALE", type := .int, accessFlags := 25, slot := 5, constantValue := 0 }, { name := "LOG2_ARRAY_INT_INDEX_SCALE", type := .int, accessFlags := 25, slot := 6, constantValue := 0 }, { name := "LOG2_ARRAY_LONG_INDEX_SCALE", type := .int, accessFlags := 25, slot := 7, constantValue := 0 }, { name := "LOG2_ARRAY_FLOAT_INDEX_SCALE", type := .int, accessFlags := 25, slot := 8, constantValue := 0 }, { name := "LOG2_ARRAY_DOUBLE_INDEX_SCALE", type := .int, accessFlags := 25, slot := 9, constantValue := 0 }, { name := "LOG2_BYTE_BIT_SIZE", type := .int, accessFlags := 26, slot := 10, constantValue := 0 }, { name := "T_BOOLEAN", type := .int, accessFlags := 25, slot := 11, constantValue := 0 }, { name := "T_CHAR", type := .int, accessFlags := 25, slot := 12, constantValue := 0 }, { name := "T_FLOAT", type := .int, accessFlags := 25, slot := 13, constantValue := 0 }, { name := "T_DOUBLE", type := .int, accessFlags := 25, slot := 14, constantValue := 0 }, { name := "T_BYTE", type := .int, accessFlags := 25, slot := 15, constantValue := 0 }, { name := "T_SHORT", type := .int, accessFlags := 25, slot := 16, constantValue := 0 }, { name := "T_INT", type := .int, accessFlags := 25, slot := 17, constantValue := 0 }, { name := "T_LONG", type := .int, accessFlags := 25, slot := 18, constantValue := 0 }, { name := "JLA", type := (.object "jdk/internal/access/JavaLangAccess"), accessFlags := 26, slot := 19, constantValue := 0 }, { name := "SOFT_MAX_ARRAY_LENGTH", type := .int, accessFlags := 25, slot := 20, constantValue := 0 }]
  methods := #[k9m0, k9m1]
  instanceTypes := #[]
  staticTypes := #[(.object "jdk/internal/misc/Unsafe"), .boolean, .int, .int, .int, .int, .int, .int, .int, .int, .int, .int, .int, .int, .int, .int, .int, .int, .int, (.object "jdk/internal/access/JavaLangAccess"), .int]
  resolved := Array.replicate 378 none
  statics := none }

def pool10 : Array CpInfo := pool [(2, .class_ 4), (1, u "com/example/shapelint/shapelint/io/XmlEncodingFamily"), (14, .class_ 20), (0, u "com/example/shapelint/shapelint/io/XmlEncodingFamily$1")] 11

/-- com/example/shapelint/shapelint/io/XmlEncodingFamily$1 -/
def k10 : Class := { plain "com/example/shapelint/shapelint/io/XmlEncodingFamily$1" (some 6) with
  accessFlags := 16432
  interfaces := #[]
  cf := some (fileOf pool10 19 #[.nestHost 2] #[] 16432 2 #[] #[])
  fields := #[]
  methods := #[]
  instanceTypes := #[(.object "java/lang/String"), .int, .int, .int, .boolean, (.array .byte), (.array .byte)]
  staticTypes := #[]
  resolved := Array.replicate 32 none
  statics := none }

/-- the primitive byte -/
def k11 : Class := { plain "byte" none with kind := .primitive 'B', accessFlags := 0x411 }
/-- [B -/
def k12 : Class := { plain "[B" (some 0) with kind := .array 11 .byte, interfaces := #[7, 4], accessFlags := 1041 }

/-- the primitive int -/
def k13 : Class := { plain "int" none with kind := .primitive 'I', accessFlags := 0x411 }
/-- [I -/
def k14 : Class := { plain "[I" (some 0) with kind := .array 13 .int, interfaces := #[7, 4], accessFlags := 1041 }

/-- [Lcom/example/shapelint/shapelint/io/XmlEncodingFamily; -/
def k15 : Class := { plain "[Lcom/example/shapelint/shapelint/io/XmlEncodingFamily;" (some 0) with kind := .array 6 (.object "com/example/shapelint/shapelint/io/XmlEncodingFamily"), interfaces := #[7, 4], accessFlags := 1041 }

def heap : Heap := #[{ cls := 6, slots := #[.ref 2, .ref 3, .ref 4, .ref 5, .ref 6, .ref 7, .int 0, .ref 1], vm := .statics 6 },
  { cls := 15, slots := #[.ref 2, .ref 3, .ref 4, .ref 5, .ref 6, .ref 7], vm := .none },
  { cls := 6, slots := #[.null, .int 0, .int 0, .int 1, .int 0, .ref 8, .ref 14], vm := .none },
  { cls := 6, slots := #[.null, .int 1, .int 0, .int 1, .int 0, .ref 9, .ref 15], vm := .none },
  { cls := 6, slots := #[.null, .int 2, .int 0, .int 1, .int 0, .ref 10, .ref 16], vm := .none },
  { cls := 6, slots := #[.null, .int 3, .int 0, .int 1, .int 0, .ref 11, .ref 17], vm := .none },
  { cls := 6, slots := #[.null, .int 4, .int 0, .int 1, .int 0, .ref 12, .ref 18], vm := .none },
  { cls := 10, slots := #[.null, .int 5, .int 0, .int 1, .int 0, .ref 13, .ref 19], vm := .none },
  { cls := 12, slots := #[.int (-17), .int (-69), .int (-65)], vm := .none },
  { cls := 12, slots := #[.int (-2), .int (-1)], vm := .none },
  { cls := 12, slots := #[.int (-1), .int (-2)], vm := .none },
  { cls := 12, slots := #[], vm := .none },
  { cls := 12, slots := #[], vm := .none },
  { cls := 12, slots := #[], vm := .none },
  { cls := 12, slots := #[], vm := .none },
  { cls := 12, slots := #[.int 0, .int 60, .int 0, .int 63], vm := .none },
  { cls := 12, slots := #[.int 60, .int 0, .int 63, .int 0], vm := .none },
  { cls := 12, slots := #[.int 0, .int 0, .int 0, .int 60], vm := .none },
  { cls := 12, slots := #[.int 60, .int 0, .int 0, .int 0], vm := .none },
  { cls := 12, slots := #[.int 76, .int 111, .int (-89), .int (-108)], vm := .none }]
def classes : Array Class := #[k0, k1, k2, k3, k4, k5, k6, k7, k8, k9, k10, k11, k12, k13, k14, k15]
def interned : List (Array UInt16 × Addr) := []
def slotsUsed : Nat := 83
def theMethod : MethodId := ⟨1, 3⟩
def args0 : Array Value := #[.int 5, .int 6, .int 7, .int 8, .int 9, .int 3]
def aboutOver (below : List Frame) : State where
  vm := { classes := classes, interned := interned.toArray }
  heap := heap
  slotsUsed := slotsUsed
  threads := #[{ frames := .invoking theMethod args0 :: below }]
def below0 : List Frame := [.native { method := ⟨0, 0⟩, args := #[] }]
def about1 : State := aboutOver below0
def p0 : Program := .bare "" "" ""
def e0 : Env := launch0.env 0 0 0
theorem w_frames : about1.frames = Frame.invoking theMethod args0 :: below0 := rfl
set_option maxRecDepth 65536 in
theorem w_args : argsFit about1.vm theMethod args0 = true := by decide +kernel
set_option maxRecDepth 65536 in
theorem w_heap : heapFits about1 = true := by decide +kernel
set_option maxRecDepth 65536 in
theorem w_runnable : about1.curStatus? = some .runnable := by decide +kernel
set_option maxRecDepth 65536 in
theorem w_alone : about1.alone = true := by decide +kernel
set_option maxRecDepth 65536 in
theorem w_named : about1.methodNamed? x = some theMethod := by decide +kernel
set_option maxRecDepth 65536 in
theorem w_hears : about1.hears theMethod below0 = true := by decide +kernel
set_option maxRecDepth 65536 in
theorem w_ripe : about1.ripe theMethod args0 below0 = true := by decide +kernel
theorem w_running : about1.status = .running := rfl
set_option maxRecDepth 65536 in
theorem w_room : about1.hasRoom e0.platform room_1 = true :=
  launch0.hasRoom_least _ room_1 (by decide +kernel) (by decide +kernel) (by decide +kernel) (by decide +kernel) (by decide +kernel) (by decide +kernel)
theorem allAtoms_all (ts : List Jvm.Cond) (a : Array Jvm.Value) (st : Jvm.State) : (allAtoms ts).before a st = ts.all (fun c => c.before a st) := by
  induction ts with
  | nil => rfl
  | cons c t ih =>
    show (Jvm.Cond.and c (allAtoms t)).before a st = _
    rw [Jvm.Cond.before_and, ih, List.all_cons]
def words1 : List Jvm.Cond := Jvm.Cond.code x code maxLocals ret :: tables_1
/-- a 'code' word, met by the world's own term for the bytes: nothing is compared byte by byte -/
theorem code_word {y : MethodName} {bytes : ByteArray} {mx : Nat} {rt : Option FieldType} {a : Array Value} {s : State} {m : MethodId} {meth : Method} {c : Code} (h1 : s.methodNamed? y = some m) (h2 : s.vm.method? m = some meth) (h3 : meth.code = some c) (h4 : c.code = bytes)
    (h5 : (c.maxLocals == mx && c.exceptionTable.isEmpty && decide (c.maxStack ≤ mostOperands) && decide (meth.sig.returnType = rt) && !meth.locks && decide (parseMethodDescriptor y.desc = some meth.sig)) = true) : (Jvm.Cond.code y bytes mx rt).before a s = true := by
  simp only [Bool.and_eq_true, beq_iff_eq, Bool.not_eq_true', decide_eq_true_eq] at h5
  obtain ⟨⟨⟨⟨⟨g1, g2⟩, g3⟩, g4⟩, g5⟩, g6⟩ := h5
  simp [Cond.before, Cond.holds, Cond.value, h1, h2, h3, h4, g1, g2, g3, g4, g5, g6]
def isCode : Jvm.Cond → Bool
  | .code _ _ _ _ => true
  | _ => false
theorem all_split {L : List Jvm.Cond} {P : Jvm.Cond → Bool} (h1 : L.all (fun c => isCode c || P c) = true) (h2 : ∀ c ∈ L.filter isCode, P c = true) : L.all P = true := by
  refine List.all_eq_true.mpr fun c hc => ?_
  have h := List.all_eq_true.mp h1 c hc
  rcases Bool.eq_false_or_eq_true (isCode c) with hi | hi
  · exact h2 c (List.mem_filter.mpr ⟨hc, hi⟩)
  · simpa [hi] using h
set_option maxRecDepth 65536 in
theorem w_c0 : (Jvm.Cond.code x code maxLocals ret).before args0 about1 = true := code_word (m := ⟨1, 3⟩) (meth := k1m3) (c := k1c3) (by decide +kernel) rfl rfl rfl (by decide +kernel)
set_option maxRecDepth 65536 in
theorem w_c1 : (Jvm.Cond.code ({ cls := "com/example/shapelint/shapelint/io/XmlEncodingFamilyOfPinLaw", name := "pick", desc := "(IIII)I" } : Jvm.MethodName) method_3_code (4 : Nat) (Option.some Jvm.ClassFile.FieldType.int)).before args0 about1 = true := code_word (m := ⟨1, 2⟩) (meth := k1m2) (c := k1c2) (by decide +kernel) rfl rfl rfl (by decide +kernel)
set_option maxRecDepth 65536 in
theorem w_c2 : (Jvm.Cond.code ({ cls := "com/example/shapelint/shapelint/io/XmlEncodingFamilyOfPinLaw", name := "tpl", desc := "(II)I" } : Jvm.MethodName) method_2_code (3 : Nat) (Option.some Jvm.ClassFile.FieldType.int)).before args0 about1 = true := code_word (m := ⟨1, 1⟩) (meth := k1m1) (c := k1c1) (by decide +kernel) rfl rfl rfl (by decide +kernel)
set_option maxRecDepth 65536 in
theorem w_c3 : (Jvm.Cond.code ({ cls := "com/example/shapelint/shapelint/io/XmlEncodingFamily", name := "of", desc := "([B)Lcom/example/shapelint/shapelint/io/XmlEncodingFamily;" } : Jvm.MethodName) prog_14_method_4_code (6 : Nat) (Option.some (Jvm.ClassFile.FieldType.object "com/example/shapelint/shapelint/io/XmlEncodingFamily"))).before args0 about1 = true := code_word (m := ⟨6, 1⟩) (meth := k6m1) (c := k6c1) (by decide +kernel) rfl rfl rfl (by decide +kernel)
set_option maxRecDepth 65536 in
theorem w_c4 : (Jvm.Cond.code ({ cls := "com/example/shapelint/shapelint/io/XmlEncodingFamily", name := "values", desc := "()[Lcom/example/shapelint/shapelint/io/XmlEncodingFamily;" } : Jvm.MethodName) prog_14_method_1_code (0 : Nat) (Option.some (Jvm.ClassFile.FieldType.array (Jvm.ClassFile.FieldType.object "com/example/shapelint/shapelint/io/XmlEncodingFamily")))).before args0 about1 = true := code_word (m := ⟨6, 0⟩) (meth := k6m0) (c := k6c0) (by decide +kernel) rfl rfl rfl (by decide +kernel)
set_option maxRecDepth 65536 in
theorem w_c5 : (Jvm.Cond.code ({ cls := "com/example/shapelint/shapelint/io/XmlEncodingFamily", name := "startsWith", desc := "([B[B)Z" } : Jvm.MethodName) prog_14_method_9_code (2 : Nat) (Option.some Jvm.ClassFile.FieldType.boolean)).before args0 about1 = true := code_word (m := ⟨6, 2⟩) (meth := k6m2) (c := k6c2) (by decide +kernel) rfl rfl rfl (by decide +kernel)
set_option maxRecDepth 65536 in
theorem w_c6 : (Jvm.Cond.code ({ cls := "java/util/Arrays", name := "equals", desc := "([BII[BII)Z" } : Jvm.MethodName) jdk_65_method_90_code (8 : Nat) (Option.some Jvm.ClassFile.FieldType.boolean)).before args0 about1 = true := code_word (m := ⟨8, 2⟩) (meth := k8m2) (c := k8c2) (by decide +kernel) rfl rfl rfl (by decide +kernel)
set_option maxRecDepth 65536 in
theorem w_c7 : (Jvm.Cond.code ({ cls := "java/util/Arrays", name := "rangeCheck", desc := "(III)V" } : Jvm.MethodName) jdk_65_method_30_code (3 : Nat) (Option.none : Option Jvm.ClassFile.FieldType)).before args0 about1 = true := code_word (m := ⟨8, 1⟩) (meth := k8m1) (c := k8c1) (by decide +kernel) rfl rfl rfl (by decide +kernel)
set_option maxRecDepth 65536 in
theorem w_c8 : (Jvm.Cond.code ({ cls := "jdk/internal/util/ArraysSupport", name := "mismatch", desc := "([BI[BII)I" } : Jvm.MethodName) jdk_48_method_14_code (8 : Nat) (Option.some Jvm.ClassFile.FieldType.int)).before args0 about1 = true := code_word (m := ⟨9, 1⟩) (meth := k9m1) (c := k9c1) (by decide +kernel) rfl rfl rfl (by decide +kernel)
def codes1 : List Jvm.Cond := [Jvm.Cond.code x code maxLocals ret, Jvm.Cond.code ({ cls := "com/example/shapelint/shapelint/io/XmlEncodingFamilyOfPinLaw", name := "pick", desc := "(IIII)I" } : Jvm.MethodName) method_3_code (4 : Nat) (Option.some Jvm.ClassFile.FieldType.int), Jvm.Cond.code ({ cls := "com/example/shapelint/shapelint/io/XmlEncodingFamilyOfPinLaw", name := "tpl", desc := "(II)I" } : Jvm.MethodName) method_2_code (3 : Nat) (Option.some Jvm.ClassFile.FieldType.int), Jvm.Cond.code ({ cls := "com/example/shapelint/shapelint/io/XmlEncodingFamily", name := "of", desc := "([B)Lcom/example/shapelint/shapelint/io/XmlEncodingFamily;" } : Jvm.MethodName) prog_14_method_4_code (6 : Nat) (Option.some (Jvm.ClassFile.FieldType.object "com/example/shapelint/shapelint/io/XmlEncodingFamily")), Jvm.Cond.code ({ cls := "com/example/shapelint/shapelint/io/XmlEncodingFamily", name := "values", desc := "()[Lcom/example/shapelint/shapelint/io/XmlEncodingFamily;" } : Jvm.MethodName) prog_14_method_1_code (0 : Nat) (Option.some (Jvm.ClassFile.FieldType.array (Jvm.ClassFile.FieldType.object "com/example/shapelint/shapelint/io/XmlEncodingFamily"))), Jvm.Cond.code ({ cls := "com/example/shapelint/shapelint/io/XmlEncodingFamily", name := "startsWith", desc := "([B[B)Z" } : Jvm.MethodName) prog_14_method_9_code (2 : Nat) (Option.some Jvm.ClassFile.FieldType.boolean), Jvm.Cond.code ({ cls := "java/util/Arrays", name := "equals", desc := "([BII[BII)Z" } : Jvm.MethodName) jdk_65_method_90_code (8 : Nat) (Option.some Jvm.ClassFile.FieldType.boolean), Jvm.Cond.code ({ cls := "java/util/Arrays", name := "rangeCheck", desc := "(III)V" } : Jvm.MethodName) jdk_65_method_30_code (3 : Nat) (Option.none : Option Jvm.ClassFile.FieldType), Jvm.Cond.code ({ cls := "jdk/internal/util/ArraysSupport", name := "mismatch", desc := "([BI[BII)I" } : Jvm.MethodName) jdk_48_method_14_code (8 : Nat) (Option.some Jvm.ClassFile.FieldType.int)]
set_option maxRecDepth 65536 in
theorem codes_eq : words1.filter isCode = codes1 := rfl
theorem w_codes : ∀ c ∈ words1.filter isCode, c.before args0 about1 = true := by
  rw [codes_eq]
  intro c hc
  simp only [codes1, List.mem_cons, List.not_mem_nil, or_false] at hc
  rcases hc with rfl | rfl | rfl | rfl | rfl | rfl | rfl | rfl | rfl
  · exact w_c0
  · exact w_c1
  · exact w_c2
  · exact w_c3
  · exact w_c4
  · exact w_c5
  · exact w_c6
  · exact w_c7
  · exact w_c8
set_option maxRecDepth 65536 in
theorem w_t1 : (words1.take 24).all (fun c => isCode c || c.before args0 about1) = true := by decide +kernel
set_option maxRecDepth 65536 in
theorem w_t2 : ((words1.drop 24).take 24).all (fun c => isCode c || c.before args0 about1) = true := by decide +kernel
set_option maxRecDepth 65536 in
theorem w_t3 : ((words1.drop 24).drop 24).all (fun c => isCode c || c.before args0 about1) = true := by decide +kernel
theorem w_tables : (allAtoms (Jvm.Cond.code x code maxLocals ret :: tables_1)).before args0 about1 = true := by
  rw [allAtoms_all]
  show words1.all (fun c => c.before args0 about1) = true
  refine all_split ?_ w_codes
  rw [← List.take_append_drop 24 words1, List.all_append, w_t1, ← List.take_append_drop 24 (words1.drop 24), List.all_append, w_t2, w_t3]
  rfl
set_option maxRecDepth 65536 in
theorem w_case : (Jvm.Cond.and given_1 narrow_1).before args0 about1 = true := by decide +kernel
theorem w_applies : (headSpec (Jvm.Cond.code x code maxLocals ret :: tables_1) room_1).applies x e0.platform about1 = true :=
  (Spec.applies_iff w_frames).mpr ⟨w_running, w_runnable, w_alone, w_named, w_hears, w_ripe, w_room, w_tables⟩
theorem atStart : AtStart classFile x code maxLocals ret World_1 tables_1 room_1 Calls_1 rest_1 Pre_1 launch0 p0 e0 about1 theMethod args0 below0 :=
  ⟨lists_1, trivial, launch0.admits_env _ _ _, launch0.least_env, fairChoices_fair.cas, fairChoices_fair.clock, w_frames, w_args, w_heap, w_applies, trivial, trivial, w_case⟩
end start1
theorem witness_1 : WitnessClaimed_1 := ⟨start1.p0, start1.e0, start1.about1, start1.theMethod, start1.args0, start1.below0, start1.atStart⟩
end Jvm.Pilot.@@N@@
