import JvmDerived
import JvmDerived.Pilot.@@N@@Statement
import JvmDerived.Pilot.@@N@@Code
set_option linter.unusedVariables false
set_option linter.unusedSimpArgs false
namespace Jvm.OwnK
open Jvm Sem ClassFile Op Lib Jvm.Stand Jvm.Free Jvm.LawKit Jvm.RoadKit
section A
variable {tabs : List Jvm.Cond} {a0 : Array Value} {Z : State} {own nm : String} {code : ByteArray} {ml : Nat} {ret : Option FieldType} {p : Program} {l : Launch} {e : Env} {R : Room} {s : State} {m : MethodId} {args : Array Value} {below : List Frame} {meth : Method} {c : Code} {n0 : Nat} {T : State} {h : Heap} {k n : Nat} {Q : Option Value → Heap → Prop} {G : Outcome → State → List Loc → Prop} {pc : Nat} {ls : Array Slot} {st : List Value}
/-- what stands fast through a method's walk -/
def Cx (tabs : List Jvm.Cond) (a0 : Array Value) (Z : State) (own nm : String) (code : ByteArray) (ml : Nat) (ret : Option FieldType) (p : Program) (s : State) (m : MethodId) (meth : Method) (c : Code) : Prop :=
  p.tables.exec = Jvm.exec ∧ Z.Warmed39 s.vm ∧ c.code = code ∧ c.maxLocals = ml ∧ s.vm.findClass own = some m.cls ∧ meth.sig.returnType = ret ∧ meth.locks = false ∧ meth.name = nm ∧ ∀ d ∈ tabs, d.before a0 Z = true
/-- where the walk stands: the heap h, k cells and n slots made so far, nothing below n0 written -/
def St (p : Program) (l : Launch) (e : Env) (R : Room) (s : State) (m : MethodId) (args : Array Value) (below : List Frame) (meth : Method) (c : Code) (n0 : Nat) (T : State) (h : Heap) (k n : Nat) : Prop :=
  ∃ locs, Stand p l e R s m args below meth c T locs k n ∧ T.heap = h ∧ Fr n0 locs ∧ n0 ≤ s.heap.size
/-- from this frame the method ends, and returns what Q says -/
def Run (p : Program) (e : Env) (below : List Frame) (n0 : Nat) (Q : Option Value → Heap → Prop) (G : Outcome → State → List Loc → Prop) (m : MethodId) (T : State) (pc : Nat) (ls : Array Slot) (st : List Value) : Prop :=
  ∃ s₂ o, Steps p.tables e below (T.setTop (mkF m pc ls st)) s₂ ∧ s₂.status = .running ∧ Ended s₂ below o ∧ ∃ v L, o = .returned v ∧ (Q v s₂.heap ∧ Fr n0 L) ∧ G o s₂ L
theorem Run.step {T' : State} {pc' : Nat} {ls' : Array Slot} {st' : List Value} (f : ∀ t, Steps p.tables e below (T'.setTop (mkF m pc' ls' st')) t → Steps p.tables e below (T.setTop (mkF m pc ls st)) t) (r : Run p e below n0 Q G m T' pc' ls' st') : Run p e below n0 Q G m T pc ls st := by
  obtain ⟨s₂, o, h1, h2⟩ := r
  exact ⟨s₂, o, f _ h1, h2⟩
theorem Run.steps {T' : State} {pc' : Nat} {ls' : Array Slot} {st' : List Value} (f : Steps p.tables e below (T.setTop (mkF m pc ls st)) (T'.setTop (mkF m pc' ls' st'))) (r : Run p e below n0 Q G m T' pc' ls' st') : Run p e below n0 Q G m T pc ls st := Run.step (fun _ q => f.trans q) r
theorem Run.cast {st' : List Value} (q : st = st') (r : Run p e below n0 Q G m T pc ls st') : Run p e below n0 Q G m T pc ls st := q ▸ r
theorem St.at' (X : St p l e R s m args below meth c n0 T h k n) : Jvm.At T m c below := by obtain ⟨_, X, -⟩ := X; exact X.here
theorem St.sz (X : St p l e R s m args below meth c n0 T h k n) : n0 ≤ h.size := by
  obtain ⟨_, X, rfl, -, q⟩ := X
  exact Nat.le_trans q X.same.2.1
theorem Cx.d {r : Except DecodeError (Instr × Nat)} (C : Cx tabs a0 Z own nm code ml ret p s m meth c) (q : decode code pc = r) : decode c.code pc = r := hb C.2.2.1 q
theorem Cx.w {d : Jvm.Cond} (C : Cx tabs a0 Z own nm code ml ret p s m meth c) (q : d ∈ tabs) : d.before a0 Z = true := C.2.2.2.2.2.2.2.2 d q
theorem s_iloadN (pc' : Nat) (C : Cx tabs a0 Z own nm code ml ret p s m meth c) (X : St p l e R s m args below meth c n0 T h k n) {i : Fin 4} {v : Int32} (hd : decode code pc = .ok (.iload_n i, 1)) (hl : ls[i.val]? = some (.val (.int v))) (r : Run p e below n0 Q G m T pc' ls (.int v :: st)) (hp : pc + 1 = pc' := by rfl) : Run p e below n0 Q G m T pc ls st := by
  subst hp
  exact Run.step (fun t q => XS.iloadN X.at' C.1 rfl (C.d hd) hl q) r
theorem s_iload (pc' : Nat) (C : Cx tabs a0 Z own nm code ml ret p s m meth c) (X : St p l e R s m args below meth c n0 T h k n) {i : Nat} {v : Int32} (hd : decode code pc = .ok (.iload i, 2)) (hl : ls[i]? = some (.val (.int v))) (r : Run p e below n0 Q G m T pc' ls (.int v :: st)) (hp : pc + 2 = pc' := by rfl) : Run p e below n0 Q G m T pc ls st := by
  subst hp
  exact Run.step (fun t q => XS.iload X.at' C.1 rfl (C.d hd) hl q) r
theorem s_aloadN (pc' : Nat) (C : Cx tabs a0 Z own nm code ml ret p s m meth c) (X : St p l e R s m args below meth c n0 T h k n) {i : Fin 4} {v : Value} (hd : decode code pc = .ok (.aload_n i, 1)) (hl : ls[i.val]? = some (.val v)) (hv : v.isRef = true) (r : Run p e below n0 Q G m T pc' ls (v :: st)) (hp : pc + 1 = pc' := by rfl) : Run p e below n0 Q G m T pc ls st := by
  subst hp
  exact Run.step (fun t q => XS.aloadN X.at' C.1 rfl (C.d hd) hl hv q) r
theorem s_aload (pc' : Nat) (C : Cx tabs a0 Z own nm code ml ret p s m meth c) (X : St p l e R s m args below meth c n0 T h k n) {i : Nat} {v : Value} (hd : decode code pc = .ok (.aload i, 2)) (hl : ls[i]? = some (.val v)) (hv : v.isRef = true) (r : Run p e below n0 Q G m T pc' ls (v :: st)) (hp : pc + 2 = pc' := by rfl) : Run p e below n0 Q G m T pc ls st := by
  subst hp
  exact Run.step (fun t q => XS.aload X.at' C.1 rfl (C.d hd) hl hv q) r
theorem s_istoreN (pc' : Nat) (C : Cx tabs a0 Z own nm code ml ret p s m meth c) (X : St p l e R s m args below meth c n0 T h k n) {i : Fin 4} {v : Int32} {l' : Array Slot} (hd : decode code pc = .ok (.istore_n i, 1)) (hl : storeLocals ls i.val (.int v) = some l') (r : Run p e below n0 Q G m T pc' l' st) (hp : pc + 1 = pc' := by rfl) : Run p e below n0 Q G m T pc ls (.int v :: st) := by
  subst hp
  exact Run.step (fun t q => XS.istoreN X.at' C.1 rfl (C.d hd) rfl hl q) r
theorem s_istore (pc' : Nat) (C : Cx tabs a0 Z own nm code ml ret p s m meth c) (X : St p l e R s m args below meth c n0 T h k n) {i : Nat} {v : Int32} {l' : Array Slot} (hd : decode code pc = .ok (.istore i, 2)) (hl : storeLocals ls i (.int v) = some l') (r : Run p e below n0 Q G m T pc' l' st) (hp : pc + 2 = pc' := by rfl) : Run p e below n0 Q G m T pc ls (.int v :: st) := by
  subst hp
  exact Run.step (fun t q => XS.istore X.at' C.1 rfl (C.d hd) rfl hl q) r
theorem s_astoreN (pc' : Nat) (C : Cx tabs a0 Z own nm code ml ret p s m meth c) (X : St p l e R s m args below meth c n0 T h k n) {i : Fin 4} {v : Value} {l' : Array Slot} (hd : decode code pc = .ok (.astore_n i, 1)) (hv : v.isRef = true) (hl : storeLocals ls i.val v = some l') (r : Run p e below n0 Q G m T pc' l' st) (hp : pc + 1 = pc' := by rfl) : Run p e below n0 Q G m T pc ls (v :: st) := by
  subst hp
  exact Run.step (fun t q => XS.astoreN X.at' C.1 rfl (C.d hd) rfl hv hl q) r
theorem s_astore (pc' : Nat) (C : Cx tabs a0 Z own nm code ml ret p s m meth c) (X : St p l e R s m args below meth c n0 T h k n) {i : Nat} {v : Value} {l' : Array Slot} (hd : decode code pc = .ok (.astore i, 2)) (hv : v.isRef = true) (hl : storeLocals ls i v = some l') (r : Run p e below n0 Q G m T pc' l' st) (hp : pc + 2 = pc' := by rfl) : Run p e below n0 Q G m T pc ls (v :: st) := by
  subst hp
  exact Run.step (fun t q => XS.astore X.at' C.1 rfl (C.d hd) rfl hv hl q) r
theorem s_iconst (pc' : Nat) (C : Cx tabs a0 Z own nm code ml ret p s m meth c) (X : St p l e R s m args below meth c n0 T h k n) {i : Int} {z : Int32} (hd : decode code pc = .ok (.iconst i, 1)) (hz : Int32.ofInt i = z) (r : Run p e below n0 Q G m T pc' ls (.int z :: st)) (hp : pc + 1 = pc' := by rfl) : Run p e below n0 Q G m T pc ls st := by
  subst hp
  exact Run.step (fun t q => XS.iconst X.at' C.1 rfl (C.d hd) (by rw [hz]; exact q)) r
theorem s_bipush (pc' : Nat) (C : Cx tabs a0 Z own nm code ml ret p s m meth c) (X : St p l e R s m args below meth c n0 T h k n) {i : Int} {z : Int32} (hd : decode code pc = .ok (.bipush i, 2)) (hz : (Int8.ofInt i).toInt32 = z) (r : Run p e below n0 Q G m T pc' ls (.int z :: st)) (hp : pc + 2 = pc' := by rfl) : Run p e below n0 Q G m T pc ls st := by
  subst hp
  exact Run.step (fun t q => XS.bipush X.at' C.1 rfl (C.d hd) (by rw [hz]; exact q)) r
theorem s_iadd (pc' : Nat) (C : Cx tabs a0 Z own nm code ml ret p s m meth c) (X : St p l e R s m args below meth c n0 T h k n) {x y : Int32} (hd : decode code pc = .ok (.iadd, 1)) (r : Run p e below n0 Q G m T pc' ls (.int (x + y) :: st)) (hp : pc + 1 = pc' := by rfl) : Run p e below n0 Q G m T pc ls (.int y :: .int x :: st) := by
  subst hp
  exact Run.step (fun t q => XS.iadd X.at' C.1 rfl (C.d hd) rfl q) r
theorem s_isub (pc' : Nat) (C : Cx tabs a0 Z own nm code ml ret p s m meth c) (X : St p l e R s m args below meth c n0 T h k n) {x y : Int32} (hd : decode code pc = .ok (.isub, 1)) (r : Run p e below n0 Q G m T pc' ls (.int (x - y) :: st)) (hp : pc + 1 = pc' := by rfl) : Run p e below n0 Q G m T pc ls (.int y :: .int x :: st) := by
  subst hp
  exact Run.step (fun t q => XS.isub X.at' C.1 rfl (C.d hd) rfl q) r
theorem s_iand (pc' : Nat) (C : Cx tabs a0 Z own nm code ml ret p s m meth c) (X : St p l e R s m args below meth c n0 T h k n) {x y : Int32} (hd : decode code pc = .ok (.iand, 1)) (r : Run p e below n0 Q G m T pc' ls (.int (x &&& y) :: st)) (hp : pc + 1 = pc' := by rfl) : Run p e below n0 Q G m T pc ls (.int y :: .int x :: st) := by
  subst hp
  exact Run.step (fun t q => XS.iand X.at' C.1 rfl (C.d hd) rfl q) r
theorem s_iushr (pc' : Nat) (C : Cx tabs a0 Z own nm code ml ret p s m meth c) (X : St p l e R s m args below meth c n0 T h k n) {x y : Int32} (hd : decode code pc = .ok (.iushr, 1)) (r : Run p e below n0 Q G m T pc' ls (.int ((x.toUInt32 >>> (y &&& 31).toUInt32).toInt32) :: st)) (hp : pc + 1 = pc' := by rfl) : Run p e below n0 Q G m T pc ls (.int y :: .int x :: st) := by
  subst hp
  exact Run.step (fun t q => XT.iushr X.at' C.1 rfl (C.d hd) rfl q) r
theorem s_irem (pc' : Nat) (C : Cx tabs a0 Z own nm code ml ret p s m meth c) (X : St p l e R s m args below meth c n0 T h k n) {x y : Int32} (hd : decode code pc = .ok (.irem, 1)) (hy : y ≠ 0) (r : Run p e below n0 Q G m T pc' ls (.int (x % y) :: st)) (hp : pc + 1 = pc' := by rfl) : Run p e below n0 Q G m T pc ls (.int y :: .int x :: st) := by
  subst hp
  exact Run.step (fun t q => XS.irem X.at' C.1 rfl (C.d hd) rfl hy (by rw [show x - x / y * y = x % y from irem_eq_mod x y]; exact q)) r
theorem s_dup (pc' : Nat) (C : Cx tabs a0 Z own nm code ml ret p s m meth c) (X : St p l e R s m args below meth c n0 T h k n) {v : Value} (hd : decode code pc = .ok (.dup, 1)) (hc : v.category = 1) (r : Run p e below n0 Q G m T pc' ls (v :: v :: st)) (hp : pc + 1 = pc' := by rfl) : Run p e below n0 Q G m T pc ls (v :: st) := by
  subst hp
  exact Run.step (fun t q => XS.dup X.at' C.1 rfl (C.d hd) rfl hc q) r
theorem s_goto (pc' : Nat) (C : Cx tabs a0 Z own nm code ml ret p s m meth c) (X : St p l e R s m args below meth c n0 T h k n) {o : Int} (hd : decode code pc = .ok (.goto o, 3)) (r : Run p e below n0 Q G m T pc' ls st) (hp : 0 ≤ (pc : Int) + o ∧ ((pc : Int) + o).toNat = pc' := by decide) : Run p e below n0 Q G m T pc ls st := by
  exact Run.step (fun t q => XS.goto X.at' C.1 rfl rfl (C.d hd) hp.1 hp.2 q) r
theorem s_icmp_lt (pY pN : Nat) (C : Cx tabs a0 Z own nm code ml ret p s m meth c) (X : St p l e R s m args below meth c n0 T h k n) {x y : Int32} {o : Int} (hd : decode code pc = .ok (.if_icmp .lt o, 3)) (ry : x < y → Run p e below n0 Q G m T pY ls st) (rn : ¬ x < y → Run p e below n0 Q G m T pN ls st) (hp : 0 ≤ (pc : Int) + o ∧ ((pc : Int) + o).toNat = pY ∧ pc + 3 = pN := by decide) : Run p e below n0 Q G m T pc ls (.int y :: .int x :: st) := by
  by_cases g : x < y
  · exact Run.step (fun t q => XS.icmpYes X.at' C.1 rfl rfl (C.d hd) rfl (tlt g).1 hp.1 hp.2.1 q) (ry g)
  · obtain rfl := hp.2.2
    exact Run.step (fun t q => XS.icmpNo X.at' C.1 rfl (C.d hd) rfl (flt g).1 q) (rn g)
theorem s_icmp_ge (pY pN : Nat) (C : Cx tabs a0 Z own nm code ml ret p s m meth c) (X : St p l e R s m args below meth c n0 T h k n) {x y : Int32} {o : Int} (hd : decode code pc = .ok (.if_icmp .ge o, 3)) (ry : ¬ x < y → Run p e below n0 Q G m T pY ls st) (rn : x < y → Run p e below n0 Q G m T pN ls st) (hp : 0 ≤ (pc : Int) + o ∧ ((pc : Int) + o).toNat = pY ∧ pc + 3 = pN := by decide) : Run p e below n0 Q G m T pc ls (.int y :: .int x :: st) := by
  by_cases g : x < y
  · obtain rfl := hp.2.2
    exact Run.step (fun t q => XS.icmpNo X.at' C.1 rfl (C.d hd) rfl (tlt g).2.1 q) (rn g)
  · exact Run.step (fun t q => XS.icmpYes X.at' C.1 rfl rfl (C.d hd) rfl (flt g).2.1 hp.1 hp.2.1 q) (ry g)
theorem s_icmp_gt (pY pN : Nat) (C : Cx tabs a0 Z own nm code ml ret p s m meth c) (X : St p l e R s m args below meth c n0 T h k n) {x y : Int32} {o : Int} (hd : decode code pc = .ok (.if_icmp .gt o, 3)) (ry : y < x → Run p e below n0 Q G m T pY ls st) (rn : ¬ y < x → Run p e below n0 Q G m T pN ls st) (hp : 0 ≤ (pc : Int) + o ∧ ((pc : Int) + o).toNat = pY ∧ pc + 3 = pN := by decide) : Run p e below n0 Q G m T pc ls (.int y :: .int x :: st) := by
  by_cases g : y < x
  · exact Run.step (fun t q => XS.icmpYes X.at' C.1 rfl rfl (C.d hd) rfl (tlt g).2.2.1 hp.1 hp.2.1 q) (ry g)
  · obtain rfl := hp.2.2
    exact Run.step (fun t q => XS.icmpNo X.at' C.1 rfl (C.d hd) rfl (flt g).2.2.1 q) (rn g)
theorem s_icmp_le (pY pN : Nat) (C : Cx tabs a0 Z own nm code ml ret p s m meth c) (X : St p l e R s m args below meth c n0 T h k n) {x y : Int32} {o : Int} (hd : decode code pc = .ok (.if_icmp .le o, 3)) (ry : ¬ y < x → Run p e below n0 Q G m T pY ls st) (rn : y < x → Run p e below n0 Q G m T pN ls st) (hp : 0 ≤ (pc : Int) + o ∧ ((pc : Int) + o).toNat = pY ∧ pc + 3 = pN := by decide) : Run p e below n0 Q G m T pc ls (.int y :: .int x :: st) := by
  by_cases g : y < x
  · obtain rfl := hp.2.2
    exact Run.step (fun t q => XS.icmpNo X.at' C.1 rfl (C.d hd) rfl (tlt g).2.2.2 q) (rn g)
  · exact Run.step (fun t q => XS.icmpYes X.at' C.1 rfl rfl (C.d hd) rfl (flt g).2.2.2 hp.1 hp.2.1 q) (ry g)
theorem s_icmp_eq (pY pN : Nat) (C : Cx tabs a0 Z own nm code ml ret p s m meth c) (X : St p l e R s m args below meth c n0 T h k n) {x y : Int32} {o : Int} (hd : decode code pc = .ok (.if_icmp .eq o, 3)) (ry : x = y → Run p e below n0 Q G m T pY ls st) (rn : ¬ x = y → Run p e below n0 Q G m T pN ls st) (hp : 0 ≤ (pc : Int) + o ∧ ((pc : Int) + o).toNat = pY ∧ pc + 3 = pN := by decide) : Run p e below n0 Q G m T pc ls (.int y :: .int x :: st) := by
  by_cases g : x = y
  · exact Run.step (fun t q => XS.icmpYes X.at' C.1 rfl rfl (C.d hd) rfl (teq g).1 hp.1 hp.2.1 q) (ry g)
  · obtain rfl := hp.2.2
    exact Run.step (fun t q => XS.icmpNo X.at' C.1 rfl (C.d hd) rfl (feq g).1 q) (rn g)
theorem s_icmp_ne (pY pN : Nat) (C : Cx tabs a0 Z own nm code ml ret p s m meth c) (X : St p l e R s m args below meth c n0 T h k n) {x y : Int32} {o : Int} (hd : decode code pc = .ok (.if_icmp .ne o, 3)) (ry : ¬ x = y → Run p e below n0 Q G m T pY ls st) (rn : x = y → Run p e below n0 Q G m T pN ls st) (hp : 0 ≤ (pc : Int) + o ∧ ((pc : Int) + o).toNat = pY ∧ pc + 3 = pN := by decide) : Run p e below n0 Q G m T pc ls (.int y :: .int x :: st) := by
  by_cases g : x = y
  · obtain rfl := hp.2.2
    exact Run.step (fun t q => XS.icmpNo X.at' C.1 rfl (C.d hd) rfl (teq g).2 q) (rn g)
  · exact Run.step (fun t q => XS.icmpYes X.at' C.1 rfl rfl (C.d hd) rfl (feq g).2 hp.1 hp.2.1 q) (ry g)
theorem s_if_ne (pY pN : Nat) (C : Cx tabs a0 Z own nm code ml ret p s m meth c) (X : St p l e R s m args below meth c n0 T h k n) {x : Int32} {o : Int} (hd : decode code pc = .ok (.ifCond .ne o, 3)) (ry : ¬ x = (0 : Int32) → Run p e below n0 Q G m T pY ls st) (rn : x = (0 : Int32) → Run p e below n0 Q G m T pN ls st) (hp : 0 ≤ (pc : Int) + o ∧ ((pc : Int) + o).toNat = pY ∧ pc + 3 = pN := by decide) : Run p e below n0 Q G m T pc ls (.int x :: st) := by
  by_cases g : x = (0 : Int32)
  · obtain rfl := hp.2.2
    exact Run.step (fun t q => XS.ifNo X.at' C.1 rfl (C.d hd) rfl ((if0 _ _).trans (teq g).2) q) (rn g)
  · exact Run.step (fun t q => XS.ifYes X.at' C.1 rfl rfl (C.d hd) rfl ((if0 _ _).trans (feq g).2) hp.1 hp.2.1 q) (ry g)
theorem s_ldcInt (pc' : Nat) (C : Cx tabs a0 Z own nm code ml ret p s m meth c) (X : St p l e R s m args below meth c n0 T h k n) {idx : Nat} {z : Int32} (hd : decode code pc = .ok (.ldc idx, 2)) (w : Jvm.Cond.constant own idx z ∈ tabs) (r : Run p e below n0 Q G m T pc' ls (.int z :: st)) (hp : pc + 2 = pc' := by rfl) : Run p e below n0 Q G m T pc ls st := by
  subst hp
  obtain ⟨_, Y, -⟩ := X
  exact Run.step (Y.ldcInt C.1 C.2.2.2.2.1 (mvT C.2.1 (C.w w)) (g := mkF m pc ls st) rfl (C.d hd)) r
theorem FE_mono {kc ks : Nat} (hk : k ≤ kc) (hn : n ≤ ks) : ∀ (v : Option Value) (t : State) (L : List Loc), FrameEnd s (.returned v) t L k n → FrameEnd s (.returned v) t L kc ks := fun v t L h => ⟨h.1, h.2.1, h.2.2.mono hk hn⟩
theorem Run.done (C : Cx tabs a0 Z own nm code ml ret p s m meth c) (X : St p l e R s m args below meth c n0 T h k n) {v : Option Value} (hv : ret = none → v = none) (hG : ∀ (v : Option Value) (t : State) (L : List Loc), FrameEnd s (.returned v) t L k n → G (.returned v) t L) (q : Q v h) (f : ∀ locs fs, Stand p l e R s m args below meth c T locs k n → (∀ (f : JFrame) (acts : List Action), f.method = m → f.locked = none → f.entered = [] → (doReturn e (T.setTop f) acts v).1 = T.setFrames fs) → Steps p.tables e below (T.setTop (mkF m pc ls st)) (T.setFrames fs)) : Run p e below n0 Q G m T pc ls st := by
  obtain ⟨locs, Y, rfl, N, -⟩ := X
  obtain ⟨fs, hr, hrun, hended, hW, hsame⟩ := Y.leave (v := v) (by rw [C.2.2.2.2.2.1]; exact hv) C.2.2.2.2.2.2.1
  exact ⟨_, _, f locs fs Y hr, hrun, hended, _, _, rfl, ⟨q, N⟩, hG _ _ _ ⟨⟨_, rfl⟩, hW, hsame⟩⟩
theorem s_ireturn (C : Cx tabs a0 Z own nm code ml ret p s m meth c) (X : St p l e R s m args below meth c n0 T h k n) {z : Int32} (hd : decode code pc = .ok (.ireturn, 1)) (hr : ret = some .int) (q : Q (some (.int z)) h) (hG : ∀ (v : Option Value) (t : State) (L : List Loc), FrameEnd s (.returned v) t L k n → G (.returned v) t L := by exact FE_mono (by decide) (by decide)) : Run p e below n0 Q G m T pc ls (.int z :: st) := by
  subst hr
  refine Run.done C X (fun w => by cases w) hG q (fun locs fs Y hr => ?_)
  exact retOut Y C.1 C.2.2.2.2.2.1 (t := .int) rfl (Or.inl ⟨rfl, Or.inl rfl, _, rfl⟩) (C.d hd) hr
theorem s_nreturn (C : Cx tabs a0 Z own nm code ml ret p s m meth c) (X : St p l e R s m args below meth c n0 T h k n) {z z' : Int32} {t : FieldType} (hd : decode code pc = .ok (.ireturn, 1)) (hr : ret = some t) (ht : t = .boolean ∨ t = .byte ∨ t = .char ∨ t = .short) (hz : nar t z = z') (q : Q (some (.int z')) h) (hG : ∀ (v : Option Value) (t : State) (L : List Loc), FrameEnd s (.returned v) t L k n → G (.returned v) t L := by exact FE_mono (by decide) (by decide)) : Run p e below n0 Q G m T pc ls (.int z :: st) := by
  subst hr hz
  refine Run.done C X (fun w => by cases w) hG q (fun locs fs Y hr => ?_)
  exact retN Y C.1 C.2.2.2.2.2.1 ht (C.d hd) hr
theorem s_new (pc' : Nat) (C : Cx tabs a0 Z own nm code ml ret p s m meth c) (X : St p l e R s m args below meth c n0 T h k n) {K : String} {idx nn : Nat} (hd : decode code pc = .ok (.new idx, 3)) (w1 : Jvm.Cond.classLink own idx K ∈ tabs) (w2 : Jvm.Cond.instantiable K nn ∈ tabs) (w3 : Jvm.Cond.initialized K ∈ tabs)
    (r : ∀ T' h' b, h.size = b → St p l e R s m args below meth c n0 T' h' (k + 1) (n + nn) → Ext h h' → Exa Z h' b K → (∀ {O fn d : String} {ty : FieldType}, Laid Z a0 K O fn d → parseFieldDescriptor d = some ty → Fld Z h' b O fn d (defaultValue ty)) → n0 ≤ b → Run p e below n0 Q G m T' pc' ls (.ref b :: st)) (hp : pc + 3 = pc' := by rfl) (hc : k + 1 ≤ R.cells ∧ n + nn ≤ R.slots := by decide) : Run p e below n0 Q G m T pc ls st := by
  subst hp
  have hz := X.sz
  obtain ⟨locs, Y, eT, N, q⟩ := X
  obtain ⟨T', h', Y', e', E, A, D, -, f⟩ := newO Y C.1 C.2.1 C.2.2.2.2.1 (C.w w1) (C.w w2) (C.w w3) eT (g := mkF m pc ls st) rfl (C.d hd) hc.1 hc.2
  exact Run.step f (r T' h' _ rfl ⟨locs, Y', e', N, q⟩ E A D hz)
theorem s_newarray (pc' : Nat) (cap : Nat) (C : Cx tabs a0 Z own nm code ml ret p s m meth c) (X : St p l e R s m args below meth c n0 T h k n) {aty : ArrayType} {z : Int32} (hd : decode code pc = .ok (.newarray aty, 2)) (w : Jvm.Cond.arrayClass (newarray.typeOf aty) ∈ tabs) (hz : ¬ z < 0) (hcap : z.toNatClampNeg ≤ cap)
    (r : ∀ T' h' b kA, h.size = b → St p l e R s m args below meth c n0 T' h' (k + 1) (n + cap) → Ext h h' → Arv Z h' b kA (newarray.typeOf aty) z [] (defaultValue (newarray.typeOf aty)) → n0 ≤ b → Run p e below n0 Q G m T' pc' ls (.ref b :: st)) (hp : pc + 2 = pc' := by rfl) (hc : cap * 8 ≤ 536870912 ∧ k + 1 ≤ R.cells ∧ n + cap ≤ R.slots := by decide) : Run p e below n0 Q G m T pc ls (.int z :: st) := by
  subst hp
  have hs := X.sz
  obtain ⟨locs, Y, eT, N, q⟩ := X
  obtain ⟨T', h', kA, Y', e', E, A, f⟩ := newP Y C.1 C.2.1 (C.w w) eT (g := mkF m pc ls (.int z :: st)) rfl (C.d hd) rfl hz hcap hc.1 hc.2.1 hc.2.2
  exact Run.step f (r T' h' _ kA rfl ⟨locs, Y', e', N, q⟩ E (Arv.new A hz) hs)
theorem s_iastore (pc' : Nat) (i : Nat) (C : Cx tabs a0 Z own nm code ml ret p s m meth c) (X : St p l e R s m args below meth c n0 T h k n) {a : Addr} {kA : ClassId} {z j : Int32} {x : Int32} {vs : List Value} {dv : Value} (hd : decode code pc = .ok (.iastore, 1)) (F : Arv Z h a kA .int z vs dv) (ge : n0 ≤ a) (hj : ¬ j < 0 ∧ j < z) (hi : j.toNatClampNeg = i) (hl : i < vs.length)
    (r : ∀ T' h', St p l e R s m args below meth c n0 T' h' k n → Wr h h' a j.toNatClampNeg (.int x) → Arv Z h' a kA .int z (vs.set i (.int x)) dv → Run p e below n0 Q G m T' pc' ls st) (hp : pc + 1 = pc' := by rfl) : Run p e below n0 Q G m T pc ls (.int x :: .int j :: .ref a :: st) := by
  subst hp
  obtain ⟨locs, Y, eT, N, q⟩ := X
  obtain ⟨cl, A, q1, S, q3, H, G⟩ := F
  obtain ⟨T', h', Y', e', W, f⟩ := stI Y C.1 C.2.1 eT A (j := j) (inb_of S hj) (g := mkF m pc ls (.int x :: .int j :: .ref a :: st)) rfl rfl (C.d hd)
  exact Run.step f (r T' h' ⟨_, Y', e', Fr.snoc Y' N ge, q⟩ W (Arv.set A q1 S q3 H G (rfl) W i hi hl))
theorem s_iaload (pc' : Nat) (C : Cx tabs a0 Z own nm code ml ret p s m meth c) (X : St p l e R s m args below meth c n0 T h k n) {a : Addr} {kA : ClassId} {z j : Int32} {v : Value} {vs : List Value} {dv : Value} (hd : decode code pc = .ok (.iaload, 1)) (F : Arv Z h a kA .int z vs dv) (hj : ¬ j < 0 ∧ j < z) (hv : vs.getD j.toNatClampNeg dv = v)
    (r : Run p e below n0 Q G m T pc' ls (v :: st)) (hp : pc + 1 = pc' := by rfl) : Run p e below n0 Q G m T pc ls (.int j :: .ref a :: st) := by
  subst hp
  obtain ⟨locs, Y, eT, N, q⟩ := X
  obtain ⟨cl, A, q1, S, q3, H, G⟩ := F
  exact Run.step (fun t q => Y.iaload C.1 (j := j) (v := v) (by rw [eT]; exact A.1) (State.isArrayOf_alike C.2.1.alike A.2.1) A.2.2 (inb_of S hj) (H.at (inb_of S hj) hv) (g := mkF m pc ls (.int j :: .ref a :: st)) rfl rfl (C.d hd) t q) r
theorem s_arraylength (pc' : Nat) (C : Cx tabs a0 Z own nm code ml ret p s m meth c) (X : St p l e R s m args below meth c n0 T h k n) {a : Addr} {kA : ClassId} {z : Int32} {ty : FieldType} {vs : List Value} {dv : Value} (hd : decode code pc = .ok (.arraylength, 1)) (F : Arv Z h a kA ty z vs dv)
    (r : Run p e below n0 Q G m T pc' ls (.int z :: st)) (hp : pc + 1 = pc' := by rfl) : Run p e below n0 Q G m T pc ls (.ref a :: st) := by
  subst hp
  obtain ⟨locs, Y, eT, N, q⟩ := X
  obtain ⟨cl, A, q1, S, q3, H, G⟩ := F
  rw [← len_of S q3] at r
  exact Run.step (fun t q => Y.arraylength C.1 (by rw [eT]; exact A.1) (State.isArrayOf_alike C.2.1.alike A.2.1) (g := mkF m pc ls (.ref a :: st)) rfl rfl (C.d hd) t q) r
/-- a method's contract at given arguments and a given heap -/
def Met (l : Launch) (Z : State) (y : MethodName) (bytes : ByteArray) (ml : Nat) (ret : Option FieldType) (rm : Room) (ws : List Jvm.Cond) (as : Array Value) (h : Heap) (n0 : Nat) (Q : Option Value → Heap → Prop) : Prop :=
  MetFree l y (head1 (Jvm.Cond.code y bytes ml ret :: ws) rm) (fun a U => a = as ∧ Z.Warmed39 U.vm ∧ U.heap = h) (fun _ _ _ _ _ => True) (fun _ U o U' => ∃ v L, o = .returned v ∧ (Q v U'.heap ∧ Fr n0 L) ∧ FrameEnd U o U' L rm.cells rm.slots)
theorem Met.mk {y : MethodName} {rm : Room} {ws : List Jvm.Cond} {as : Array Value} {ls0 : Array Slot} (hpl : plainFor y = true) (hw : ∀ d ∈ tabs, d.before a0 Z = true) (hn : n0 ≤ h.size) (hef : ∀ m, entryFrame m as ml = mkF m 0 ls0 [])
    (body : ∀ p e s m below meth c T, Cx tabs a0 Z y.cls y.name code ml ret p s m meth c → St p l e rm s m as below meth c n0 T h 0 0 → Run p e below n0 Q (fun o t L => FrameEnd s o t L rm.cells rm.slots) m T 0 ls0 []) : Met l Z y code ml ret rm ws as h n0 Q := by
  refine MetFree.of_bodySF hpl hisR ?_
  intro p e s m args below meth c s₁ Bd hml0 hP hK
  obtain ⟨rfl, hZ, rfl⟩ := hP
  have X0 : Stand p l e rm s m args below meth c s₁ [] 0 0 := Stand.of_body Bd
  have e0 : s₁.heap = s.heap := by rw [Bd.state]; rfl
  have r := body p e s m below meth c s₁ ⟨Bd.exec, hZ, Bd.bytes, hml0, findClass_of_methodNamed Bd.named, Bd.returns, Bd.notSynchronized, (name_of_methodNamed Bd.named Bd.method).1, hw⟩ ⟨[], X0, e0, Fr.nil n0, hn⟩
  obtain ⟨s₂, o, h1, h2⟩ := r
  exact ⟨s₂, o, castTop (hef m) h1, h2⟩
theorem s_callS (pc' : Nat) (argsL rest : List Value) (W : Nat) (C : Cx tabs a0 Z own nm code ml ret p s m meth c) (X : St p l e R s m args below meth c n0 T h k n) {idx : Nat} {y : MethodName} {bytes : ByteArray} {maxL : Nat} {rt : Option FieldType} {rm : Room} {stk : List Value} {Q1 : Option Value → Heap → Prop} (hd : decode code pc = .ok (.invokestatic idx, 3)) (w1 : Jvm.Cond.methodLink own idx y ∈ tabs) (w2 : Jvm.Cond.static y ∈ tabs) (w3 : Jvm.Cond.initialized y.cls ∈ tabs) (w4 : Jvm.Cond.code y bytes maxL rt ∈ tabs)
    (M : Met l Z y bytes maxL rt rm [] argsL.toArray h n0 Q1) (hlen : ∀ sig, parseMethodDescriptor y.desc = some sig → argsL.length = sig.parameters.length) (hs : stk = argsL.reverse ++ rest) (hsz : ls.size = ml) (hW : (rest.map fun v => v.category).sum = W)
    (r : ∀ T' v h', St p l e R s m args below meth c n0 T' h' (k + rm.cells) (n + rm.slots) → Q1 v h' → Run p e below n0 Q G m T' pc' ls (v.toList ++ rest)) (hp : pc + 3 = pc' := by rfl) (hr : rm.frames + 1 ≤ R.frames ∧ W + (maxL + 11) + rm.locals ≤ R.locals ∧ k + rm.cells ≤ R.cells ∧ n + rm.slots ≤ R.slots := by decide) (hy : y.cls ≠ "java/lang/invoke/MethodHandle" ∧ y.cls ≠ "java/lang/invoke/VarHandle" := by decide) : Run p e below n0 Q G m T pc ls stk := by
  subst hp hs
  obtain ⟨locs, Y, eT, N, q⟩ := X
  obtain ⟨v, _, ⟨T1, L1, k1, n1⟩, -, Y', ⟨Lc, hQ, l1, y1, z1⟩, f⟩ := Jvm.LawKit.callS Y C.1 C.2.2.2.2.1 (mvT C.2.1 (C.w w1)) (mvT C.2.1 (C.w w2)) (mvT C.2.1 (C.w w3)) (mvT C.2.1 (C.w w4)) hy (backOf (W := W) (Q := fun v h L => Q1 v h ∧ Fr n0 L) M C.2.1 (C.w w4) (C.w w3) hr.1 hr.2.1) (g := mkF m pc ls (argsL.reverse ++ rest)) rfl (hsz.trans C.2.2.2.1.symm) (argsL := argsL) (rest := rest) hlen rfl (by show 2 * 0 + _ ≤ _; rw [hW]; omega) (C.d hd) (fun _ _ => ⟨rfl, eT, hr.2.2.1, hr.2.2.2⟩)
  dsimp only [Pt.U, Pt.locs, Pt.cells, Pt.slots] at Y' l1 y1 z1 f hQ
  subst l1 y1 z1
  exact Run.step f (r T1 v _ ⟨_, Y', rfl, Fr.app N hQ.2, q⟩ hQ.1)
end A
end Jvm.OwnK
namespace Jvm.Pilot.@@N@@
open Jvm Jvm.ClassFile Sem Op Lib Jvm.Free Jvm.Stand Jvm.LawKit Jvm.RoadKit Bundle Jvm.OwnK Jvm.Pilot.@@N@@.Jvm.D
theorem pn_com_example_eventloom_eventloom_io_XmlOutputCanCarryPinLaw : plainName "com/example/eventloom/eventloom/io/XmlOutputCanCarryPinLaw" = true := by first | (simp [plainName, overriddenIn]; done) | decide +kernel
theorem d1_0 : decode method_2_code 0 = .ok (.bipush 14, 2) := by decide +kernel
theorem kc_bipush_14 : (Int8.ofInt 14).toInt32 = (14 : Int32) := by decide +kernel
theorem d1_2 : decode method_2_code 2 = .ok (.newarray .int, 2) := by decide +kernel
theorem d1_4 : decode method_2_code 4 = .ok (.dup, 1) := by decide +kernel
theorem d1_5 : decode method_2_code 5 = .ok (.iconst 0, 1) := by decide +kernel
theorem kc_iconst_0 : Int32.ofInt 0 = (0 : Int32) := by decide +kernel
theorem d1_6 : decode method_2_code 6 = .ok (.iconst 0, 1) := by decide +kernel
theorem d1_7 : decode method_2_code 7 = .ok (.iastore, 1) := by decide +kernel
theorem d1_8 : decode method_2_code 8 = .ok (.dup, 1) := by decide +kernel
theorem d1_9 : decode method_2_code 9 = .ok (.iconst 1, 1) := by decide +kernel
theorem kc_iconst_1 : Int32.ofInt 1 = (1 : Int32) := by decide +kernel
theorem d1_10 : decode method_2_code 10 = .ok (.bipush 9, 2) := by decide +kernel
theorem kc_bipush_9 : (Int8.ofInt 9).toInt32 = (9 : Int32) := by decide +kernel
theorem d1_12 : decode method_2_code 12 = .ok (.iastore, 1) := by decide +kernel
theorem d1_13 : decode method_2_code 13 = .ok (.dup, 1) := by decide +kernel
theorem d1_14 : decode method_2_code 14 = .ok (.iconst 2, 1) := by decide +kernel
theorem kc_iconst_2 : Int32.ofInt 2 = (2 : Int32) := by decide +kernel
theorem d1_15 : decode method_2_code 15 = .ok (.bipush 10, 2) := by decide +kernel
theorem kc_bipush_10 : (Int8.ofInt 10).toInt32 = (10 : Int32) := by decide +kernel
theorem d1_17 : decode method_2_code 17 = .ok (.iastore, 1) := by decide +kernel
theorem d1_18 : decode method_2_code 18 = .ok (.dup, 1) := by decide +kernel
theorem d1_19 : decode method_2_code 19 = .ok (.iconst 3, 1) := by decide +kernel
theorem kc_iconst_3 : Int32.ofInt 3 = (3 : Int32) := by decide +kernel
theorem d1_20 : decode method_2_code 20 = .ok (.bipush 13, 2) := by decide +kernel
theorem kc_bipush_13 : (Int8.ofInt 13).toInt32 = (13 : Int32) := by decide +kernel
theorem d1_22 : decode method_2_code 22 = .ok (.iastore, 1) := by decide +kernel
theorem d1_23 : decode method_2_code 23 = .ok (.dup, 1) := by decide +kernel
theorem d1_24 : decode method_2_code 24 = .ok (.iconst 4, 1) := by decide +kernel
theorem kc_iconst_4 : Int32.ofInt 4 = (4 : Int32) := by decide +kernel
theorem d1_25 : decode method_2_code 25 = .ok (.bipush 32, 2) := by decide +kernel
theorem kc_bipush_32 : (Int8.ofInt 32).toInt32 = (32 : Int32) := by decide +kernel
theorem d1_27 : decode method_2_code 27 = .ok (.iastore, 1) := by decide +kernel
theorem d1_28 : decode method_2_code 28 = .ok (.dup, 1) := by decide +kernel
theorem d1_29 : decode method_2_code 29 = .ok (.iconst 5, 1) := by decide +kernel
theorem kc_iconst_5 : Int32.ofInt 5 = (5 : Int32) := by decide +kernel
theorem d1_30 : decode method_2_code 30 = .ok (.ldc 7, 2) := by decide +kernel
theorem d1_32 : decode method_2_code 32 = .ok (.iastore, 1) := by decide +kernel
theorem d1_33 : decode method_2_code 33 = .ok (.dup, 1) := by decide +kernel
theorem d1_34 : decode method_2_code 34 = .ok (.bipush 6, 2) := by decide +kernel
theorem kc_bipush_6 : (Int8.ofInt 6).toInt32 = (6 : Int32) := by decide +kernel
theorem d1_36 : decode method_2_code 36 = .ok (.ldc 8, 2) := by decide +kernel
theorem d1_38 : decode method_2_code 38 = .ok (.iastore, 1) := by decide +kernel
theorem d1_39 : decode method_2_code 39 = .ok (.dup, 1) := by decide +kernel
theorem d1_40 : decode method_2_code 40 = .ok (.bipush 7, 2) := by decide +kernel
theorem kc_bipush_7 : (Int8.ofInt 7).toInt32 = (7 : Int32) := by decide +kernel
theorem d1_42 : decode method_2_code 42 = .ok (.ldc 9, 2) := by decide +kernel
theorem d1_44 : decode method_2_code 44 = .ok (.iastore, 1) := by decide +kernel
theorem d1_45 : decode method_2_code 45 = .ok (.dup, 1) := by decide +kernel
theorem d1_46 : decode method_2_code 46 = .ok (.bipush 8, 2) := by decide +kernel
theorem kc_bipush_8 : (Int8.ofInt 8).toInt32 = (8 : Int32) := by decide +kernel
theorem d1_48 : decode method_2_code 48 = .ok (.ldc 10, 2) := by decide +kernel
theorem d1_50 : decode method_2_code 50 = .ok (.iastore, 1) := by decide +kernel
theorem d1_51 : decode method_2_code 51 = .ok (.dup, 1) := by decide +kernel
theorem d1_52 : decode method_2_code 52 = .ok (.bipush 9, 2) := by decide +kernel
theorem d1_54 : decode method_2_code 54 = .ok (.ldc 11, 2) := by decide +kernel
theorem d1_56 : decode method_2_code 56 = .ok (.iastore, 1) := by decide +kernel
theorem d1_57 : decode method_2_code 57 = .ok (.dup, 1) := by decide +kernel
theorem d1_58 : decode method_2_code 58 = .ok (.bipush 10, 2) := by decide +kernel
theorem d1_60 : decode method_2_code 60 = .ok (.ldc 12, 2) := by decide +kernel
theorem d1_62 : decode method_2_code 62 = .ok (.iastore, 1) := by decide +kernel
theorem d1_63 : decode method_2_code 63 = .ok (.dup, 1) := by decide +kernel
theorem d1_64 : decode method_2_code 64 = .ok (.bipush 11, 2) := by decide +kernel
theorem kc_bipush_11 : (Int8.ofInt 11).toInt32 = (11 : Int32) := by decide +kernel
theorem d1_66 : decode method_2_code 66 = .ok (.ldc 13, 2) := by decide +kernel
theorem d1_68 : decode method_2_code 68 = .ok (.iastore, 1) := by decide +kernel
theorem d1_69 : decode method_2_code 69 = .ok (.dup, 1) := by decide +kernel
theorem d1_70 : decode method_2_code 70 = .ok (.bipush 12, 2) := by decide +kernel
theorem kc_bipush_12 : (Int8.ofInt 12).toInt32 = (12 : Int32) := by decide +kernel
theorem d1_72 : decode method_2_code 72 = .ok (.ldc 14, 2) := by decide +kernel
theorem d1_74 : decode method_2_code 74 = .ok (.iastore, 1) := by decide +kernel
theorem d1_75 : decode method_2_code 75 = .ok (.dup, 1) := by decide +kernel
theorem d1_76 : decode method_2_code 76 = .ok (.bipush 13, 2) := by decide +kernel
theorem d1_78 : decode method_2_code 78 = .ok (.ldc 15, 2) := by decide +kernel
theorem d1_80 : decode method_2_code 80 = .ok (.iastore, 1) := by decide +kernel
theorem d1_81 : decode method_2_code 81 = .ok (.astore_n 1, 1) := by decide +kernel
theorem d1_82 : decode method_2_code 82 = .ok (.aload_n 1, 1) := by decide +kernel
theorem d1_83 : decode method_2_code 83 = .ok (.iload_n 0, 1) := by decide +kernel
theorem d1_84 : decode method_2_code 84 = .ok (.ldc 16, 2) := by decide +kernel
theorem d1_86 : decode method_2_code 86 = .ok (.iand, 1) := by decide +kernel
theorem d1_87 : decode method_2_code 87 = .ok (.aload_n 1, 1) := by decide +kernel
theorem d1_88 : decode method_2_code 88 = .ok (.arraylength, 1) := by decide +kernel
theorem d1_89 : decode method_2_code 89 = .ok (.irem, 1) := by decide +kernel
theorem d1_90 : decode method_2_code 90 = .ok (.iaload, 1) := by decide +kernel
theorem d1_91 : decode method_2_code 91 = .ok (.ireturn, 1) := by decide +kernel
theorem d2_0 : decode jdk_29_method_69_code 0 = .ok (.iload_n 0, 1) := by decide +kernel
theorem d2_1 : decode jdk_29_method_69_code 1 = .ok (.iload_n 1, 1) := by decide +kernel
theorem d2_2 : decode jdk_29_method_69_code 2 = .ok (.if_icmp .gt 7, 3) := by decide +kernel
theorem d2_9 : decode jdk_29_method_69_code 9 = .ok (.iload_n 1, 1) := by decide +kernel
theorem d2_10 : decode jdk_29_method_69_code 10 = .ok (.ireturn, 1) := by decide +kernel
theorem d2_5 : decode jdk_29_method_69_code 5 = .ok (.iload_n 0, 1) := by decide +kernel
theorem d2_6 : decode jdk_29_method_69_code 6 = .ok (.goto 4, 3) := by decide +kernel
theorem d3_0 : decode jdk_29_method_65_code 0 = .ok (.iload_n 0, 1) := by decide +kernel
theorem d3_1 : decode jdk_29_method_65_code 1 = .ok (.iload_n 1, 1) := by decide +kernel
theorem d3_2 : decode jdk_29_method_65_code 2 = .ok (.if_icmp .lt 7, 3) := by decide +kernel
theorem d3_9 : decode jdk_29_method_65_code 9 = .ok (.iload_n 1, 1) := by decide +kernel
theorem d3_10 : decode jdk_29_method_65_code 10 = .ok (.ireturn, 1) := by decide +kernel
theorem d3_5 : decode jdk_29_method_65_code 5 = .ok (.iload_n 0, 1) := by decide +kernel
theorem d3_6 : decode jdk_29_method_65_code 6 = .ok (.goto 4, 3) := by decide +kernel
theorem d4_0 : decode method_3_code 0 = .ok (.iload_n 0, 1) := by decide +kernel
theorem d4_1 : decode method_3_code 1 = .ok (.bipush 32, 2) := by decide +kernel
theorem d4_3 : decode method_3_code 3 = .ok (.if_icmp .ge 27, 3) := by decide +kernel
theorem d4_30 : decode method_3_code 30 = .ok (.iload_n 0, 1) := by decide +kernel
theorem d4_31 : decode method_3_code 31 = .ok (.ldc 8, 2) := by decide +kernel
theorem d4_33 : decode method_3_code 33 = .ok (.if_icmp .lt 11, 3) := by decide +kernel
theorem d4_44 : decode method_3_code 44 = .ok (.iload_n 0, 1) := by decide +kernel
theorem d4_45 : decode method_3_code 45 = .ok (.ldc 12, 2) := by decide +kernel
theorem d4_47 : decode method_3_code 47 = .ok (.if_icmp .eq 9, 3) := by decide +kernel
theorem d4_56 : decode method_3_code 56 = .ok (.iconst 1, 1) := by decide +kernel
theorem d4_57 : decode method_3_code 57 = .ok (.goto 4, 3) := by decide +kernel
theorem d4_61 : decode method_3_code 61 = .ok (.ireturn, 1) := by decide +kernel
theorem d4_50 : decode method_3_code 50 = .ok (.iload_n 0, 1) := by decide +kernel
theorem d4_51 : decode method_3_code 51 = .ok (.ldc 13, 2) := by decide +kernel
theorem d4_53 : decode method_3_code 53 = .ok (.if_icmp .ne 7, 3) := by decide +kernel
theorem d4_60 : decode method_3_code 60 = .ok (.iconst 0, 1) := by decide +kernel
theorem d4_36 : decode method_3_code 36 = .ok (.iload_n 0, 1) := by decide +kernel
theorem d4_37 : decode method_3_code 37 = .ok (.ldc 9, 2) := by decide +kernel
theorem d4_39 : decode method_3_code 39 = .ok (.if_icmp .gt 5, 3) := by decide +kernel
theorem d4_42 : decode method_3_code 42 = .ok (.iconst 1, 1) := by decide +kernel
theorem d4_43 : decode method_3_code 43 = .ok (.ireturn, 1) := by decide +kernel
theorem d4_6 : decode method_3_code 6 = .ok (.iload_n 0, 1) := by decide +kernel
theorem d4_7 : decode method_3_code 7 = .ok (.bipush 9, 2) := by decide +kernel
theorem d4_9 : decode method_3_code 9 = .ok (.if_icmp .eq 19, 3) := by decide +kernel
theorem d4_28 : decode method_3_code 28 = .ok (.iconst 0, 1) := by decide +kernel
theorem d4_29 : decode method_3_code 29 = .ok (.ireturn, 1) := by decide +kernel
theorem d4_12 : decode method_3_code 12 = .ok (.iload_n 0, 1) := by decide +kernel
theorem d4_13 : decode method_3_code 13 = .ok (.bipush 10, 2) := by decide +kernel
theorem d4_15 : decode method_3_code 15 = .ok (.if_icmp .eq 13, 3) := by decide +kernel
theorem d4_18 : decode method_3_code 18 = .ok (.iload_n 0, 1) := by decide +kernel
theorem d4_19 : decode method_3_code 19 = .ok (.bipush 13, 2) := by decide +kernel
theorem d4_21 : decode method_3_code 21 = .ok (.if_icmp .eq 7, 3) := by decide +kernel
theorem d4_24 : decode method_3_code 24 = .ok (.iconst 1, 1) := by decide +kernel
theorem d4_25 : decode method_3_code 25 = .ok (.goto 4, 3) := by decide +kernel
theorem pn_com_example_eventloom_eventloom_io_XmlOutput : plainName "com/example/eventloom/eventloom/io/XmlOutput" = true := by first | (simp [plainName, overriddenIn]; done) | decide +kernel
theorem d5_0 : decode prog_65_method_14_code 0 = .ok (.iload_n 0, 1) := by decide +kernel
theorem d5_1 : decode prog_65_method_14_code 1 = .ok (.bipush 9, 2) := by decide +kernel
theorem d5_3 : decode prog_65_method_14_code 3 = .ok (.if_icmp .eq 45, 3) := by decide +kernel
theorem d5_48 : decode prog_65_method_14_code 48 = .ok (.iconst 1, 1) := by decide +kernel
theorem d5_49 : decode prog_65_method_14_code 49 = .ok (.goto 4, 3) := by decide +kernel
theorem d5_53 : decode prog_65_method_14_code 53 = .ok (.ireturn, 1) := by decide +kernel
theorem d5_6 : decode prog_65_method_14_code 6 = .ok (.iload_n 0, 1) := by decide +kernel
theorem d5_7 : decode prog_65_method_14_code 7 = .ok (.bipush 10, 2) := by decide +kernel
theorem d5_9 : decode prog_65_method_14_code 9 = .ok (.if_icmp .eq 39, 3) := by decide +kernel
theorem d5_12 : decode prog_65_method_14_code 12 = .ok (.iload_n 0, 1) := by decide +kernel
theorem d5_13 : decode prog_65_method_14_code 13 = .ok (.bipush 13, 2) := by decide +kernel
theorem d5_15 : decode prog_65_method_14_code 15 = .ok (.if_icmp .eq 33, 3) := by decide +kernel
theorem d5_18 : decode prog_65_method_14_code 18 = .ok (.iload_n 0, 1) := by decide +kernel
theorem d5_19 : decode prog_65_method_14_code 19 = .ok (.bipush 32, 2) := by decide +kernel
theorem d5_21 : decode prog_65_method_14_code 21 = .ok (.if_icmp .lt 9, 3) := by decide +kernel
theorem d5_30 : decode prog_65_method_14_code 30 = .ok (.iload_n 0, 1) := by decide +kernel
theorem d5_31 : decode prog_65_method_14_code 31 = .ok (.ldc 185, 2) := by decide +kernel
theorem d5_33 : decode prog_65_method_14_code 33 = .ok (.if_icmp .lt 9, 3) := by decide +kernel
theorem d5_42 : decode prog_65_method_14_code 42 = .ok (.iload_n 0, 1) := by decide +kernel
theorem d5_43 : decode prog_65_method_14_code 43 = .ok (.ldc 187, 2) := by decide +kernel
theorem d5_45 : decode prog_65_method_14_code 45 = .ok (.if_icmp .lt 7, 3) := by decide +kernel
theorem d5_52 : decode prog_65_method_14_code 52 = .ok (.iconst 0, 1) := by decide +kernel
theorem d5_36 : decode prog_65_method_14_code 36 = .ok (.iload_n 0, 1) := by decide +kernel
theorem d5_37 : decode prog_65_method_14_code 37 = .ok (.ldc 186, 2) := by decide +kernel
theorem d5_39 : decode prog_65_method_14_code 39 = .ok (.if_icmp .le 9, 3) := by decide +kernel
theorem d5_24 : decode prog_65_method_14_code 24 = .ok (.iload_n 0, 1) := by decide +kernel
theorem d5_25 : decode prog_65_method_14_code 25 = .ok (.ldc 184, 2) := by decide +kernel
theorem d5_27 : decode prog_65_method_14_code 27 = .ok (.if_icmp .le 21, 3) := by decide +kernel
theorem pd__I_I : parseMethodDescriptor "(I)I" = some ⟨[.int], some .int⟩ := by decide +kernel
theorem pd__II_I : parseMethodDescriptor "(II)I" = some ⟨[.int, .int], some .int⟩ := by decide +kernel
theorem pd__I_Z : parseMethodDescriptor "(I)Z" = some ⟨[.int], some .boolean⟩ := by decide +kernel
def minF (x y : Int32) : Int32 := if y < x then y else x
def maxF (x y : Int32) : Int32 := if x < y then y else x
theorem own_cap (y : Int32) : (maxF 0 (minF 1114111 y)).toInt ≤ 1114111 := by
  have k : (1114111 : Int32).toInt = 1114111 := by decide
  have h : (minF 1114111 y).toInt ≤ 1114111 := by
    unfold minF
    split
    · rename_i h; have := Int32.lt_iff_toInt_lt.mp h; omega
    · omega
  generalize minF 1114111 y = w at *
  unfold maxF
  split
  · exact h
  · decide
theorem own_low (x : Int32) : ((x &&& 2147483647) % 1114112).toInt ≤ 1114111 := by
  have h := (c_and x 2147483647 (by decide)).1
  have q := (c_iremV (x &&& 2147483647) 1114112).1 h (by decide)
  have k : (1114112 : Int32).toInt = 1114112 := by decide
  omega
theorem own_14 (x : Int32) : ¬ (x &&& 2147483647) % 14 < 0 ∧ (x &&& 2147483647) % 14 < 14 := by
  have h := (c_and x 2147483647 (by decide)).1
  have q := (c_iremV (x &&& 2147483647) 14).1 h (by decide)
  have k : (14 : Int32).toInt = 14 := by decide
  have k0 : (0 : Int32).toInt = 0 := by decide
  rw [Int32.lt_iff_toInt_lt, Int32.lt_iff_toInt_lt]
  omega
theorem own_arvI {Z : State} {h : Heap} {a : Addr} {k : ClassId} {n j : Int32} {vs : List Value} {d : Value} (F : Arv Z h a k .int n vs d) (hj : ¬ j < 0 ∧ j < n) : ∃ z, vs.getD j.toNatClampNeg d = .int z := by
  obtain ⟨cl, A, q1, S, q3, H, G⟩ := F
  have q := inb_of S hj
  exact fit_I (G _ (by omega)) (Or.inl rfl)
def refP (z : Int) : Prop := (z < 32 ∧ z ≠ 9 ∧ z ≠ 10 ∧ z ≠ 13) ∨ (55296 ≤ z ∧ z ≤ 57343) ∨ z = 65534 ∨ z = 65535
def carP (z : Int) : Prop := z = 9 ∨ z = 10 ∨ z = 13 ∨ (32 ≤ z ∧ z ≤ 55295) ∨ (57344 ≤ z ∧ z ≤ 65533) ∨ 65536 ≤ z
set_option maxRecDepth 65536 in
set_option maxHeartbeats 40000000 in
theorem rm_bnd (l : Launch) (Z : State) (a0 : Array Value) (hw : ∀ d ∈ tables_1, d.before a0 Z = true) (x0 : Int32) (h0 : Heap) (n0 : Nat) (Z0 : n0 ≤ h0.size)  :
    Met l Z (⟨"com/example/eventloom/eventloom/io/XmlOutputCanCarryPinLaw", "boundary", "(I)I"⟩ : MethodName) method_2_code 2 (some .int) { frames := 0, cells := 1, slots := 14, locals := 0 } [] #[(.int x0)] h0 n0 (fun v h => ∃ z, v = some (.int z)) := by
  refine Met.mk (tabs := tables_1) (a0 := a0) (ls0 := #[.val (.int x0), .unset]) (plainFor_of_name pn_com_example_eventloom_eventloom_io_XmlOutputCanCarryPinLaw) hw Z0 (fun m => by first | (simp [entryFrame, mkF, argsToLocals, Value.category]; done) | rfl) ?_
  intro p e s m below meth c T C X
  refine s_bipush 2 C X d1_0 kc_bipush_14 ?_
  refine s_newarray 4 14 C X d1_2 (List.mem_of_getElem? (i := 5) rfl) (by decide) (by decide) (fun T _ o1 k_o1 hb_o1 X E A_o1 g_o1 => ?_)
  have A_o1 : Arv Z _ o1 k_o1 .int (14 : Int32) [(.int (0 : Int32)), (.int (0 : Int32)), (.int (0 : Int32)), (.int (0 : Int32)), (.int (0 : Int32)), (.int (0 : Int32)), (.int (0 : Int32)), (.int (0 : Int32)), (.int (0 : Int32)), (.int (0 : Int32)), (.int (0 : Int32)), (.int (0 : Int32)), (.int (0 : Int32)), (.int (0 : Int32))] (.int (0 : Int32)) := A_o1.pad (pad_rep [] _ 14)
  refine s_dup 5 C X d1_4 rfl ?_
  refine s_iconst 6 C X d1_5 kc_iconst_0 ?_
  refine s_iconst 7 C X d1_6 kc_iconst_0 ?_
  refine s_iastore 8 0 C X d1_7 A_o1 g_o1 ⟨by decide, by decide⟩ rfl (by decide) (fun T _ X W A_o1 => ?_)
  have A_o1 : Arv Z _ o1 k_o1 .int (14 : Int32) [(.int (0 : Int32)), (.int (0 : Int32)), (.int (0 : Int32)), (.int (0 : Int32)), (.int (0 : Int32)), (.int (0 : Int32)), (.int (0 : Int32)), (.int (0 : Int32)), (.int (0 : Int32)), (.int (0 : Int32)), (.int (0 : Int32)), (.int (0 : Int32)), (.int (0 : Int32)), (.int (0 : Int32))] (.int (0 : Int32)) := A_o1
  refine s_dup 9 C X d1_8 rfl ?_
  refine s_iconst 10 C X d1_9 kc_iconst_1 ?_
  refine s_bipush 12 C X d1_10 kc_bipush_9 ?_
  refine s_iastore 13 1 C X d1_12 A_o1 g_o1 ⟨by decide, by decide⟩ rfl (by decide) (fun T _ X W A_o1 => ?_)
  have A_o1 : Arv Z _ o1 k_o1 .int (14 : Int32) [(.int (0 : Int32)), (.int (9 : Int32)), (.int (0 : Int32)), (.int (0 : Int32)), (.int (0 : Int32)), (.int (0 : Int32)), (.int (0 : Int32)), (.int (0 : Int32)), (.int (0 : Int32)), (.int (0 : Int32)), (.int (0 : Int32)), (.int (0 : Int32)), (.int (0 : Int32)), (.int (0 : Int32))] (.int (0 : Int32)) := A_o1
  refine s_dup 14 C X d1_13 rfl ?_
  refine s_iconst 15 C X d1_14 kc_iconst_2 ?_
  refine s_bipush 17 C X d1_15 kc_bipush_10 ?_
  refine s_iastore 18 2 C X d1_17 A_o1 g_o1 ⟨by decide, by decide⟩ rfl (by decide) (fun T _ X W A_o1 => ?_)
  have A_o1 : Arv Z _ o1 k_o1 .int (14 : Int32) [(.int (0 : Int32)), (.int (9 : Int32)), (.int (10 : Int32)), (.int (0 : Int32)), (.int (0 : Int32)), (.int (0 : Int32)), (.int (0 : Int32)), (.int (0 : Int32)), (.int (0 : Int32)), (.int (0 : Int32)), (.int (0 : Int32)), (.int (0 : Int32)), (.int (0 : Int32)), (.int (0 : Int32))] (.int (0 : Int32)) := A_o1
  refine s_dup 19 C X d1_18 rfl ?_
  refine s_iconst 20 C X d1_19 kc_iconst_3 ?_
  refine s_bipush 22 C X d1_20 kc_bipush_13 ?_
  refine s_iastore 23 3 C X d1_22 A_o1 g_o1 ⟨by decide, by decide⟩ rfl (by decide) (fun T _ X W A_o1 => ?_)
  have A_o1 : Arv Z _ o1 k_o1 .int (14 : Int32) [(.int (0 : Int32)), (.int (9 : Int32)), (.int (10 : Int32)), (.int (13 : Int32)), (.int (0 : Int32)), (.int (0 : Int32)), (.int (0 : Int32)), (.int (0 : Int32)), (.int (0 : Int32)), (.int (0 : Int32)), (.int (0 : Int32)), (.int (0 : Int32)), (.int (0 : Int32)), (.int (0 : Int32))] (.int (0 : Int32)) := A_o1
  refine s_dup 24 C X d1_23 rfl ?_
  refine s_iconst 25 C X d1_24 kc_iconst_4 ?_
  refine s_bipush 27 C X d1_25 kc_bipush_32 ?_
  refine s_iastore 28 4 C X d1_27 A_o1 g_o1 ⟨by decide, by decide⟩ rfl (by decide) (fun T _ X W A_o1 => ?_)
  have A_o1 : Arv Z _ o1 k_o1 .int (14 : Int32) [(.int (0 : Int32)), (.int (9 : Int32)), (.int (10 : Int32)), (.int (13 : Int32)), (.int (32 : Int32)), (.int (0 : Int32)), (.int (0 : Int32)), (.int (0 : Int32)), (.int (0 : Int32)), (.int (0 : Int32)), (.int (0 : Int32)), (.int (0 : Int32)), (.int (0 : Int32)), (.int (0 : Int32))] (.int (0 : Int32)) := A_o1
  refine s_dup 29 C X d1_28 rfl ?_
  refine s_iconst 30 C X d1_29 kc_iconst_5 ?_
  refine s_ldcInt 32 C X d1_30 (List.mem_of_getElem? (i := 6) rfl) ?_
  refine s_iastore 33 5 C X d1_32 A_o1 g_o1 ⟨by decide, by decide⟩ rfl (by decide) (fun T _ X W A_o1 => ?_)
  have A_o1 : Arv Z _ o1 k_o1 .int (14 : Int32) [(.int (0 : Int32)), (.int (9 : Int32)), (.int (10 : Int32)), (.int (13 : Int32)), (.int (32 : Int32)), (.int (55295 : Int32)), (.int (0 : Int32)), (.int (0 : Int32)), (.int (0 : Int32)), (.int (0 : Int32)), (.int (0 : Int32)), (.int (0 : Int32)), (.int (0 : Int32)), (.int (0 : Int32))] (.int (0 : Int32)) := A_o1
  refine s_dup 34 C X d1_33 rfl ?_
  refine s_bipush 36 C X d1_34 kc_bipush_6 ?_
  refine s_ldcInt 38 C X d1_36 (List.mem_of_getElem? (i := 7) rfl) ?_
  refine s_iastore 39 6 C X d1_38 A_o1 g_o1 ⟨by decide, by decide⟩ rfl (by decide) (fun T _ X W A_o1 => ?_)
  have A_o1 : Arv Z _ o1 k_o1 .int (14 : Int32) [(.int (0 : Int32)), (.int (9 : Int32)), (.int (10 : Int32)), (.int (13 : Int32)), (.int (32 : Int32)), (.int (55295 : Int32)), (.int (55296 : Int32)), (.int (0 : Int32)), (.int (0 : Int32)), (.int (0 : Int32)), (.int (0 : Int32)), (.int (0 : Int32)), (.int (0 : Int32)), (.int (0 : Int32))] (.int (0 : Int32)) := A_o1
  refine s_dup 40 C X d1_39 rfl ?_
  refine s_bipush 42 C X d1_40 kc_bipush_7 ?_
  refine s_ldcInt 44 C X d1_42 (List.mem_of_getElem? (i := 8) rfl) ?_
  refine s_iastore 45 7 C X d1_44 A_o1 g_o1 ⟨by decide, by decide⟩ rfl (by decide) (fun T _ X W A_o1 => ?_)
  have A_o1 : Arv Z _ o1 k_o1 .int (14 : Int32) [(.int (0 : Int32)), (.int (9 : Int32)), (.int (10 : Int32)), (.int (13 : Int32)), (.int (32 : Int32)), (.int (55295 : Int32)), (.int (55296 : Int32)), (.int (57343 : Int32)), (.int (0 : Int32)), (.int (0 : Int32)), (.int (0 : Int32)), (.int (0 : Int32)), (.int (0 : Int32)), (.int (0 : Int32))] (.int (0 : Int32)) := A_o1
  refine s_dup 46 C X d1_45 rfl ?_
  refine s_bipush 48 C X d1_46 kc_bipush_8 ?_
  refine s_ldcInt 50 C X d1_48 (List.mem_of_getElem? (i := 9) rfl) ?_
  refine s_iastore 51 8 C X d1_50 A_o1 g_o1 ⟨by decide, by decide⟩ rfl (by decide) (fun T _ X W A_o1 => ?_)
  have A_o1 : Arv Z _ o1 k_o1 .int (14 : Int32) [(.int (0 : Int32)), (.int (9 : Int32)), (.int (10 : Int32)), (.int (13 : Int32)), (.int (32 : Int32)), (.int (55295 : Int32)), (.int (55296 : Int32)), (.int (57343 : Int32)), (.int (57344 : Int32)), (.int (0 : Int32)), (.int (0 : Int32)), (.int (0 : Int32)), (.int (0 : Int32)), (.int (0 : Int32))] (.int (0 : Int32)) := A_o1
  refine s_dup 52 C X d1_51 rfl ?_
  refine s_bipush 54 C X d1_52 kc_bipush_9 ?_
  refine s_ldcInt 56 C X d1_54 (List.mem_of_getElem? (i := 10) rfl) ?_
  refine s_iastore 57 9 C X d1_56 A_o1 g_o1 ⟨by decide, by decide⟩ rfl (by decide) (fun T _ X W A_o1 => ?_)
  have A_o1 : Arv Z _ o1 k_o1 .int (14 : Int32) [(.int (0 : Int32)), (.int (9 : Int32)), (.int (10 : Int32)), (.int (13 : Int32)), (.int (32 : Int32)), (.int (55295 : Int32)), (.int (55296 : Int32)), (.int (57343 : Int32)), (.int (57344 : Int32)), (.int (65533 : Int32)), (.int (0 : Int32)), (.int (0 : Int32)), (.int (0 : Int32)), (.int (0 : Int32))] (.int (0 : Int32)) := A_o1
  refine s_dup 58 C X d1_57 rfl ?_
  refine s_bipush 60 C X d1_58 kc_bipush_10 ?_
  refine s_ldcInt 62 C X d1_60 (List.mem_of_getElem? (i := 11) rfl) ?_
  refine s_iastore 63 10 C X d1_62 A_o1 g_o1 ⟨by decide, by decide⟩ rfl (by decide) (fun T _ X W A_o1 => ?_)
  have A_o1 : Arv Z _ o1 k_o1 .int (14 : Int32) [(.int (0 : Int32)), (.int (9 : Int32)), (.int (10 : Int32)), (.int (13 : Int32)), (.int (32 : Int32)), (.int (55295 : Int32)), (.int (55296 : Int32)), (.int (57343 : Int32)), (.int (57344 : Int32)), (.int (65533 : Int32)), (.int (65534 : Int32)), (.int (0 : Int32)), (.int (0 : Int32)), (.int (0 : Int32))] (.int (0 : Int32)) := A_o1
  refine s_dup 64 C X d1_63 rfl ?_
  refine s_bipush 66 C X d1_64 kc_bipush_11 ?_
  refine s_ldcInt 68 C X d1_66 (List.mem_of_getElem? (i := 12) rfl) ?_
  refine s_iastore 69 11 C X d1_68 A_o1 g_o1 ⟨by decide, by decide⟩ rfl (by decide) (fun T _ X W A_o1 => ?_)
  have A_o1 : Arv Z _ o1 k_o1 .int (14 : Int32) [(.int (0 : Int32)), (.int (9 : Int32)), (.int (10 : Int32)), (.int (13 : Int32)), (.int (32 : Int32)), (.int (55295 : Int32)), (.int (55296 : Int32)), (.int (57343 : Int32)), (.int (57344 : Int32)), (.int (65533 : Int32)), (.int (65534 : Int32)), (.int (65535 : Int32)), (.int (0 : Int32)), (.int (0 : Int32))] (.int (0 : Int32)) := A_o1
  refine s_dup 70 C X d1_69 rfl ?_
  refine s_bipush 72 C X d1_70 kc_bipush_12 ?_
  refine s_ldcInt 74 C X d1_72 (List.mem_of_getElem? (i := 13) rfl) ?_
  refine s_iastore 75 12 C X d1_74 A_o1 g_o1 ⟨by decide, by decide⟩ rfl (by decide) (fun T _ X W A_o1 => ?_)
  have A_o1 : Arv Z _ o1 k_o1 .int (14 : Int32) [(.int (0 : Int32)), (.int (9 : Int32)), (.int (10 : Int32)), (.int (13 : Int32)), (.int (32 : Int32)), (.int (55295 : Int32)), (.int (55296 : Int32)), (.int (57343 : Int32)), (.int (57344 : Int32)), (.int (65533 : Int32)), (.int (65534 : Int32)), (.int (65535 : Int32)), (.int (65536 : Int32)), (.int (0 : Int32))] (.int (0 : Int32)) := A_o1
  refine s_dup 76 C X d1_75 rfl ?_
  refine s_bipush 78 C X d1_76 kc_bipush_13 ?_
  refine s_ldcInt 80 C X d1_78 (List.mem_of_getElem? (i := 0) rfl) ?_
  refine s_iastore 81 13 C X d1_80 A_o1 g_o1 ⟨by decide, by decide⟩ rfl (by decide) (fun T _ X W A_o1 => ?_)
  have A_o1 : Arv Z _ o1 k_o1 .int (14 : Int32) [(.int (0 : Int32)), (.int (9 : Int32)), (.int (10 : Int32)), (.int (13 : Int32)), (.int (32 : Int32)), (.int (55295 : Int32)), (.int (55296 : Int32)), (.int (57343 : Int32)), (.int (57344 : Int32)), (.int (65533 : Int32)), (.int (65534 : Int32)), (.int (65535 : Int32)), (.int (65536 : Int32)), (.int (1114111 : Int32))] (.int (0 : Int32)) := A_o1
  refine s_astoreN 82 C X (l' := #[.val (.int x0), .val (.ref o1)]) d1_81 rfl rfl ?_
  refine s_aloadN 83 C X d1_82 rfl rfl ?_
  refine s_iloadN 84 C X d1_83 rfl ?_
  refine s_ldcInt 86 C X d1_84 (List.mem_of_getElem? (i := 14) rfl) ?_
  refine s_iand 87 C X d1_86 ?_
  refine s_aloadN 88 C X d1_87 rfl rfl ?_
  refine s_arraylength 89 C X d1_88 A_o1 ?_
  refine s_irem 90 C X d1_89 (by decide) ?_
  obtain ⟨j, e_j⟩ : ∃ zz_ : Int32, zz_ = ((x0 &&& (2147483647 : Int32)) % (14 : Int32)) := ⟨_, rfl⟩
  refine Run.cast (st' := [(.int j), (.ref o1)]) (by subst e_j; rfl) ?_
  have r_j : ¬ j < 0 ∧ j < 14 := e_j ▸ own_14 x0
  obtain ⟨z, hz⟩ := own_arvI A_o1 r_j
  refine s_iaload 91 C X d1_90 A_o1 r_j (v := (.int z)) hz ?_
  refine s_ireturn C X d1_91 rfl ?_
  exact ⟨_, rfl⟩
set_option maxRecDepth 65536 in
set_option maxHeartbeats 40000000 in
theorem rm_min (l : Launch) (Z : State) (a0 : Array Value) (hw : ∀ d ∈ tables_1, d.before a0 Z = true) (x0 x1 : Int32) (h0 : Heap) (n0 : Nat) (Z0 : n0 ≤ h0.size)  :
    Met l Z (⟨"java/lang/Math", "min", "(II)I"⟩ : MethodName) jdk_29_method_69_code 2 (some .int) { frames := 0, cells := 0, slots := 0, locals := 0 } [] #[(.int x0), (.int x1)] h0 n0 (fun v h => v = some (.int (minF x0 x1)) ∧ h = h0) := by
  refine Met.mk (tabs := tables_1) (a0 := a0) (ls0 := #[.val (.int x0), .val (.int x1)]) (Jvm.Free.JP.mathPlain rfl (by decide +kernel)) hw Z0 (fun m => by first | (simp [entryFrame, mkF, argsToLocals, Value.category]; done) | rfl) ?_
  intro p e s m below meth c T C X
  refine s_iloadN 1 C X d2_0 rfl ?_
  refine s_iloadN 2 C X d2_1 rfl ?_
  refine s_icmp_gt 9 5 C X d2_2 (fun c2 => ?_) (fun c2 => ?_)
  · have t_c2 : (x1).toInt < (x0).toInt := Int32.lt_iff_toInt_lt.mp c2
    refine s_iloadN 10 C X d2_9 rfl ?_
    refine s_ireturn C X d2_10 rfl ?_
    exact ⟨by simp [minF, c2], rfl⟩
  have t_c2 : ¬ ((x1).toInt < (x0).toInt) := fun q => c2 (Int32.lt_iff_toInt_lt.mpr q)
  refine s_iloadN 6 C X d2_5 rfl ?_
  refine s_goto 10 C X d2_6 ?_
  refine s_ireturn C X d2_10 rfl ?_
  exact ⟨by simp [minF, c2], rfl⟩
set_option maxRecDepth 65536 in
set_option maxHeartbeats 40000000 in
theorem rm_max (l : Launch) (Z : State) (a0 : Array Value) (hw : ∀ d ∈ tables_1, d.before a0 Z = true) (x0 x1 : Int32) (h0 : Heap) (n0 : Nat) (Z0 : n0 ≤ h0.size)  :
    Met l Z (⟨"java/lang/Math", "max", "(II)I"⟩ : MethodName) jdk_29_method_65_code 2 (some .int) { frames := 0, cells := 0, slots := 0, locals := 0 } [] #[(.int x0), (.int x1)] h0 n0 (fun v h => v = some (.int (maxF x0 x1)) ∧ h = h0) := by
  refine Met.mk (tabs := tables_1) (a0 := a0) (ls0 := #[.val (.int x0), .val (.int x1)]) (Jvm.Free.JP.mathPlain rfl (by decide +kernel)) hw Z0 (fun m => by first | (simp [entryFrame, mkF, argsToLocals, Value.category]; done) | rfl) ?_
  intro p e s m below meth c T C X
  refine s_iloadN 1 C X d3_0 rfl ?_
  refine s_iloadN 2 C X d3_1 rfl ?_
  refine s_icmp_lt 9 5 C X d3_2 (fun c2 => ?_) (fun c2 => ?_)
  · have t_c2 : (x0).toInt < (x1).toInt := Int32.lt_iff_toInt_lt.mp c2
    refine s_iloadN 10 C X d3_9 rfl ?_
    refine s_ireturn C X d3_10 rfl ?_
    exact ⟨by simp [maxF, c2], rfl⟩
  have t_c2 : ¬ ((x0).toInt < (x1).toInt) := fun q => c2 (Int32.lt_iff_toInt_lt.mpr q)
  refine s_iloadN 6 C X d3_5 rfl ?_
  refine s_goto 10 C X d3_6 ?_
  refine s_ireturn C X d3_10 rfl ?_
  exact ⟨by simp [maxF, c2], rfl⟩
set_option maxRecDepth 65536 in
set_option maxHeartbeats 40000000 in
theorem rm_refused (l : Launch) (Z : State) (a0 : Array Value) (hw : ∀ d ∈ tables_1, d.before a0 Z = true) (x0 : Int32) (h0 : Heap) (n0 : Nat) (Z0 : n0 ≤ h0.size)  :
    Met l Z (⟨"com/example/eventloom/eventloom/io/XmlOutputCanCarryPinLaw", "refused", "(I)Z"⟩ : MethodName) method_3_code 1 (some .boolean) { frames := 0, cells := 0, slots := 0, locals := 0 } [] #[(.int x0)] h0 n0 (fun v h => ((v = some (.int 1) ∧ refP x0.toInt) ∨ (v = some (.int 0) ∧ ¬ refP x0.toInt)) ∧ h = h0) := by
  refine Met.mk (tabs := tables_1) (a0 := a0) (ls0 := #[.val (.int x0)]) (plainFor_of_name pn_com_example_eventloom_eventloom_io_XmlOutputCanCarryPinLaw) hw Z0 (fun m => by first | (simp [entryFrame, mkF, argsToLocals, Value.category]; done) | rfl) ?_
  intro p e s m below meth c T C X
  refine s_iloadN 1 C X d4_0 rfl ?_
  refine s_bipush 3 C X d4_1 kc_bipush_32 ?_
  refine s_icmp_ge 30 6 C X d4_3 (fun c3 => ?_) (fun c3 => ?_)
  · have t_c3 : ¬ ((x0).toInt < (32 : Int)) := fun q => c3 (Int32.lt_iff_toInt_lt.mpr q)
    refine s_iloadN 31 C X d4_30 rfl ?_
    refine s_ldcInt 33 C X d4_31 (List.mem_of_getElem? (i := 7) rfl) ?_
    refine s_icmp_lt 44 36 C X d4_33 (fun c33 => ?_) (fun c33 => ?_)
    · have t_c33 : (x0).toInt < (55296 : Int) := Int32.lt_iff_toInt_lt.mp c33
      refine s_iloadN 45 C X d4_44 rfl ?_
      refine s_ldcInt 47 C X d4_45 (List.mem_of_getElem? (i := 11) rfl) ?_
      refine s_icmp_eq 56 50 C X d4_47 (fun c47 => ?_) (fun c47 => ?_)
      · have t_c47 : (x0).toInt = (65534 : Int) := congrArg Int32.toInt c47
        refine s_iconst 57 C X d4_56 kc_iconst_1 ?_
        refine s_goto 61 C X d4_57 ?_
        refine s_nreturn C X d4_61 rfl (by simp) rfl ?_
        exact ⟨Or.inl ⟨rfl, by unfold refP; omega⟩, rfl⟩
      have t_c47 : ¬ ((x0).toInt = (65534 : Int)) := fun q => c47 (Int32.toInt_inj.mp q)
      refine s_iloadN 51 C X d4_50 rfl ?_
      refine s_ldcInt 53 C X d4_51 (List.mem_of_getElem? (i := 12) rfl) ?_
      refine s_icmp_ne 60 56 C X d4_53 (fun c53 => ?_) (fun c53 => ?_)
      · have t_c53 : ¬ ((x0).toInt = (65535 : Int)) := fun q => c53 (Int32.toInt_inj.mp q)
        refine s_iconst 61 C X d4_60 kc_iconst_0 ?_
        refine s_nreturn C X d4_61 rfl (by simp) rfl ?_
        exact ⟨Or.inr ⟨rfl, by unfold refP; omega⟩, rfl⟩
      have t_c53 : (x0).toInt = (65535 : Int) := congrArg Int32.toInt c53
      refine s_iconst 57 C X d4_56 kc_iconst_1 ?_
      refine s_goto 61 C X d4_57 ?_
      refine s_nreturn C X d4_61 rfl (by simp) rfl ?_
      exact ⟨Or.inl ⟨rfl, by unfold refP; omega⟩, rfl⟩
    have t_c33 : ¬ ((x0).toInt < (55296 : Int)) := fun q => c33 (Int32.lt_iff_toInt_lt.mpr q)
    refine s_iloadN 37 C X d4_36 rfl ?_
    refine s_ldcInt 39 C X d4_37 (List.mem_of_getElem? (i := 8) rfl) ?_
    refine s_icmp_gt 44 42 C X d4_39 (fun c39 => ?_) (fun c39 => ?_)
    · have t_c39 : (57343 : Int) < (x0).toInt := Int32.lt_iff_toInt_lt.mp c39
      refine s_iloadN 45 C X d4_44 rfl ?_
      refine s_ldcInt 47 C X d4_45 (List.mem_of_getElem? (i := 11) rfl) ?_
      refine s_icmp_eq 56 50 C X d4_47 (fun c47 => ?_) (fun c47 => ?_)
      · have t_c47 : (x0).toInt = (65534 : Int) := congrArg Int32.toInt c47
        refine s_iconst 57 C X d4_56 kc_iconst_1 ?_
        refine s_goto 61 C X d4_57 ?_
        refine s_nreturn C X d4_61 rfl (by simp) rfl ?_
        exact ⟨Or.inl ⟨rfl, by unfold refP; omega⟩, rfl⟩
      have t_c47 : ¬ ((x0).toInt = (65534 : Int)) := fun q => c47 (Int32.toInt_inj.mp q)
      refine s_iloadN 51 C X d4_50 rfl ?_
      refine s_ldcInt 53 C X d4_51 (List.mem_of_getElem? (i := 12) rfl) ?_
      refine s_icmp_ne 60 56 C X d4_53 (fun c53 => ?_) (fun c53 => ?_)
      · have t_c53 : ¬ ((x0).toInt = (65535 : Int)) := fun q => c53 (Int32.toInt_inj.mp q)
        refine s_iconst 61 C X d4_60 kc_iconst_0 ?_
        refine s_nreturn C X d4_61 rfl (by simp) rfl ?_
        exact ⟨Or.inr ⟨rfl, by unfold refP; omega⟩, rfl⟩
      have t_c53 : (x0).toInt = (65535 : Int) := congrArg Int32.toInt c53
      refine s_iconst 57 C X d4_56 kc_iconst_1 ?_
      refine s_goto 61 C X d4_57 ?_
      refine s_nreturn C X d4_61 rfl (by simp) rfl ?_
      exact ⟨Or.inl ⟨rfl, by unfold refP; omega⟩, rfl⟩
    have t_c39 : ¬ ((57343 : Int) < (x0).toInt) := fun q => c39 (Int32.lt_iff_toInt_lt.mpr q)
    refine s_iconst 43 C X d4_42 kc_iconst_1 ?_
    refine s_nreturn C X d4_43 rfl (by simp) rfl ?_
    exact ⟨Or.inl ⟨rfl, by unfold refP; omega⟩, rfl⟩
  have t_c3 : (x0).toInt < (32 : Int) := Int32.lt_iff_toInt_lt.mp c3
  refine s_iloadN 7 C X d4_6 rfl ?_
  refine s_bipush 9 C X d4_7 kc_bipush_9 ?_
  refine s_icmp_eq 28 12 C X d4_9 (fun c9 => ?_) (fun c9 => ?_)
  · have t_c9 : (x0).toInt = (9 : Int) := congrArg Int32.toInt c9
    refine s_iconst 29 C X d4_28 kc_iconst_0 ?_
    refine s_nreturn C X d4_29 rfl (by simp) rfl ?_
    exact ⟨Or.inr ⟨rfl, by unfold refP; omega⟩, rfl⟩
  have t_c9 : ¬ ((x0).toInt = (9 : Int)) := fun q => c9 (Int32.toInt_inj.mp q)
  refine s_iloadN 13 C X d4_12 rfl ?_
  refine s_bipush 15 C X d4_13 kc_bipush_10 ?_
  refine s_icmp_eq 28 18 C X d4_15 (fun c15 => ?_) (fun c15 => ?_)
  · have t_c15 : (x0).toInt = (10 : Int) := congrArg Int32.toInt c15
    refine s_iconst 29 C X d4_28 kc_iconst_0 ?_
    refine s_nreturn C X d4_29 rfl (by simp) rfl ?_
    exact ⟨Or.inr ⟨rfl, by unfold refP; omega⟩, rfl⟩
  have t_c15 : ¬ ((x0).toInt = (10 : Int)) := fun q => c15 (Int32.toInt_inj.mp q)
  refine s_iloadN 19 C X d4_18 rfl ?_
  refine s_bipush 21 C X d4_19 kc_bipush_13 ?_
  refine s_icmp_eq 28 24 C X d4_21 (fun c21 => ?_) (fun c21 => ?_)
  · have t_c21 : (x0).toInt = (13 : Int) := congrArg Int32.toInt c21
    refine s_iconst 29 C X d4_28 kc_iconst_0 ?_
    refine s_nreturn C X d4_29 rfl (by simp) rfl ?_
    exact ⟨Or.inr ⟨rfl, by unfold refP; omega⟩, rfl⟩
  have t_c21 : ¬ ((x0).toInt = (13 : Int)) := fun q => c21 (Int32.toInt_inj.mp q)
  refine s_iconst 25 C X d4_24 kc_iconst_1 ?_
  refine s_goto 29 C X d4_25 ?_
  refine s_nreturn C X d4_29 rfl (by simp) rfl ?_
  exact ⟨Or.inl ⟨rfl, by unfold refP; omega⟩, rfl⟩
set_option maxRecDepth 65536 in
set_option maxHeartbeats 40000000 in
theorem rm_canCarry (l : Launch) (Z : State) (a0 : Array Value) (hw : ∀ d ∈ tables_1, d.before a0 Z = true) (x0 : Int32) (h0 : Heap) (n0 : Nat) (Z0 : n0 ≤ h0.size)  :
    Met l Z (⟨"com/example/eventloom/eventloom/io/XmlOutput", "canCarry", "(I)Z"⟩ : MethodName) prog_65_method_14_code 1 (some .boolean) { frames := 0, cells := 0, slots := 0, locals := 0 } [] #[(.int x0)] h0 n0 (fun v h => ((v = some (.int 1) ∧ carP x0.toInt) ∨ (v = some (.int 0) ∧ ¬ carP x0.toInt)) ∧ h = h0) := by
  refine Met.mk (tabs := tables_1) (a0 := a0) (ls0 := #[.val (.int x0)]) (plainFor_of_name pn_com_example_eventloom_eventloom_io_XmlOutput) hw Z0 (fun m => by first | (simp [entryFrame, mkF, argsToLocals, Value.category]; done) | rfl) ?_
  intro p e s m below meth c T C X
  refine s_iloadN 1 C X d5_0 rfl ?_
  refine s_bipush 3 C X d5_1 kc_bipush_9 ?_
  refine s_icmp_eq 48 6 C X d5_3 (fun c3 => ?_) (fun c3 => ?_)
  · have t_c3 : (x0).toInt = (9 : Int) := congrArg Int32.toInt c3
    refine s_iconst 49 C X d5_48 kc_iconst_1 ?_
    refine s_goto 53 C X d5_49 ?_
    refine s_nreturn C X d5_53 rfl (by simp) rfl ?_
    exact ⟨Or.inl ⟨rfl, by unfold carP; omega⟩, rfl⟩
  have t_c3 : ¬ ((x0).toInt = (9 : Int)) := fun q => c3 (Int32.toInt_inj.mp q)
  refine s_iloadN 7 C X d5_6 rfl ?_
  refine s_bipush 9 C X d5_7 kc_bipush_10 ?_
  refine s_icmp_eq 48 12 C X d5_9 (fun c9 => ?_) (fun c9 => ?_)
  · have t_c9 : (x0).toInt = (10 : Int) := congrArg Int32.toInt c9
    refine s_iconst 49 C X d5_48 kc_iconst_1 ?_
    refine s_goto 53 C X d5_49 ?_
    refine s_nreturn C X d5_53 rfl (by simp) rfl ?_
    exact ⟨Or.inl ⟨rfl, by unfold carP; omega⟩, rfl⟩
  have t_c9 : ¬ ((x0).toInt = (10 : Int)) := fun q => c9 (Int32.toInt_inj.mp q)
  refine s_iloadN 13 C X d5_12 rfl ?_
  refine s_bipush 15 C X d5_13 kc_bipush_13 ?_
  refine s_icmp_eq 48 18 C X d5_15 (fun c15 => ?_) (fun c15 => ?_)
  · have t_c15 : (x0).toInt = (13 : Int) := congrArg Int32.toInt c15
    refine s_iconst 49 C X d5_48 kc_iconst_1 ?_
    refine s_goto 53 C X d5_49 ?_
    refine s_nreturn C X d5_53 rfl (by simp) rfl ?_
    exact ⟨Or.inl ⟨rfl, by unfold carP; omega⟩, rfl⟩
  have t_c15 : ¬ ((x0).toInt = (13 : Int)) := fun q => c15 (Int32.toInt_inj.mp q)
  refine s_iloadN 19 C X d5_18 rfl ?_
  refine s_bipush 21 C X d5_19 kc_bipush_32 ?_
  refine s_icmp_lt 30 24 C X d5_21 (fun c21 => ?_) (fun c21 => ?_)
  · have t_c21 : (x0).toInt < (32 : Int) := Int32.lt_iff_toInt_lt.mp c21
    refine s_iloadN 31 C X d5_30 rfl ?_
    refine s_ldcInt 33 C X d5_31 (List.mem_of_getElem? (i := 29) rfl) ?_
    refine s_icmp_lt 42 36 C X d5_33 (fun c33 => ?_) (fun c33 => ?_)
    · have t_c33 : (x0).toInt < (57344 : Int) := Int32.lt_iff_toInt_lt.mp c33
      refine s_iloadN 43 C X d5_42 rfl ?_
      refine s_ldcInt 45 C X d5_43 (List.mem_of_getElem? (i := 30) rfl) ?_
      refine s_icmp_lt 52 48 C X d5_45 (fun c45 => ?_) (fun c45 => ?_)
      · have t_c45 : (x0).toInt < (65536 : Int) := Int32.lt_iff_toInt_lt.mp c45
        refine s_iconst 53 C X d5_52 kc_iconst_0 ?_
        refine s_nreturn C X d5_53 rfl (by simp) rfl ?_
        exact ⟨Or.inr ⟨rfl, by unfold carP; omega⟩, rfl⟩
      have t_c45 : ¬ ((x0).toInt < (65536 : Int)) := fun q => c45 (Int32.lt_iff_toInt_lt.mpr q)
      refine s_iconst 49 C X d5_48 kc_iconst_1 ?_
      refine s_goto 53 C X d5_49 ?_
      refine s_nreturn C X d5_53 rfl (by simp) rfl ?_
      exact ⟨Or.inl ⟨rfl, by unfold carP; omega⟩, rfl⟩
    have t_c33 : ¬ ((x0).toInt < (57344 : Int)) := fun q => c33 (Int32.lt_iff_toInt_lt.mpr q)
    refine s_iloadN 37 C X d5_36 rfl ?_
    refine s_ldcInt 39 C X d5_37 (List.mem_of_getElem? (i := 32) rfl) ?_
    refine s_icmp_le 48 42 C X d5_39 (fun c39 => ?_) (fun c39 => ?_)
    · have t_c39 : ¬ ((65533 : Int) < (x0).toInt) := fun q => c39 (Int32.lt_iff_toInt_lt.mpr q)
      refine s_iconst 49 C X d5_48 kc_iconst_1 ?_
      refine s_goto 53 C X d5_49 ?_
      refine s_nreturn C X d5_53 rfl (by simp) rfl ?_
      exact ⟨Or.inl ⟨rfl, by unfold carP; omega⟩, rfl⟩
    have t_c39 : (65533 : Int) < (x0).toInt := Int32.lt_iff_toInt_lt.mp c39
    refine s_iloadN 43 C X d5_42 rfl ?_
    refine s_ldcInt 45 C X d5_43 (List.mem_of_getElem? (i := 30) rfl) ?_
    refine s_icmp_lt 52 48 C X d5_45 (fun c45 => ?_) (fun c45 => ?_)
    · have t_c45 : (x0).toInt < (65536 : Int) := Int32.lt_iff_toInt_lt.mp c45
      refine s_iconst 53 C X d5_52 kc_iconst_0 ?_
      refine s_nreturn C X d5_53 rfl (by simp) rfl ?_
      exact ⟨Or.inr ⟨rfl, by unfold carP; omega⟩, rfl⟩
    have t_c45 : ¬ ((x0).toInt < (65536 : Int)) := fun q => c45 (Int32.lt_iff_toInt_lt.mpr q)
    refine s_iconst 49 C X d5_48 kc_iconst_1 ?_
    refine s_goto 53 C X d5_49 ?_
    refine s_nreturn C X d5_53 rfl (by simp) rfl ?_
    exact ⟨Or.inl ⟨rfl, by unfold carP; omega⟩, rfl⟩
  have t_c21 : ¬ ((x0).toInt < (32 : Int)) := fun q => c21 (Int32.lt_iff_toInt_lt.mpr q)
  refine s_iloadN 25 C X d5_24 rfl ?_
  refine s_ldcInt 27 C X d5_25 (List.mem_of_getElem? (i := 31) rfl) ?_
  refine s_icmp_le 48 30 C X d5_27 (fun c27 => ?_) (fun c27 => ?_)
  · have t_c27 : ¬ ((55295 : Int) < (x0).toInt) := fun q => c27 (Int32.lt_iff_toInt_lt.mpr q)
    refine s_iconst 49 C X d5_48 kc_iconst_1 ?_
    refine s_goto 53 C X d5_49 ?_
    refine s_nreturn C X d5_53 rfl (by simp) rfl ?_
    exact ⟨Or.inl ⟨rfl, by unfold carP; omega⟩, rfl⟩
  have t_c27 : (55295 : Int) < (x0).toInt := Int32.lt_iff_toInt_lt.mp c27
  refine s_iloadN 31 C X d5_30 rfl ?_
  refine s_ldcInt 33 C X d5_31 (List.mem_of_getElem? (i := 29) rfl) ?_
  refine s_icmp_lt 42 36 C X d5_33 (fun c33 => ?_) (fun c33 => ?_)
  · have t_c33 : (x0).toInt < (57344 : Int) := Int32.lt_iff_toInt_lt.mp c33
    refine s_iloadN 43 C X d5_42 rfl ?_
    refine s_ldcInt 45 C X d5_43 (List.mem_of_getElem? (i := 30) rfl) ?_
    refine s_icmp_lt 52 48 C X d5_45 (fun c45 => ?_) (fun c45 => ?_)
    · have t_c45 : (x0).toInt < (65536 : Int) := Int32.lt_iff_toInt_lt.mp c45
      refine s_iconst 53 C X d5_52 kc_iconst_0 ?_
      refine s_nreturn C X d5_53 rfl (by simp) rfl ?_
      exact ⟨Or.inr ⟨rfl, by unfold carP; omega⟩, rfl⟩
    have t_c45 : ¬ ((x0).toInt < (65536 : Int)) := fun q => c45 (Int32.lt_iff_toInt_lt.mpr q)
    refine s_iconst 49 C X d5_48 kc_iconst_1 ?_
    refine s_goto 53 C X d5_49 ?_
    refine s_nreturn C X d5_53 rfl (by simp) rfl ?_
    exact ⟨Or.inl ⟨rfl, by unfold carP; omega⟩, rfl⟩
  have t_c33 : ¬ ((x0).toInt < (57344 : Int)) := fun q => c33 (Int32.lt_iff_toInt_lt.mpr q)
  refine s_iloadN 37 C X d5_36 rfl ?_
  refine s_ldcInt 39 C X d5_37 (List.mem_of_getElem? (i := 32) rfl) ?_
  refine s_icmp_le 48 42 C X d5_39 (fun c39 => ?_) (fun c39 => ?_)
  · have t_c39 : ¬ ((65533 : Int) < (x0).toInt) := fun q => c39 (Int32.lt_iff_toInt_lt.mpr q)
    refine s_iconst 49 C X d5_48 kc_iconst_1 ?_
    refine s_goto 53 C X d5_49 ?_
    refine s_nreturn C X d5_53 rfl (by simp) rfl ?_
    exact ⟨Or.inl ⟨rfl, by unfold carP; omega⟩, rfl⟩
  have t_c39 : (65533 : Int) < (x0).toInt := Int32.lt_iff_toInt_lt.mp c39
  refine s_iloadN 43 C X d5_42 rfl ?_
  refine s_ldcInt 45 C X d5_43 (List.mem_of_getElem? (i := 30) rfl) ?_
  refine s_icmp_lt 52 48 C X d5_45 (fun c45 => ?_) (fun c45 => ?_)
  · have t_c45 : (x0).toInt < (65536 : Int) := Int32.lt_iff_toInt_lt.mp c45
    refine s_iconst 53 C X d5_52 kc_iconst_0 ?_
    refine s_nreturn C X d5_53 rfl (by simp) rfl ?_
    exact ⟨Or.inr ⟨rfl, by unfold carP; omega⟩, rfl⟩
  have t_c45 : ¬ ((x0).toInt < (65536 : Int)) := fun q => c45 (Int32.lt_iff_toInt_lt.mpr q)
  refine s_iconst 49 C X d5_48 kc_iconst_1 ?_
  refine s_goto 53 C X d5_49 ?_
  refine s_nreturn C X d5_53 rfl (by simp) rfl ?_
  exact ⟨Or.inl ⟨rfl, by unfold carP; omega⟩, rfl⟩
set_option maxRecDepth 65536 in
set_option maxHeartbeats 40000000 in
theorem rm0 (l : Launch) (Z : State) (a0 : Array Value) (hw : ∀ d ∈ tables_1, d.before a0 Z = true) (x0 x1 : Int32) (h0 : Heap) (n0 : Nat) (Z0 : n0 ≤ h0.size)  :
    Met l Z x code maxLocals ret room_1 tables_1 #[(.int x0), (.int x1)] h0 n0 (fun v h => v = some (.int 1)) := by
  refine Met.mk (tabs := tables_1) (a0 := a0) (ls0 := #[.val (.int x0), .val (.int x1), .unset, .unset]) (plainFor_of_name pn_com_example_eventloom_eventloom_io_XmlOutputCanCarryPinLaw) hw Z0 (fun m => by first | (simp [entryFrame, mkF, argsToLocals, Value.category, maxLocals]; done) | rfl) ?_
  intro p e s m below meth c T C X
  refine s_iloadN 1 C X at_0 rfl ?_
  refine s_iconst 2 C X at_1 kc_iconst_1 ?_
  refine s_iand 3 C X at_2 ?_
  refine s_if_ne 17 6 C X at_3 (fun c3 => ?_) (fun c3 => ?_)
  · have t_c3 : ¬ (((x1 &&& (1 : Int32))).toInt = (0 : Int)) := fun q => c3 (Int32.toInt_inj.mp q)
    refine s_iloadN 18 C X at_17 rfl ?_
    refine s_iconst 19 C X at_18 kc_iconst_1 ?_
    refine s_iushr 20 C X at_19 ?_
    refine s_iconst 21 C X at_20 kc_iconst_3 ?_
    refine s_irem 22 C X at_21 (by decide) ?_
    refine s_iconst 23 C X at_22 kc_iconst_1 ?_
    refine s_isub 24 C X at_23 ?_
    refine s_istoreN 25 C X (l' := #[.val (.int x0), .val (.int x1), .unset, .val (.int ((((x1).toUInt32 >>> ((1 : Int32) &&& 31).toUInt32).toInt32 % (3 : Int32)) - (1 : Int32)))]) at_24 rfl ?_
    refine s_iconst 26 C X at_25 kc_iconst_0 ?_
    refine s_ldcInt 28 C X at_26 (List.mem_of_getElem? (i := 0) rfl) ?_
    refine s_iloadN 29 C X at_28 rfl ?_
    refine s_callS 32 [(.int x0)] [(.int (1114111 : Int32)), (.int (0 : Int32))] 2 C X at_29 (List.mem_of_getElem? (i := 1) rfl) (List.mem_of_getElem? (i := 2) rfl) (List.mem_of_getElem? (i := 3) rfl) (List.mem_of_getElem? (i := 4) rfl) (rm_bnd l Z a0 hw x0 _ n0 X.sz) (lenOf pd__I_I rfl) rfl rfl rfl (fun T v h0 X q => ?_)
    obtain ⟨z, rfl⟩ := q
    refine Run.cast (st' := [(.int z), (.int (1114111 : Int32)), (.int (0 : Int32))]) rfl ?_
    refine s_iloadN 33 C X at_32 rfl ?_
    refine s_iadd 34 C X at_33 ?_
    refine s_callS 37 [(.int (1114111 : Int32)), (.int (z + ((((x1).toUInt32 >>> ((1 : Int32) &&& 31).toUInt32).toInt32 % (3 : Int32)) - (1 : Int32))))] [(.int (0 : Int32))] 1 C X at_34 (List.mem_of_getElem? (i := 15) rfl) (List.mem_of_getElem? (i := 16) rfl) (List.mem_of_getElem? (i := 17) rfl) (List.mem_of_getElem? (i := 18) rfl) (rm_min l Z a0 hw (1114111 : Int32) (z + ((((x1).toUInt32 >>> ((1 : Int32) &&& 31).toUInt32).toInt32 % (3 : Int32)) - (1 : Int32))) _ n0 X.sz) (lenOf pd__II_I rfl) rfl rfl rfl (fun T v h1 X q => ?_)
    obtain ⟨rfl, hE⟩ := q
    rw [hE] at X
    refine Run.cast (st' := [(.int (minF (1114111 : Int32) (z + ((((x1).toUInt32 >>> ((1 : Int32) &&& 31).toUInt32).toInt32 % (3 : Int32)) - (1 : Int32))))), (.int (0 : Int32))]) rfl ?_
    refine s_callS 40 [(.int (0 : Int32)), (.int (minF (1114111 : Int32) (z + ((((x1).toUInt32 >>> ((1 : Int32) &&& 31).toUInt32).toInt32 % (3 : Int32)) - (1 : Int32)))))] [] 0 C X at_37 (List.mem_of_getElem? (i := 19) rfl) (List.mem_of_getElem? (i := 20) rfl) (List.mem_of_getElem? (i := 17) rfl) (List.mem_of_getElem? (i := 21) rfl) (rm_max l Z a0 hw (0 : Int32) (minF (1114111 : Int32) (z + ((((x1).toUInt32 >>> ((1 : Int32) &&& 31).toUInt32).toInt32 % (3 : Int32)) - (1 : Int32)))) _ n0 X.sz) (lenOf pd__II_I rfl) rfl rfl rfl (fun T v h2 X q => ?_)
    obtain ⟨rfl, hE⟩ := q
    rw [hE] at X
    refine Run.cast (st' := [(.int (maxF (0 : Int32) (minF (1114111 : Int32) (z + ((((x1).toUInt32 >>> ((1 : Int32) &&& 31).toUInt32).toInt32 % (3 : Int32)) - (1 : Int32))))))]) rfl ?_
    obtain ⟨c1, e_c1⟩ : ∃ zz_ : Int32, zz_ = (maxF (0 : Int32) (minF (1114111 : Int32) (z + ((((x1).toUInt32 >>> ((1 : Int32) &&& 31).toUInt32).toInt32 % (3 : Int32)) - (1 : Int32))))) := ⟨_, rfl⟩
    refine Run.cast (st' := [(.int c1)]) (by subst e_c1; rfl) ?_
    have r_c : c1.toInt ≤ 1114111 := e_c1 ▸ own_cap _
    refine s_istoreN 41 C X (l' := #[.val (.int x0), .val (.int x1), .val (.int c1), .val (.int ((((x1).toUInt32 >>> ((1 : Int32) &&& 31).toUInt32).toInt32 % (3 : Int32)) - (1 : Int32)))]) at_40 rfl ?_
    refine s_iloadN 42 C X at_41 rfl ?_
    refine s_callS 45 [(.int c1)] [] 0 C X at_42 (List.mem_of_getElem? (i := 22) rfl) (List.mem_of_getElem? (i := 23) rfl) (List.mem_of_getElem? (i := 3) rfl) (List.mem_of_getElem? (i := 24) rfl) (rm_refused l Z a0 hw c1 _ n0 X.sz) (lenOf pd__I_Z rfl) rfl rfl rfl (fun T v h3 X q => ?_)
    obtain ⟨⟨rfl, b_refused⟩ | ⟨rfl, b_refused⟩, hE⟩ := q
    · rw [hE] at X
      refine Run.cast (st' := [(.int (1 : Int32))]) rfl ?_
      refine s_if_ne 52 48 C X at_45 (fun _ => ?_) (fun c => absurd c (by decide))
      refine s_iconst 53 C X at_52 kc_iconst_0 ?_
      refine s_istoreN 54 C X (l' := #[.val (.int x0), .val (.int x1), .val (.int c1), .val (.int (0 : Int32))]) at_53 rfl ?_
      refine s_iloadN 55 C X at_54 rfl ?_
      refine s_callS 58 [(.int c1)] [] 0 C X at_55 (List.mem_of_getElem? (i := 25) rfl) (List.mem_of_getElem? (i := 26) rfl) (List.mem_of_getElem? (i := 27) rfl) (List.mem_of_getElem? (i := 28) rfl) (rm_canCarry l Z a0 hw c1 _ n0 X.sz) (lenOf pd__I_Z rfl) rfl rfl rfl (fun T v h4 X q => ?_)
      obtain ⟨⟨rfl, b_canCarry⟩ | ⟨rfl, b_canCarry⟩, hE⟩ := q
      · rw [hE] at X
        refine Run.cast (st' := [(.int (1 : Int32))]) rfl ?_
        refine s_iloadN 59 C X at_58 rfl ?_
        refine s_icmp_ne 66 62 C X at_59 (fun _ => ?_) (fun c => absurd c (by decide))
        refine s_iconst 67 C X at_66 kc_iconst_0 ?_
        refine s_nreturn C X at_67 rfl (by simp) rfl ?_
        exfalso
        unfold refP at b_refused
        unfold carP at b_canCarry
        omega
      · rw [hE] at X
        refine Run.cast (st' := [(.int (0 : Int32))]) rfl ?_
        refine s_iloadN 59 C X at_58 rfl ?_
        refine s_icmp_ne 66 62 C X at_59 (fun c => absurd (by decide : (0 : Int32) = (0 : Int32)) c) (fun _ => ?_)
        refine s_iconst 63 C X at_62 kc_iconst_1 ?_
        refine s_goto 67 C X at_63 ?_
        refine s_nreturn C X at_67 rfl (by simp) rfl ?_
        rfl
    · rw [hE] at X
      refine Run.cast (st' := [(.int (0 : Int32))]) rfl ?_
      refine s_if_ne 52 48 C X at_45 (fun c => absurd (by decide : (0 : Int32) = (0 : Int32)) c) (fun _ => ?_)
      refine s_iconst 49 C X at_48 kc_iconst_1 ?_
      refine s_goto 53 C X at_49 ?_
      refine s_istoreN 54 C X (l' := #[.val (.int x0), .val (.int x1), .val (.int c1), .val (.int (1 : Int32))]) at_53 rfl ?_
      refine s_iloadN 55 C X at_54 rfl ?_
      refine s_callS 58 [(.int c1)] [] 0 C X at_55 (List.mem_of_getElem? (i := 25) rfl) (List.mem_of_getElem? (i := 26) rfl) (List.mem_of_getElem? (i := 27) rfl) (List.mem_of_getElem? (i := 28) rfl) (rm_canCarry l Z a0 hw c1 _ n0 X.sz) (lenOf pd__I_Z rfl) rfl rfl rfl (fun T v h5 X q => ?_)
      obtain ⟨⟨rfl, b_canCarry⟩ | ⟨rfl, b_canCarry⟩, hE⟩ := q
      · rw [hE] at X
        refine Run.cast (st' := [(.int (1 : Int32))]) rfl ?_
        refine s_iloadN 59 C X at_58 rfl ?_
        refine s_icmp_ne 66 62 C X at_59 (fun c => absurd (by decide : (1 : Int32) = (1 : Int32)) c) (fun _ => ?_)
        refine s_iconst 63 C X at_62 kc_iconst_1 ?_
        refine s_goto 67 C X at_63 ?_
        refine s_nreturn C X at_67 rfl (by simp) rfl ?_
        rfl
      · rw [hE] at X
        refine Run.cast (st' := [(.int (0 : Int32))]) rfl ?_
        refine s_iloadN 59 C X at_58 rfl ?_
        refine s_icmp_ne 66 62 C X at_59 (fun _ => ?_) (fun c => absurd c (by decide))
        refine s_iconst 67 C X at_66 kc_iconst_0 ?_
        refine s_nreturn C X at_67 rfl (by simp) rfl ?_
        exfalso
        unfold refP at b_refused
        unfold carP at b_canCarry
        omega
  have t_c3 : ((x1 &&& (1 : Int32))).toInt = (0 : Int) := congrArg Int32.toInt c3
  refine s_iloadN 7 C X at_6 rfl ?_
  refine s_ldcInt 9 C X at_7 (List.mem_of_getElem? (i := 14) rfl) ?_
  refine s_iand 10 C X at_9 ?_
  refine s_ldcInt 12 C X at_10 (List.mem_of_getElem? (i := 33) rfl) ?_
  refine s_irem 13 C X at_12 (by decide) ?_
  obtain ⟨c1, e_c1⟩ : ∃ zz_ : Int32, zz_ = ((x0 &&& (2147483647 : Int32)) % (1114112 : Int32)) := ⟨_, rfl⟩
  refine Run.cast (st' := [(.int c1)]) (by subst e_c1; rfl) ?_
  have r_c : c1.toInt ≤ 1114111 := e_c1 ▸ own_low x0
  refine s_istoreN 14 C X (l' := #[.val (.int x0), .val (.int x1), .val (.int c1), .unset]) at_13 rfl ?_
  refine s_goto 41 C X at_14 ?_
  refine s_iloadN 42 C X at_41 rfl ?_
  refine s_callS 45 [(.int c1)] [] 0 C X at_42 (List.mem_of_getElem? (i := 22) rfl) (List.mem_of_getElem? (i := 23) rfl) (List.mem_of_getElem? (i := 3) rfl) (List.mem_of_getElem? (i := 24) rfl) (rm_refused l Z a0 hw c1 _ n0 X.sz) (lenOf pd__I_Z rfl) rfl rfl rfl (fun T v h6 X q => ?_)
  obtain ⟨⟨rfl, b_refused⟩ | ⟨rfl, b_refused⟩, hE⟩ := q
  · rw [hE] at X
    refine Run.cast (st' := [(.int (1 : Int32))]) rfl ?_
    refine s_if_ne 52 48 C X at_45 (fun _ => ?_) (fun c => absurd c (by decide))
    refine s_iconst 53 C X at_52 kc_iconst_0 ?_
    refine s_istoreN 54 C X (l' := #[.val (.int x0), .val (.int x1), .val (.int c1), .val (.int (0 : Int32))]) at_53 rfl ?_
    refine s_iloadN 55 C X at_54 rfl ?_
    refine s_callS 58 [(.int c1)] [] 0 C X at_55 (List.mem_of_getElem? (i := 25) rfl) (List.mem_of_getElem? (i := 26) rfl) (List.mem_of_getElem? (i := 27) rfl) (List.mem_of_getElem? (i := 28) rfl) (rm_canCarry l Z a0 hw c1 _ n0 X.sz) (lenOf pd__I_Z rfl) rfl rfl rfl (fun T v h7 X q => ?_)
    obtain ⟨⟨rfl, b_canCarry⟩ | ⟨rfl, b_canCarry⟩, hE⟩ := q
    · rw [hE] at X
      refine Run.cast (st' := [(.int (1 : Int32))]) rfl ?_
      refine s_iloadN 59 C X at_58 rfl ?_
      refine s_icmp_ne 66 62 C X at_59 (fun _ => ?_) (fun c => absurd c (by decide))
      refine s_iconst 67 C X at_66 kc_iconst_0 ?_
      refine s_nreturn C X at_67 rfl (by simp) rfl ?_
      exfalso
      unfold refP at b_refused
      unfold carP at b_canCarry
      omega
    · rw [hE] at X
      refine Run.cast (st' := [(.int (0 : Int32))]) rfl ?_
      refine s_iloadN 59 C X at_58 rfl ?_
      refine s_icmp_ne 66 62 C X at_59 (fun c => absurd (by decide : (0 : Int32) = (0 : Int32)) c) (fun _ => ?_)
      refine s_iconst 63 C X at_62 kc_iconst_1 ?_
      refine s_goto 67 C X at_63 ?_
      refine s_nreturn C X at_67 rfl (by simp) rfl ?_
      rfl
  · rw [hE] at X
    refine Run.cast (st' := [(.int (0 : Int32))]) rfl ?_
    refine s_if_ne 52 48 C X at_45 (fun c => absurd (by decide : (0 : Int32) = (0 : Int32)) c) (fun _ => ?_)
    refine s_iconst 49 C X at_48 kc_iconst_1 ?_
    refine s_goto 53 C X at_49 ?_
    refine s_istoreN 54 C X (l' := #[.val (.int x0), .val (.int x1), .val (.int c1), .val (.int (1 : Int32))]) at_53 rfl ?_
    refine s_iloadN 55 C X at_54 rfl ?_
    refine s_callS 58 [(.int c1)] [] 0 C X at_55 (List.mem_of_getElem? (i := 25) rfl) (List.mem_of_getElem? (i := 26) rfl) (List.mem_of_getElem? (i := 27) rfl) (List.mem_of_getElem? (i := 28) rfl) (rm_canCarry l Z a0 hw c1 _ n0 X.sz) (lenOf pd__I_Z rfl) rfl rfl rfl (fun T v h8 X q => ?_)
    obtain ⟨⟨rfl, b_canCarry⟩ | ⟨rfl, b_canCarry⟩, hE⟩ := q
    · rw [hE] at X
      refine Run.cast (st' := [(.int (1 : Int32))]) rfl ?_
      refine s_iloadN 59 C X at_58 rfl ?_
      refine s_icmp_ne 66 62 C X at_59 (fun c => absurd (by decide : (1 : Int32) = (1 : Int32)) c) (fun _ => ?_)
      refine s_iconst 63 C X at_62 kc_iconst_1 ?_
      refine s_goto 67 C X at_63 ?_
      refine s_nreturn C X at_67 rfl (by simp) rfl ?_
      rfl
    · rw [hE] at X
      refine Run.cast (st' := [(.int (0 : Int32))]) rfl ?_
      refine s_iloadN 59 C X at_58 rfl ?_
      refine s_icmp_ne 66 62 C X at_59 (fun _ => ?_) (fun c => absurd c (by decide))
      refine s_iconst 67 C X at_66 kc_iconst_0 ?_
      refine s_nreturn C X at_67 rfl (by simp) rfl ?_
      exfalso
      unfold refP at b_refused
      unfold carP at b_canCarry
      omega
set_option maxRecDepth 65536 in
set_option maxHeartbeats 40000000 in
theorem comes_1 {Post : Tables → Env → Array Value → State → Outcome → State → Prop} (hpost : ∀ tb e args s v u, (limb_1_1.after args s (.returned v) u = true ∧ limb_1_2.after args s (.returned v) u = true ∧ True) → FrameEnd s (.returned v) u (Jvm.fieldLocs frame_1_writes args s ++ Jvm.arrayLocs frame_1_arrays args s ++ Jvm.staticLocs frame_1_statics s) 16 128 → Post tb e args s (.returned v) u) :
    ArmFor flags0 classFile x code maxLocals ret World_1 tables_1 room_1 Calls_1 rest_1 Pre_1 Post := by
  intro l hfl _ _ p e ha hc hk s m args below hf hA hF happ hP
  obtain ⟨hcalls, hrest, hpre⟩ := hP
  obtain ⟨-, -, -, hnamed, -, -, -, hat⟩ := (Spec.applies_iff hf).mp happ
  obtain ⟨hg, hn⟩ := and_e (Cond.before_iff.mp (show (Jvm.Cond.and given_1 narrow_1).before args s = true from hpre))
  obtain ⟨g0, g1⟩ := and_e hg
  obtain ⟨ga0, gr0⟩ := and_e g1
  obtain ⟨w0, w1, rfl⟩ : ∃ w0 w1 : Value, args = #[w0, w1] := by
    have hs : args.size = 2 := by simpa [Cond.value, given_1] using g0
    obtain ⟨L⟩ := args
    match L, hs with
    | [w0, w1], _ => exact ⟨w0, w1, rfl⟩
  have hw := fun d (hd : d ∈ tables_1) => atoms_spec (ws := Jvm.Cond.code x code maxLocals ret :: tables_1) hat d (List.mem_cons_of_mem _ hd)
  have hfit : Fit s := fun {y c} hc i hi => by
    obtain ⟨ha, rfl⟩ := Array.getElem?_eq_some_iff.mp hc
    have q := List.all_eq_true.mp ((Array.all_eq_true_iff_forall_mem.mp hF) _ (Array.getElem_mem ha)) i (List.mem_range.mpr hi)
    simpa [Array.getElem?_eq_getElem hi] using q
  obtain ⟨i0, e0⟩ := is_v ga0
  obtain rfl : w0 = (.int i0) := Option.some.inj e0
  obtain ⟨i1, e1⟩ := is_v gr0
  obtain rfl : w1 = (.int i1) := Option.some.inj e1
  obtain ⟨n, o, h1, h2, h3, _, L, rfl, ⟨rfl, N⟩, hq⟩ := rm0 l s _ hw i0 i1  s.heap s.heap.size (Nat.le_refl _)  p e ha hc hk s m _ below hf ((Spec.applies_iff_loose hf).mp happ).1 ⟨rfl, State.Warmed39.refl s, rfl⟩ trivial
  exact ⟨n, _, h1, h2, h3, hpost _ _ _ _ _ _ ⟨Cond.after_iff.mpr rfl, Cond.after_iff.mpr (eq_i res_at (Term.int_eval (1)) rfl), trivial⟩ ⟨hq.1, hq.2.1, (hq.2.2.sift fun y hy => Or.inr (N y hy)).mono (by decide) (by decide)⟩⟩
theorem main_1_1 : Claimed_1_1 := comes_1 fun _ _ _ _ _ _ h hF => ⟨h.1, hF⟩
theorem main_1_2 : Claimed_1_2 := comes_1 fun _ _ _ _ _ _ h hF => ⟨h.2.1, hF⟩
end Jvm.Pilot.@@N@@
namespace Jvm.Pilot.@@N@@
open Jvm Jvm.ClassFile Sem Op Lib Jvm.Free Jvm.Stand Jvm.Pilot.@@N@@.Jvm.D
/-! MADE BY PROGRAM (witnessworld.py) out of the Statement's table words and the real class files: 12 classes; the members and pool entries that the words name. The judged class is class 1, her method 3. -/
namespace start1
open Jvm.ClassFile
def u (s : String) : CpInfo := .utf8 (stringToUtf16 s)
/-- a pool by its gaps: so many unusable entries, then the entry; so many at the end -/
def gap : Nat → List CpInfo → List CpInfo
  | 0, r => r
  | n + 1, r => .unusable :: gap n r
def poolList (es : List (Nat × CpInfo)) (last : Nat) : List CpInfo := es.foldr (fun e r => gap e.1 (e.2 :: r)) (gap last [])
def pool (es : List (Nat × CpInfo)) (last : Nat) : Array CpInfo := ⟨poolList es last⟩
def fileOf (pool : Array CpInfo) (this : Nat) (attrs : Array Attribute := #[]) (ms : Array MethodInfo := #[]) (fl : Nat := 33) (sup : Nat := 0) (ifs : Array Nat := #[]) (fds : Array FieldInfo := #[]) : ClassFile where
  minorVersion := 0
  majorVersion := 65
  constantPool := pool
  accessFlags := fl
  thisClass := this
  superClass := sup
  interfaces := ifs
  fields := fds
  methods := ms
  attributes := attrs
def plain (name : String) (sup : Option ClassId) : Class where
  name := name
  kind := .ordinary
  loader := none
  accessFlags := 33
  super := sup
  interfaces := #[]
  cf := none
  fields := #[]
  methods := #[]
  instanceTypes := #[]
  staticTypes := #[]
  resolved := #[]
  callSites := []
  init := .initialized
  statics := none
  mirror := none

def pool0 : Array CpInfo := pool [(5, u "<init>"), (0, u "()V"), (1, .class_ 10), (1, u "java/lang/Object")] 113

def k0m0 : Method := { name := "<init>", desc := "()V", sig := { parameters := [], returnType := none }, accessFlags := 1, code := none }
/-- java/lang/Object -/
def k0 : Class := { plain "java/lang/Object" none with
  accessFlags := 33
  interfaces := #[]
  cf := some (fileOf pool0 8 #[] #[{ accessFlags := 1, nameIndex := 5, descriptorIndex := 6, attributes := #[] }] 33 0 #[] #[])
  fields := #[]
  methods := #[k0m0]
  instanceTypes := #[]
  staticTypes := #[]
  resolved := Array.replicate 124 none
  statics := none }

def pool1 : Array CpInfo := pool [(2, .class_ 4), (1, u "java/lang/Object"), (0, u "<init>"), (0, u "()V"), (0, .integer 55295), (0, .integer 55296), (0, .integer 57343), (0, .integer 57344), (0, .integer 65533), (0, .integer 65534), (0, .integer 65535), (0, .integer 65536), (0, .integer 1114111), (0, .integer 2147483647), (0, .integer 1114112), (0, .methodref 19 20), (0, .class_ 21), (0, .nameAndType 22 23), (0, u "com/example/eventloom/eventloom/io/XmlOutputCanCarryPinLaw"), (0, u "boundary"), (0, u "(I)I"), (0, .methodref 25 26), (0, .class_ 27), (0, .nameAndType 28 29), (0, u "java/lang/Math"), (0, u "min"), (0, u "(II)I"), (0, .methodref 25 31), (0, .nameAndType 32 29), (0, u "max"), (0, .methodref 19 34), (0, .nameAndType 35 36), (0, u "refused"), (0, u "(I)Z"), (0, .methodref 38 39), (0, .class_ 40), (0, .nameAndType 41 36), (0, u "com/example/eventloom/eventloom/io/XmlOutput"), (0, u "canCarry"), (3, u "law"), (0, u "(II)Z")] 2

def k1m0 : Method := { name := "<init>", desc := "()V", sig := { parameters := [], returnType := none }, accessFlags := 2, code := none }
def k1c1 : Code := { maxStack := 4, maxLocals := 2, code := method_2_code, exceptionTable := #[], attributes := #[] }
def k1m1 : Method := { name := "boundary", desc := "(I)I", sig := { parameters := [.int], returnType := some .int }, accessFlags := 10, code := some k1c1 }
def k1c2 : Code := { maxStack := 2, maxLocals := 1, code := method_3_code, exceptionTable := #[], attributes := #[] }
def k1m2 : Method := { name := "refused", desc := "(I)Z", sig := { parameters := [.int], returnType := some .boolean }, accessFlags := 10, code := some k1c2 }
def k1c3 : Code := { maxStack := 4, maxLocals := 4, code := code, exceptionTable := #[], attributes := #[] }
def k1m3 : Method := { name := "law", desc := "(II)Z", sig := { parameters := [.int, .int], returnType := some .boolean }, accessFlags := 9, code := some k1c3 }
/-- com/example/eventloom/eventloom/io/XmlOutputCanCarryPinLaw -/
def k1 : Class := { plain "com/example/eventloom/eventloom/io/XmlOutputCanCarryPinLaw" (some 0) with
  accessFlags := 49
  interfaces := #[]
  cf := some (fileOf pool1 19 #[] #[{ accessFlags := 2, nameIndex := 5, descriptorIndex := 6, attributes := #[] }, { accessFlags := 10, nameIndex := 22, descriptorIndex := 23, attributes := #[] }, { accessFlags := 10, nameIndex := 35, descriptorIndex := 36, attributes := #[] }, { accessFlags := 9, nameIndex := 45, descriptorIndex := 46, attributes := #[] }] 49 2 #[] #[])
  fields := #[]
  methods := #[k1m0, k1m1, k1m2, k1m3]
  instanceTypes := #[]
  staticTypes := #[]
  resolved := Array.replicate 49 none
  statics := none }

def pool2 : Array CpInfo := pool [(1, .class_ 2), (0, u "java/lang/Math"), (1, .class_ 6), (1, u "java/lang/Object"), (0, u "<init>"), (0, u "()V"), (89, .class_ 100), (1, u "java/lang/Math$RandomNumberGeneratorHolder"), (71, u "negativeZeroFloatBits"), (0, u "J"), (2, u "negativeZeroDoubleBits"), (21, u "max"), (2, u "min"), (43, u "$assertionsDisabled"), (0, u "Z"), (88, u "(II)I"), (2, u "twoToTheDoubleScaleDown"), (0, u "D"), (4, u "twoToTheDoubleScaleUp"), (9, u "E"), (3, u "PI"), (2, u "TAU"), (2, u "DEGREES_TO_RADIANS"), (0, u "RADIANS_TO_DEGREES")] 94

def k2m0 : Method := { name := "<init>", desc := "()V", sig := { parameters := [], returnType := none }, accessFlags := 2, code := none }
def k2c1 : Code := { maxStack := 2, maxLocals := 2, code := jdk_29_method_65_code, exceptionTable := #[], attributes := #[] }
def k2m1 : Method := { name := "max", desc := "(II)I", sig := { parameters := [.int, .int], returnType := some .int }, accessFlags := 9, code := some k2c1 }
def k2c2 : Code := { maxStack := 2, maxLocals := 2, code := jdk_29_method_69_code, exceptionTable := #[], attributes := #[] }
def k2m2 : Method := { name := "min", desc := "(II)I", sig := { parameters := [.int, .int], returnType := some .int }, accessFlags := 9, code := some k2c2 }
/-- java/lang/Math -/
def k2 : Class := { plain "java/lang/Math" (some 0) with
  accessFlags := 49
  interfaces := #[]
  cf := some (fileOf pool2 1 #[.nestMembers #[98]] #[{ accessFlags := 2, nameIndex := 7, descriptorIndex := 8, attributes := #[] }, { accessFlags := 9, nameIndex := 198, descriptorIndex := 335, attributes := #[] }, { accessFlags := 9, nameIndex := 201, descriptorIndex := 335, attributes := #[] }] 49 4 #[] #[{ accessFlags := 25, nameIndex := 354, descriptorIndex := 339, attributes := #[] }, { accessFlags := 25, nameIndex := 358, descriptorIndex := 339, attributes := #[] }, { accessFlags := 25, nameIndex := 361, descriptorIndex := 339, attributes := #[] }, { accessFlags := 26, nameIndex := 364, descriptorIndex := 339, attributes := #[] }, { accessFlags := 26, nameIndex := 365, descriptorIndex := 339, attributes := #[] }, { accessFlags := 26, nameIndex := 172, descriptorIndex := 173, attributes := #[] }, { accessFlags := 26, nameIndex := 176, descriptorIndex := 173, attributes := #[] }, { accessFlags := 8, nameIndex := 344, descriptorIndex := 339, attributes := #[] }, { accessFlags := 8, nameIndex := 338, descriptorIndex := 339, attributes := #[] }, { accessFlags := 4120, nameIndex := 245, descriptorIndex := 246, attributes := #[] }])
  fields := #[{ name := "E", type := .double, accessFlags := 25, slot := 0, constantValue := 0 }, { name := "PI", type := .double, accessFlags := 25, slot := 1, constantValue := 0 }, { name := "TAU", type := .double, accessFlags := 25, slot := 2, constantValue := 0 }, { name := "DEGREES_TO_RADIANS", type := .double, accessFlags := 26, slot := 3, constantValue := 0 }, { name := "RADIANS_TO_DEGREES", type := .double, accessFlags := 26, slot := 4, constantValue := 0 }, { name := "negativeZeroFloatBits", type := .long, accessFlags := 26, slot := 5, constantValue := 0 }, { name := "negativeZeroDoubleBits", type := .long, accessFlags := 26, slot := 6, constantValue := 0 }, { name := "twoToTheDoubleScaleUp", type := .double, accessFlags := 8, slot := 7, constantValue := 0 }, { name := "twoToTheDoubleScaleDown", type := .double, accessFlags := 8, slot := 8, constantValue := 0 }, { name := "$assertionsDisabled", type := .boolean, accessFlags := 4120, slot := 9, constantValue := 0 }]
  methods := #[k2m0, k2m1, k2m2]
  instanceTypes := #[]
  staticTypes := #[.double, .double, .double, .double, .double, .long, .long, .double, .double, .boolean]
  resolved := Array.replicate 460 none
  statics := none }

def pool3 : Array CpInfo := pool [(1, .class_ 2), (0, u "java/lang/AutoCloseable"), (0, .class_ 4), (0, u "java/lang/Object")] 7

/-- java/lang/AutoCloseable -/
def k3 : Class := { plain "java/lang/AutoCloseable" (some 0) with
  accessFlags := 1537
  interfaces := #[]
  cf := some (fileOf pool3 1 #[] #[] 1537 3 #[] #[])
  fields := #[]
  methods := #[]
  instanceTypes := #[]
  staticTypes := #[]
  resolved := Array.replicate 12 none
  statics := none }

def pool4 : Array CpInfo := pool [(1, .class_ 2), (0, u "java/io/Closeable"), (0, .class_ 4), (0, u "java/lang/Object"), (0, .class_ 6), (0, u "java/lang/AutoCloseable")] 7

/-- java/io/Closeable -/
def k4 : Class := { plain "java/io/Closeable" (some 0) with
  accessFlags := 1537
  interfaces := #[3]
  cf := some (fileOf pool4 1 #[] #[] 1537 3 #[5] #[])
  fields := #[]
  methods := #[]
  instanceTypes := #[]
  staticTypes := #[]
  resolved := Array.replicate 14 none
  statics := none }

def pool5 : Array CpInfo := pool [(2, .class_ 4), (1, u "java/lang/Object"), (6, .class_ 13), (1, u "com/example/eventloom/eventloom/io/XmlOutput"), (0, u "document"), (0, u "Ljava/io/StringWriter;"), (2, u "file"), (0, u "Ljava/nio/file/Path;"), (12, u "writer"), (0, u "Ljavax/xml/stream/XMLStreamWriter;"), (29, u "depth"), (0, u "I"), (2, u "nothingSinceStart"), (0, u "Z"), (65, u "output"), (0, u "Lcom/example/eventloom/eventloom/io/Utf8$Output;"), (48, .integer 55295), (0, .integer 57344), (0, .integer 65533), (0, .integer 65536), (2, u "canCarry"), (0, u "(I)Z"), (35, .class_ 228), (0, u "java/io/Closeable"), (0, u "INDENT"), (0, u "Ljava/lang/String;")] 33

def k5c0 : Code := { maxStack := 2, maxLocals := 1, code := prog_65_method_14_code, exceptionTable := #[], attributes := #[] }
def k5m0 : Method := { name := "canCarry", desc := "(I)Z", sig := { parameters := [.int], returnType := some .boolean }, accessFlags := 9, code := some k5c0 }
/-- com/example/eventloom/eventloom/io/XmlOutput -/
def k5 : Class := { plain "com/example/eventloom/eventloom/io/XmlOutput" (some 0) with
  accessFlags := 49
  interfaces := #[4]
  cf := some (fileOf pool5 11 #[] #[{ accessFlags := 9, nameIndex := 190, descriptorIndex := 191, attributes := #[] }] 49 2 #[227] #[{ accessFlags := 26, nameIndex := 229, descriptorIndex := 230, attributes := #[] }, { accessFlags := 18, nameIndex := 18, descriptorIndex := 19, attributes := #[] }, { accessFlags := 18, nameIndex := 14, descriptorIndex := 15, attributes := #[] }, { accessFlags := 18, nameIndex := 32, descriptorIndex := 33, attributes := #[] }, { accessFlags := 2, nameIndex := 63, descriptorIndex := 64, attributes := #[] }, { accessFlags := 2, nameIndex := 67, descriptorIndex := 68, attributes := #[] }, { accessFlags := 2, nameIndex := 134, descriptorIndex := 135, attributes := #[] }])
  fields := #[{ name := "INDENT", type := (.object "java/lang/String"), accessFlags := 26, slot := 0, constantValue := 0 }, { name := "file", type := (.object "java/nio/file/Path"), accessFlags := 18, slot := 0, constantValue := 0 }, { name := "document", type := (.object "java/io/StringWriter"), accessFlags := 18, slot := 1, constantValue := 0 }, { name := "writer", type := (.object "javax/xml/stream/XMLStreamWriter"), accessFlags := 18, slot := 2, constantValue := 0 }, { name := "depth", type := .int, accessFlags := 2, slot := 3, constantValue := 0 }, { name := "nothingSinceStart", type := .boolean, accessFlags := 2, slot := 4, constantValue := 0 }, { name := "output", type := (.object "com/example/eventloom/eventloom/io/Utf8$Output"), accessFlags := 2, slot := 5, constantValue := 0 }]
  methods := #[k5m0]
  instanceTypes := #[(.object "java/nio/file/Path"), (.object "java/io/StringWriter"), (.object "javax/xml/stream/XMLStreamWriter"), .int, .boolean, (.object "com/example/eventloom/eventloom/io/Utf8$Output")]
  staticTypes := #[(.object "java/lang/String")]
  resolved := Array.replicate 264 none
  statics := none }

def pool6 : Array CpInfo := pool [(1, u "java/lang/Cloneable"), (0, .class_ 1), (0, u "java/lang/Object"), (0, .class_ 3)] 3

/-- java/lang/Cloneable -/
def k6 : Class := { plain "java/lang/Cloneable" (some 0) with
  accessFlags := 1537
  interfaces := #[]
  cf := some (fileOf pool6 2 #[] #[] 1537 4 #[] #[])
  fields := #[]
  methods := #[]
  instanceTypes := #[]
  staticTypes := #[]
  resolved := Array.replicate 8 none
  statics := none }

def pool7 : Array CpInfo := pool [(1, u "java/io/Serializable"), (0, .class_ 1), (0, u "java/lang/Object"), (0, .class_ 3)] 3

/-- java/io/Serializable -/
def k7 : Class := { plain "java/io/Serializable" (some 0) with
  accessFlags := 1537
  interfaces := #[]
  cf := some (fileOf pool7 2 #[] #[] 1537 4 #[] #[])
  fields := #[]
  methods := #[]
  instanceTypes := #[]
  staticTypes := #[]
  resolved := Array.replicate 8 none
  statics := none }

/-- the primitive byte -/
def k8 : Class := { plain "byte" none with kind := .primitive 'B', accessFlags := 0x411 }
/-- [B -/
def k9 : Class := { plain "[B" (some 0) with kind := .array 8 .byte, interfaces := #[6, 7], accessFlags := 1041 }

/-- the primitive int -/
def k10 : Class := { plain "int" none with kind := .primitive 'I', accessFlags := 0x411 }
/-- [I -/
def k11 : Class := { plain "[I" (some 0) with kind := .array 10 .int, interfaces := #[6, 7], accessFlags := 1041 }

def heap : Heap := #[]
def classes : Array Class := #[k0, k1, k2, k3, k4, k5, k6, k7, k8, k9, k10, k11]
def interned : List (Array UInt16 × Addr) := []
def slotsUsed : Nat := 0
def theMethod : MethodId := ⟨1, 3⟩
def args0 : Array Value := #[.int 5, .int 6]
def aboutOver (below : List Frame) : State where
  vm := { classes := classes, interned := interned.toArray }
  heap := heap
  slotsUsed := slotsUsed
  threads := #[{ frames := .invoking theMethod args0 :: below }]
def below0 : List Frame := [.native { method := ⟨0, 0⟩, args := #[] }]
def about1 : State := aboutOver below0
def p0 : Program := .bare "" "" ""
def e0 : Env := launch0.env 0 0 0
theorem w_frames : about1.frames = Frame.invoking theMethod args0 :: below0 := rfl
set_option maxRecDepth 65536 in
theorem w_args : argsFit about1.vm theMethod args0 = true := by decide +kernel
set_option maxRecDepth 65536 in
theorem w_heap : heapFits about1 = true := by decide +kernel
set_option maxRecDepth 65536 in
theorem w_runnable : about1.curStatus? = some .runnable := by decide +kernel
set_option maxRecDepth 65536 in
theorem w_alone : about1.alone = true := by decide +kernel
set_option maxRecDepth 65536 in
theorem w_named : about1.methodNamed? x = some theMethod := by decide +kernel
set_option maxRecDepth 65536 in
theorem w_hears : about1.hears theMethod below0 = true := by decide +kernel
set_option maxRecDepth 65536 in
theorem w_ripe : about1.ripe theMethod args0 below0 = true := by decide +kernel
theorem w_running : about1.status = .running := rfl
set_option maxRecDepth 65536 in
theorem w_room : about1.hasRoom e0.platform room_1 = true :=
  launch0.hasRoom_least _ room_1 (by decide +kernel) (by decide +kernel) (by decide +kernel) (by decide +kernel) (by decide +kernel) (by decide +kernel)
theorem allAtoms_all (ts : List Jvm.Cond) (a : Array Jvm.Value) (st : Jvm.State) : (allAtoms ts).before a st = ts.all (fun c => c.before a st) := by
  induction ts with
  | nil => rfl
  | cons c t ih =>
    show (Jvm.Cond.and c (allAtoms t)).before a st = _
    rw [Jvm.Cond.before_and, ih, List.all_cons]
def words1 : List Jvm.Cond := Jvm.Cond.code x code maxLocals ret :: tables_1
/-- a 'code' word, met by the world's own term for the bytes: nothing is compared byte by byte -/
theorem code_word {y : MethodName} {bytes : ByteArray} {mx : Nat} {rt : Option FieldType} {a : Array Value} {s : State} {m : MethodId} {meth : Method} {c : Code} (h1 : s.methodNamed? y = some m) (h2 : s.vm.method? m = some meth) (h3 : meth.code = some c) (h4 : c.code = bytes)
    (h5 : (c.maxLocals == mx && c.exceptionTable.isEmpty && decide (c.maxStack ≤ mostOperands) && decide (meth.sig.returnType = rt) && !meth.locks && decide (parseMethodDescriptor y.desc = some meth.sig)) = true) : (Jvm.Cond.code y bytes mx rt).before a s = true := by
  simp only [Bool.and_eq_true, beq_iff_eq, Bool.not_eq_true', decide_eq_true_eq] at h5
  obtain ⟨⟨⟨⟨⟨g1, g2⟩, g3⟩, g4⟩, g5⟩, g6⟩ := h5
  simp [Cond.before, Cond.holds, Cond.value, h1, h2, h3, h4, g1, g2, g3, g4, g5, g6]
def isCode : Jvm.Cond → Bool
  | .code _ _ _ _ => true
  | _ => false
theorem all_split {L : List Jvm.Cond} {P : Jvm.Cond → Bool} (h1 : L.all (fun c => isCode c || P c) = true) (h2 : ∀ c ∈ L.filter isCode, P c = true) : L.all P = true := by
  refine List.all_eq_true.mpr fun c hc => ?_
  have h := List.all_eq_true.mp h1 c hc
  rcases Bool.eq_false_or_eq_true (isCode c) with hi | hi
  · exact h2 c (List.mem_filter.mpr ⟨hc, hi⟩)
  · simpa [hi] using h
set_option maxRecDepth 65536 in
theorem w_c0 : (Jvm.Cond.code x code maxLocals ret).before args0 about1 = true := code_word (m := ⟨1, 3⟩) (meth := k1m3) (c := k1c3) (by decide +kernel) rfl rfl rfl (by decide +kernel)
set_option maxRecDepth 65536 in
theorem w_c1 : (Jvm.Cond.code ({ cls := "com/example/eventloom/eventloom/io/XmlOutputCanCarryPinLaw", name := "boundary", desc := "(I)I" } : Jvm.MethodName) method_2_code (2 : Nat) (Option.some Jvm.ClassFile.FieldType.int)).before args0 about1 = true := code_word (m := ⟨1, 1⟩) (meth := k1m1) (c := k1c1) (by decide +kernel) rfl rfl rfl (by decide +kernel)
set_option maxRecDepth 65536 in
theorem w_c2 : (Jvm.Cond.code ({ cls := "java/lang/Math", name := "min", desc := "(II)I" } : Jvm.MethodName) jdk_29_method_69_code (2 : Nat) (Option.some Jvm.ClassFile.FieldType.int)).before args0 about1 = true := code_word (m := ⟨2, 2⟩) (meth := k2m2) (c := k2c2) (by decide +kernel) rfl rfl rfl (by decide +kernel)
set_option maxRecDepth 65536 in
theorem w_c3 : (Jvm.Cond.code ({ cls := "java/lang/Math", name := "max", desc := "(II)I" } : Jvm.MethodName) jdk_29_method_65_code (2 : Nat) (Option.some Jvm.ClassFile.FieldType.int)).before args0 about1 = true := code_word (m := ⟨2, 1⟩) (meth := k2m1) (c := k2c1) (by decide +kernel) rfl rfl rfl (by decide +kernel)
set_option maxRecDepth 65536 in
theorem w_c4 : (Jvm.Cond.code ({ cls := "com/example/eventloom/eventloom/io/XmlOutputCanCarryPinLaw", name := "refused", desc := "(I)Z" } : Jvm.MethodName) method_3_code (1 : Nat) (Option.some Jvm.ClassFile.FieldType.boolean)).before args0 about1 = true := code_word (m := ⟨1, 2⟩) (meth := k1m2) (c := k1c2) (by decide +kernel) rfl rfl rfl (by decide +kernel)
set_option maxRecDepth 65536 in
theorem w_c5 : (Jvm.Cond.code ({ cls := "com/example/eventloom/eventloom/io/XmlOutput", name := "canCarry", desc := "(I)Z" } : Jvm.MethodName) prog_65_method_14_code (1 : Nat) (Option.some Jvm.ClassFile.FieldType.boolean)).before args0 about1 = true := code_word (m := ⟨5, 0⟩) (meth := k5m0) (c := k5c0) (by decide +kernel) rfl rfl rfl (by decide +kernel)
def codes1 : List Jvm.Cond := [Jvm.Cond.code x code maxLocals ret, Jvm.Cond.code ({ cls := "com/example/eventloom/eventloom/io/XmlOutputCanCarryPinLaw", name := "boundary", desc := "(I)I" } : Jvm.MethodName) method_2_code (2 : Nat) (Option.some Jvm.ClassFile.FieldType.int), Jvm.Cond.code ({ cls := "java/lang/Math", name := "min", desc := "(II)I" } : Jvm.MethodName) jdk_29_method_69_code (2 : Nat) (Option.some Jvm.ClassFile.FieldType.int), Jvm.Cond.code ({ cls := "java/lang/Math", name := "max", desc := "(II)I" } : Jvm.MethodName) jdk_29_method_65_code (2 : Nat) (Option.some Jvm.ClassFile.FieldType.int), Jvm.Cond.code ({ cls := "com/example/eventloom/eventloom/io/XmlOutputCanCarryPinLaw", name := "refused", desc := "(I)Z" } : Jvm.MethodName) method_3_code (1 : Nat) (Option.some Jvm.ClassFile.FieldType.boolean), Jvm.Cond.code ({ cls := "com/example/eventloom/eventloom/io/XmlOutput", name := "canCarry", desc := "(I)Z" } : Jvm.MethodName) prog_65_method_14_code (1 : Nat) (Option.some Jvm.ClassFile.FieldType.boolean)]
set_option maxRecDepth 65536 in
theorem codes_eq : words1.filter isCode = codes1 := rfl
theorem w_codes : ∀ c ∈ words1.filter isCode, c.before args0 about1 = true := by
  rw [codes_eq]
  intro c hc
  simp only [codes1, List.mem_cons, List.not_mem_nil, or_false] at hc
  rcases hc with rfl | rfl | rfl | rfl | rfl | rfl
  · exact w_c0
  · exact w_c1
  · exact w_c2
  · exact w_c3
  · exact w_c4
  · exact w_c5
set_option maxRecDepth 65536 in
theorem w_t1 : (words1.take 24).all (fun c => isCode c || c.before args0 about1) = true := by decide +kernel
set_option maxRecDepth 65536 in
theorem w_t2 : (words1.drop 24).all (fun c => isCode c || c.before args0 about1) = true := by decide +kernel
theorem w_tables : (allAtoms (Jvm.Cond.code x code maxLocals ret :: tables_1)).before args0 about1 = true := by
  rw [allAtoms_all]
  show words1.all (fun c => c.before args0 about1) = true
  refine all_split ?_ w_codes
  rw [← List.take_append_drop 24 words1, List.all_append, w_t1, w_t2]
  rfl
set_option maxRecDepth 65536 in
theorem w_case : (Jvm.Cond.and given_1 narrow_1).before args0 about1 = true := by decide +kernel
theorem w_applies : (headSpec (Jvm.Cond.code x code maxLocals ret :: tables_1) room_1).applies x e0.platform about1 = true :=
  (Spec.applies_iff w_frames).mpr ⟨w_running, w_runnable, w_alone, w_named, w_hears, w_ripe, w_room, w_tables⟩
theorem atStart : AtStart classFile x code maxLocals ret World_1 tables_1 room_1 Calls_1 rest_1 Pre_1 launch0 p0 e0 about1 theMethod args0 below0 :=
  ⟨lists_1, trivial, launch0.admits_env _ _ _, launch0.least_env, fairChoices_fair.cas, fairChoices_fair.clock, w_frames, w_args, w_heap, w_applies, trivial, trivial, w_case⟩
end start1
theorem witness_1 : WitnessClaimed_1 := ⟨start1.p0, start1.e0, start1.about1, start1.theMethod, start1.args0, start1.below0, start1.atStart⟩
end Jvm.Pilot.@@N@@
