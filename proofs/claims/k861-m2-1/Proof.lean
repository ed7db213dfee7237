import JvmDerived
import JvmDerived.Pilot.@@N@@Statement
import JvmDerived.Pilot.@@N@@Code
set_option linter.unusedVariables false
set_option linter.unusedSimpArgs false
namespace Jvm.OwnK
open Jvm Sem ClassFile Op Lib Jvm.Stand Jvm.Free Jvm.LawKit Jvm.RoadKit
section A
variable {tabs : List Jvm.Cond} {a0 : Array Value} {Z : State} {own nm : String} {code : ByteArray} {ml : Nat} {ret : Option FieldType} {p : Program} {l : Launch} {e : Env} {R : Room} {s : State} {m : MethodId} {args : Array Value} {below : List Frame} {meth : Method} {c : Code} {n0 : Nat} {T : State} {h : Heap} {k n : Nat} {Q : Option Value → Heap → Prop} {G : Outcome → State → List Loc → Prop} {pc : Nat} {ls : Array Slot} {st : List Value}
/-- what stands fast through a method's walk -/
def Cx (tabs : List Jvm.Cond) (a0 : Array Value) (Z : State) (own nm : String) (code : ByteArray) (ml : Nat) (ret : Option FieldType) (p : Program) (s : State) (m : MethodId) (meth : Method) (c : Code) : Prop :=
  p.tables.exec = Jvm.exec ∧ Z.Warmed39 s.vm ∧ c.code = code ∧ c.maxLocals = ml ∧ s.vm.findClass own = some m.cls ∧ meth.sig.returnType = ret ∧ meth.locks = false ∧ meth.name = nm ∧ ∀ d ∈ tabs, d.before a0 Z = true
/-- where the walk stands: the heap h, k cells and n slots made so far, nothing below n0 written -/
def St (p : Program) (l : Launch) (e : Env) (R : Room) (s : State) (m : MethodId) (args : Array Value) (below : List Frame) (meth : Method) (c : Code) (n0 : Nat) (T : State) (h : Heap) (k n : Nat) : Prop :=
  ∃ locs, Stand p l e R s m args below meth c T locs k n ∧ T.heap = h ∧ Fr n0 locs ∧ n0 ≤ s.heap.size
/-- from this frame the method ends, and returns what Q says -/
def Run (p : Program) (e : Env) (below : List Frame) (n0 : Nat) (Q : Option Value → Heap → Prop) (G : Outcome → State → List Loc → Prop) (m : MethodId) (T : State) (pc : Nat) (ls : Array Slot) (st : List Value) : Prop :=
  ∃ s₂ o, Steps p.tables e below (T.setTop (mkF m pc ls st)) s₂ ∧ s₂.status = .running ∧ Ended s₂ below o ∧ ∃ v L, o = .returned v ∧ (Q v s₂.heap ∧ Fr n0 L) ∧ G o s₂ L
theorem Run.step {T' : State} {pc' : Nat} {ls' : Array Slot} {st' : List Value} (f : ∀ t, Steps p.tables e below (T'.setTop (mkF m pc' ls' st')) t → Steps p.tables e below (T.setTop (mkF m pc ls st)) t) (r : Run p e below n0 Q G m T' pc' ls' st') : Run p e below n0 Q G m T pc ls st := by
  obtain ⟨s₂, o, h1, h2⟩ := r
  exact ⟨s₂, o, f _ h1, h2⟩
theorem Run.steps {T' : State} {pc' : Nat} {ls' : Array Slot} {st' : List Value} (f : Steps p.tables e below (T.setTop (mkF m pc ls st)) (T'.setTop (mkF m pc' ls' st'))) (r : Run p e below n0 Q G m T' pc' ls' st') : Run p e below n0 Q G m T pc ls st := Run.step (fun _ q => f.trans q) r
theorem Run.cast {st' : List Value} (q : st = st') (r : Run p e below n0 Q G m T pc ls st') : Run p e below n0 Q G m T pc ls st := q ▸ r
theorem St.at' (X : St p l e R s m args below meth c n0 T h k n) : Jvm.At T m c below := by obtain ⟨_, X, -⟩ := X; exact X.here
theorem St.sz (X : St p l e R s m args below meth c n0 T h k n) : n0 ≤ h.size := by
  obtain ⟨_, X, rfl, -, q⟩ := X
  exact Nat.le_trans q X.same.2.1
theorem Cx.d {r : Except DecodeError (Instr × Nat)} (C : Cx tabs a0 Z own nm code ml ret p s m meth c) (q : decode code pc = r) : decode c.code pc = r := hb C.2.2.1 q
theorem Cx.w {d : Jvm.Cond} (C : Cx tabs a0 Z own nm code ml ret p s m meth c) (q : d ∈ tabs) : d.before a0 Z = true := C.2.2.2.2.2.2.2.2 d q
theorem s_iloadN (pc' : Nat) (C : Cx tabs a0 Z own nm code ml ret p s m meth c) (X : St p l e R s m args below meth c n0 T h k n) {i : Fin 4} {v : Int32} (hd : decode code pc = .ok (.iload_n i, 1)) (hl : ls[i.val]? = some (.val (.int v))) (r : Run p e below n0 Q G m T pc' ls (.int v :: st)) (hp : pc + 1 = pc' := by rfl) : Run p e below n0 Q G m T pc ls st := by
  subst hp
  exact Run.step (fun t q => XS.iloadN X.at' C.1 rfl (C.d hd) hl q) r
theorem s_iload (pc' : Nat) (C : Cx tabs a0 Z own nm code ml ret p s m meth c) (X : St p l e R s m args below meth c n0 T h k n) {i : Nat} {v : Int32} (hd : decode code pc = .ok (.iload i, 2)) (hl : ls[i]? = some (.val (.int v))) (r : Run p e below n0 Q G m T pc' ls (.int v :: st)) (hp : pc + 2 = pc' := by rfl) : Run p e below n0 Q G m T pc ls st := by
  subst hp
  exact Run.step (fun t q => XS.iload X.at' C.1 rfl (C.d hd) hl q) r
theorem s_aloadN (pc' : Nat) (C : Cx tabs a0 Z own nm code ml ret p s m meth c) (X : St p l e R s m args below meth c n0 T h k n) {i : Fin 4} {v : Value} (hd : decode code pc = .ok (.aload_n i, 1)) (hl : ls[i.val]? = some (.val v)) (hv : v.isRef = true) (r : Run p e below n0 Q G m T pc' ls (v :: st)) (hp : pc + 1 = pc' := by rfl) : Run p e below n0 Q G m T pc ls st := by
  subst hp
  exact Run.step (fun t q => XS.aloadN X.at' C.1 rfl (C.d hd) hl hv q) r
theorem s_aload (pc' : Nat) (C : Cx tabs a0 Z own nm code ml ret p s m meth c) (X : St p l e R s m args below meth c n0 T h k n) {i : Nat} {v : Value} (hd : decode code pc = .ok (.aload i, 2)) (hl : ls[i]? = some (.val v)) (hv : v.isRef = true) (r : Run p e below n0 Q G m T pc' ls (v :: st)) (hp : pc + 2 = pc' := by rfl) : Run p e below n0 Q G m T pc ls st := by
  subst hp
  exact Run.step (fun t q => XS.aload X.at' C.1 rfl (C.d hd) hl hv q) r
theorem s_istore (pc' : Nat) (C : Cx tabs a0 Z own nm code ml ret p s m meth c) (X : St p l e R s m args below meth c n0 T h k n) {i : Nat} {v : Int32} {l' : Array Slot} (hd : decode code pc = .ok (.istore i, 2)) (hl : storeLocals ls i (.int v) = some l') (r : Run p e below n0 Q G m T pc' l' st) (hp : pc + 2 = pc' := by rfl) : Run p e below n0 Q G m T pc ls (.int v :: st) := by
  subst hp
  exact Run.step (fun t q => XS.istore X.at' C.1 rfl (C.d hd) rfl hl q) r
theorem s_astore (pc' : Nat) (C : Cx tabs a0 Z own nm code ml ret p s m meth c) (X : St p l e R s m args below meth c n0 T h k n) {i : Nat} {v : Value} {l' : Array Slot} (hd : decode code pc = .ok (.astore i, 2)) (hv : v.isRef = true) (hl : storeLocals ls i v = some l') (r : Run p e below n0 Q G m T pc' l' st) (hp : pc + 2 = pc' := by rfl) : Run p e below n0 Q G m T pc ls (v :: st) := by
  subst hp
  exact Run.step (fun t q => XS.astore X.at' C.1 rfl (C.d hd) rfl hv hl q) r
theorem s_iinc (pc' : Nat) (C : Cx tabs a0 Z own nm code ml ret p s m meth c) (X : St p l e R s m args below meth c n0 T h k n) {i : Nat} {cst : Int} {x z : Int32} {l' : Array Slot} (hd : decode code pc = .ok (.iinc i cst, 3)) (hz : Int32.ofInt cst = z) (hl : ls[i]? = some (.val (.int x))) (hl' : storeLocals ls i (.int (x + z)) = some l') (r : Run p e below n0 Q G m T pc' l' st) (hp : pc + 3 = pc' := by rfl) : Run p e below n0 Q G m T pc ls st := by
  subst hp
  exact Run.step (fun t q => XS.iinc X.at' C.1 rfl (C.d hd) hl (by rw [hz]; exact hl') q) r
theorem s_iconst (pc' : Nat) (C : Cx tabs a0 Z own nm code ml ret p s m meth c) (X : St p l e R s m args below meth c n0 T h k n) {i : Int} {z : Int32} (hd : decode code pc = .ok (.iconst i, 1)) (hz : Int32.ofInt i = z) (r : Run p e below n0 Q G m T pc' ls (.int z :: st)) (hp : pc + 1 = pc' := by rfl) : Run p e below n0 Q G m T pc ls st := by
  subst hp
  exact Run.step (fun t q => XS.iconst X.at' C.1 rfl (C.d hd) (by rw [hz]; exact q)) r
theorem s_bipush (pc' : Nat) (C : Cx tabs a0 Z own nm code ml ret p s m meth c) (X : St p l e R s m args below meth c n0 T h k n) {i : Int} {z : Int32} (hd : decode code pc = .ok (.bipush i, 2)) (hz : (Int8.ofInt i).toInt32 = z) (r : Run p e below n0 Q G m T pc' ls (.int z :: st)) (hp : pc + 2 = pc' := by rfl) : Run p e below n0 Q G m T pc ls st := by
  subst hp
  exact Run.step (fun t q => XS.bipush X.at' C.1 rfl (C.d hd) (by rw [hz]; exact q)) r
theorem s_sipush (pc' : Nat) (C : Cx tabs a0 Z own nm code ml ret p s m meth c) (X : St p l e R s m args below meth c n0 T h k n) {i : Int} {z : Int32} (hd : decode code pc = .ok (.sipush i, 3)) (hz : (Int16.ofInt i).toInt32 = z) (r : Run p e below n0 Q G m T pc' ls (.int z :: st)) (hp : pc + 3 = pc' := by rfl) : Run p e below n0 Q G m T pc ls st := by
  subst hp
  exact Run.step (fun t q => XS.sipush X.at' C.1 rfl (C.d hd) (by rw [hz]; exact q)) r
theorem s_iadd (pc' : Nat) (C : Cx tabs a0 Z own nm code ml ret p s m meth c) (X : St p l e R s m args below meth c n0 T h k n) {x y : Int32} (hd : decode code pc = .ok (.iadd, 1)) (r : Run p e below n0 Q G m T pc' ls (.int (x + y) :: st)) (hp : pc + 1 = pc' := by rfl) : Run p e below n0 Q G m T pc ls (.int y :: .int x :: st) := by
  subst hp
  exact Run.step (fun t q => XS.iadd X.at' C.1 rfl (C.d hd) rfl q) r
theorem s_isub (pc' : Nat) (C : Cx tabs a0 Z own nm code ml ret p s m meth c) (X : St p l e R s m args below meth c n0 T h k n) {x y : Int32} (hd : decode code pc = .ok (.isub, 1)) (r : Run p e below n0 Q G m T pc' ls (.int (x - y) :: st)) (hp : pc + 1 = pc' := by rfl) : Run p e below n0 Q G m T pc ls (.int y :: .int x :: st) := by
  subst hp
  exact Run.step (fun t q => XS.isub X.at' C.1 rfl (C.d hd) rfl q) r
theorem s_iand (pc' : Nat) (C : Cx tabs a0 Z own nm code ml ret p s m meth c) (X : St p l e R s m args below meth c n0 T h k n) {x y : Int32} (hd : decode code pc = .ok (.iand, 1)) (r : Run p e below n0 Q G m T pc' ls (.int (x &&& y) :: st)) (hp : pc + 1 = pc' := by rfl) : Run p e below n0 Q G m T pc ls (.int y :: .int x :: st) := by
  subst hp
  exact Run.step (fun t q => XS.iand X.at' C.1 rfl (C.d hd) rfl q) r
theorem s_irem (pc' : Nat) (C : Cx tabs a0 Z own nm code ml ret p s m meth c) (X : St p l e R s m args below meth c n0 T h k n) {x y : Int32} (hd : decode code pc = .ok (.irem, 1)) (hy : y ≠ 0) (r : Run p e below n0 Q G m T pc' ls (.int (x % y) :: st)) (hp : pc + 1 = pc' := by rfl) : Run p e below n0 Q G m T pc ls (.int y :: .int x :: st) := by
  subst hp
  exact Run.step (fun t q => XS.irem X.at' C.1 rfl (C.d hd) rfl hy (by rw [show x - x / y * y = x % y from irem_eq_mod x y]; exact q)) r
theorem s_i2b (pc' : Nat) (C : Cx tabs a0 Z own nm code ml ret p s m meth c) (X : St p l e R s m args below meth c n0 T h k n) {x : Int32} (hd : decode code pc = .ok (.i2b, 1)) (r : Run p e below n0 Q G m T pc' ls (.int x.toInt8.toInt32 :: st)) (hp : pc + 1 = pc' := by rfl) : Run p e below n0 Q G m T pc ls (.int x :: st) := by
  subst hp
  exact Run.step (fun t q => XT.i2b X.at' C.1 rfl (C.d hd) rfl q) r
theorem s_goto (pc' : Nat) (C : Cx tabs a0 Z own nm code ml ret p s m meth c) (X : St p l e R s m args below meth c n0 T h k n) {o : Int} (hd : decode code pc = .ok (.goto o, 3)) (r : Run p e below n0 Q G m T pc' ls st) (hp : 0 ≤ (pc : Int) + o ∧ ((pc : Int) + o).toNat = pc' := by decide) : Run p e below n0 Q G m T pc ls st := by
  exact Run.step (fun t q => XS.goto X.at' C.1 rfl rfl (C.d hd) hp.1 hp.2 q) r
theorem s_icmp_lt (pY pN : Nat) (C : Cx tabs a0 Z own nm code ml ret p s m meth c) (X : St p l e R s m args below meth c n0 T h k n) {x y : Int32} {o : Int} (hd : decode code pc = .ok (.if_icmp .lt o, 3)) (ry : x < y → Run p e below n0 Q G m T pY ls st) (rn : ¬ x < y → Run p e below n0 Q G m T pN ls st) (hp : 0 ≤ (pc : Int) + o ∧ ((pc : Int) + o).toNat = pY ∧ pc + 3 = pN := by decide) : Run p e below n0 Q G m T pc ls (.int y :: .int x :: st) := by
  by_cases g : x < y
  · exact Run.step (fun t q => XS.icmpYes X.at' C.1 rfl rfl (C.d hd) rfl (tlt g).1 hp.1 hp.2.1 q) (ry g)
  · obtain rfl := hp.2.2
    exact Run.step (fun t q => XS.icmpNo X.at' C.1 rfl (C.d hd) rfl (flt g).1 q) (rn g)
theorem s_icmp_ge (pY pN : Nat) (C : Cx tabs a0 Z own nm code ml ret p s m meth c) (X : St p l e R s m args below meth c n0 T h k n) {x y : Int32} {o : Int} (hd : decode code pc = .ok (.if_icmp .ge o, 3)) (ry : ¬ x < y → Run p e below n0 Q G m T pY ls st) (rn : x < y → Run p e below n0 Q G m T pN ls st) (hp : 0 ≤ (pc : Int) + o ∧ ((pc : Int) + o).toNat = pY ∧ pc + 3 = pN := by decide) : Run p e below n0 Q G m T pc ls (.int y :: .int x :: st) := by
  by_cases g : x < y
  · obtain rfl := hp.2.2
    exact Run.step (fun t q => XS.icmpNo X.at' C.1 rfl (C.d hd) rfl (tlt g).2.1 q) (rn g)
  · exact Run.step (fun t q => XS.icmpYes X.at' C.1 rfl rfl (C.d hd) rfl (flt g).2.1 hp.1 hp.2.1 q) (ry g)
theorem s_if_ge (pY pN : Nat) (C : Cx tabs a0 Z own nm code ml ret p s m meth c) (X : St p l e R s m args below meth c n0 T h k n) {x : Int32} {o : Int} (hd : decode code pc = .ok (.ifCond .ge o, 3)) (ry : ¬ x < (0 : Int32) → Run p e below n0 Q G m T pY ls st) (rn : x < (0 : Int32) → Run p e below n0 Q G m T pN ls st) (hp : 0 ≤ (pc : Int) + o ∧ ((pc : Int) + o).toNat = pY ∧ pc + 3 = pN := by decide) : Run p e below n0 Q G m T pc ls (.int x :: st) := by
  by_cases g : x < (0 : Int32)
  · obtain rfl := hp.2.2
    exact Run.step (fun t q => XS.ifNo X.at' C.1 rfl (C.d hd) rfl ((if0 _ _).trans (tlt g).2.1) q) (rn g)
  · exact Run.step (fun t q => XS.ifYes X.at' C.1 rfl rfl (C.d hd) rfl ((if0 _ _).trans (flt g).2.1) hp.1 hp.2.1 q) (ry g)
theorem s_icmp_le (pY pN : Nat) (C : Cx tabs a0 Z own nm code ml ret p s m meth c) (X : St p l e R s m args below meth c n0 T h k n) {x y : Int32} {o : Int} (hd : decode code pc = .ok (.if_icmp .le o, 3)) (ry : ¬ y < x → Run p e below n0 Q G m T pY ls st) (rn : y < x → Run p e below n0 Q G m T pN ls st) (hp : 0 ≤ (pc : Int) + o ∧ ((pc : Int) + o).toNat = pY ∧ pc + 3 = pN := by decide) : Run p e below n0 Q G m T pc ls (.int y :: .int x :: st) := by
  by_cases g : y < x
  · obtain rfl := hp.2.2
    exact Run.step (fun t q => XS.icmpNo X.at' C.1 rfl (C.d hd) rfl (tlt g).2.2.2 q) (rn g)
  · exact Run.step (fun t q => XS.icmpYes X.at' C.1 rfl rfl (C.d hd) rfl (flt g).2.2.2 hp.1 hp.2.1 q) (ry g)
theorem s_if_le (pY pN : Nat) (C : Cx tabs a0 Z own nm code ml ret p s m meth c) (X : St p l e R s m args below meth c n0 T h k n) {x : Int32} {o : Int} (hd : decode code pc = .ok (.ifCond .le o, 3)) (ry : ¬ (0 : Int32) < x → Run p e below n0 Q G m T pY ls st) (rn : (0 : Int32) < x → Run p e below n0 Q G m T pN ls st) (hp : 0 ≤ (pc : Int) + o ∧ ((pc : Int) + o).toNat = pY ∧ pc + 3 = pN := by decide) : Run p e below n0 Q G m T pc ls (.int x :: st) := by
  by_cases g : (0 : Int32) < x
  · obtain rfl := hp.2.2
    exact Run.step (fun t q => XS.ifNo X.at' C.1 rfl (C.d hd) rfl ((if0 _ _).trans (tlt g).2.2.2) q) (rn g)
  · exact Run.step (fun t q => XS.ifYes X.at' C.1 rfl rfl (C.d hd) rfl ((if0 _ _).trans (flt g).2.2.2) hp.1 hp.2.1 q) (ry g)
theorem s_icmp_eq (pY pN : Nat) (C : Cx tabs a0 Z own nm code ml ret p s m meth c) (X : St p l e R s m args below meth c n0 T h k n) {x y : Int32} {o : Int} (hd : decode code pc = .ok (.if_icmp .eq o, 3)) (ry : x = y → Run p e below n0 Q G m T pY ls st) (rn : ¬ x = y → Run p e below n0 Q G m T pN ls st) (hp : 0 ≤ (pc : Int) + o ∧ ((pc : Int) + o).toNat = pY ∧ pc + 3 = pN := by decide) : Run p e below n0 Q G m T pc ls (.int y :: .int x :: st) := by
  by_cases g : x = y
  · exact Run.step (fun t q => XS.icmpYes X.at' C.1 rfl rfl (C.d hd) rfl (teq g).1 hp.1 hp.2.1 q) (ry g)
  · obtain rfl := hp.2.2
    exact Run.step (fun t q => XS.icmpNo X.at' C.1 rfl (C.d hd) rfl (feq g).1 q) (rn g)
theorem s_if_eq (pY pN : Nat) (C : Cx tabs a0 Z own nm code ml ret p s m meth c) (X : St p l e R s m args below meth c n0 T h k n) {x : Int32} {o : Int} (hd : decode code pc = .ok (.ifCond .eq o, 3)) (ry : x = (0 : Int32) → Run p e below n0 Q G m T pY ls st) (rn : ¬ x = (0 : Int32) → Run p e below n0 Q G m T pN ls st) (hp : 0 ≤ (pc : Int) + o ∧ ((pc : Int) + o).toNat = pY ∧ pc + 3 = pN := by decide) : Run p e below n0 Q G m T pc ls (.int x :: st) := by
  by_cases g : x = (0 : Int32)
  · exact Run.step (fun t q => XS.ifYes X.at' C.1 rfl rfl (C.d hd) rfl ((if0 _ _).trans (teq g).1) hp.1 hp.2.1 q) (ry g)
  · obtain rfl := hp.2.2
    exact Run.step (fun t q => XS.ifNo X.at' C.1 rfl (C.d hd) rfl ((if0 _ _).trans (feq g).1) q) (rn g)
theorem s_icmp_ne (pY pN : Nat) (C : Cx tabs a0 Z own nm code ml ret p s m meth c) (X : St p l e R s m args below meth c n0 T h k n) {x y : Int32} {o : Int} (hd : decode code pc = .ok (.if_icmp .ne o, 3)) (ry : ¬ x = y → Run p e below n0 Q G m T pY ls st) (rn : x = y → Run p e below n0 Q G m T pN ls st) (hp : 0 ≤ (pc : Int) + o ∧ ((pc : Int) + o).toNat = pY ∧ pc + 3 = pN := by decide) : Run p e below n0 Q G m T pc ls (.int y :: .int x :: st) := by
  by_cases g : x = y
  · obtain rfl := hp.2.2
    exact Run.step (fun t q => XS.icmpNo X.at' C.1 rfl (C.d hd) rfl (teq g).2 q) (rn g)
  · exact Run.step (fun t q => XS.icmpYes X.at' C.1 rfl rfl (C.d hd) rfl (feq g).2 hp.1 hp.2.1 q) (ry g)
theorem s_if_ne (pY pN : Nat) (C : Cx tabs a0 Z own nm code ml ret p s m meth c) (X : St p l e R s m args below meth c n0 T h k n) {x : Int32} {o : Int} (hd : decode code pc = .ok (.ifCond .ne o, 3)) (ry : ¬ x = (0 : Int32) → Run p e below n0 Q G m T pY ls st) (rn : x = (0 : Int32) → Run p e below n0 Q G m T pN ls st) (hp : 0 ≤ (pc : Int) + o ∧ ((pc : Int) + o).toNat = pY ∧ pc + 3 = pN := by decide) : Run p e below n0 Q G m T pc ls (.int x :: st) := by
  by_cases g : x = (0 : Int32)
  · obtain rfl := hp.2.2
    exact Run.step (fun t q => XS.ifNo X.at' C.1 rfl (C.d hd) rfl ((if0 _ _).trans (teq g).2) q) (rn g)
  · exact Run.step (fun t q => XS.ifYes X.at' C.1 rfl rfl (C.d hd) rfl ((if0 _ _).trans (feq g).2) hp.1 hp.2.1 q) (ry g)
theorem s_ldcInt (pc' : Nat) (C : Cx tabs a0 Z own nm code ml ret p s m meth c) (X : St p l e R s m args below meth c n0 T h k n) {idx : Nat} {z : Int32} (hd : decode code pc = .ok (.ldc idx, 2)) (w : Jvm.Cond.constant own idx z ∈ tabs) (r : Run p e below n0 Q G m T pc' ls (.int z :: st)) (hp : pc + 2 = pc' := by rfl) : Run p e below n0 Q G m T pc ls st := by
  subst hp
  obtain ⟨_, Y, -⟩ := X
  exact Run.step (Y.ldcInt C.1 C.2.2.2.2.1 (mvT C.2.1 (C.w w)) (g := mkF m pc ls st) rfl (C.d hd)) r
theorem FE_mono {kc ks : Nat} (hk : k ≤ kc) (hn : n ≤ ks) : ∀ (v : Option Value) (t : State) (L : List Loc), FrameEnd s (.returned v) t L k n → FrameEnd s (.returned v) t L kc ks := fun v t L h => ⟨h.1, h.2.1, h.2.2.mono hk hn⟩
theorem Run.done (C : Cx tabs a0 Z own nm code ml ret p s m meth c) (X : St p l e R s m args below meth c n0 T h k n) {v : Option Value} (hv : ret = none → v = none) (hG : ∀ (v : Option Value) (t : State) (L : List Loc), FrameEnd s (.returned v) t L k n → G (.returned v) t L) (q : Q v h) (f : ∀ locs fs, Stand p l e R s m args below meth c T locs k n → (∀ (f : JFrame) (acts : List Action), f.method = m → f.locked = none → f.entered = [] → (doReturn e (T.setTop f) acts v).1 = T.setFrames fs) → Steps p.tables e below (T.setTop (mkF m pc ls st)) (T.setFrames fs)) : Run p e below n0 Q G m T pc ls st := by
  obtain ⟨locs, Y, rfl, N, -⟩ := X
  obtain ⟨fs, hr, hrun, hended, hW, hsame⟩ := Y.leave (v := v) (by rw [C.2.2.2.2.2.1]; exact hv) C.2.2.2.2.2.2.1
  exact ⟨_, _, f locs fs Y hr, hrun, hended, _, _, rfl, ⟨q, N⟩, hG _ _ _ ⟨⟨_, rfl⟩, hW, hsame⟩⟩
theorem s_return (C : Cx tabs a0 Z own nm code ml ret p s m meth c) (X : St p l e R s m args below meth c n0 T h k n) (hd : decode code pc = .ok (.return_, 1)) (hr : ret = none) (q : Q none h) (hG : ∀ (v : Option Value) (t : State) (L : List Loc), FrameEnd s (.returned v) t L k n → G (.returned v) t L := by exact FE_mono (by decide) (by decide)) : Run p e below n0 Q G m T pc ls [] := by
  subst hr
  exact Run.done C X (fun _ => rfl) hG q (fun locs fs Y hr => Y.returnOut C.1 C.2.2.2.2.2.1 (C.d hd) hr)
theorem s_ireturn (C : Cx tabs a0 Z own nm code ml ret p s m meth c) (X : St p l e R s m args below meth c n0 T h k n) {z : Int32} (hd : decode code pc = .ok (.ireturn, 1)) (hr : ret = some .int) (q : Q (some (.int z)) h) (hG : ∀ (v : Option Value) (t : State) (L : List Loc), FrameEnd s (.returned v) t L k n → G (.returned v) t L := by exact FE_mono (by decide) (by decide)) : Run p e below n0 Q G m T pc ls (.int z :: st) := by
  subst hr
  refine Run.done C X (fun w => by cases w) hG q (fun locs fs Y hr => ?_)
  exact retOut Y C.1 C.2.2.2.2.2.1 (t := .int) rfl (Or.inl ⟨rfl, Or.inl rfl, _, rfl⟩) (C.d hd) hr
theorem s_nreturn (C : Cx tabs a0 Z own nm code ml ret p s m meth c) (X : St p l e R s m args below meth c n0 T h k n) {z z' : Int32} {t : FieldType} (hd : decode code pc = .ok (.ireturn, 1)) (hr : ret = some t) (ht : t = .boolean ∨ t = .byte ∨ t = .char ∨ t = .short) (hz : nar t z = z') (q : Q (some (.int z')) h) (hG : ∀ (v : Option Value) (t : State) (L : List Loc), FrameEnd s (.returned v) t L k n → G (.returned v) t L := by exact FE_mono (by decide) (by decide)) : Run p e below n0 Q G m T pc ls (.int z :: st) := by
  subst hr hz
  refine Run.done C X (fun w => by cases w) hG q (fun locs fs Y hr => ?_)
  exact retN Y C.1 C.2.2.2.2.2.1 ht (C.d hd) hr
theorem s_areturn (C : Cx tabs a0 Z own nm code ml ret p s m meth c) (X : St p l e R s m args below meth c n0 T h k n) {v : Value} {t : FieldType} (hd : decode code pc = .ok (.areturn, 1)) (hr : ret = some t) (ht : t.isReference = true) (hv : v.isRef = true) (q : Q (some v) h) (hG : ∀ (v : Option Value) (t : State) (L : List Loc), FrameEnd s (.returned v) t L k n → G (.returned v) t L := by exact FE_mono (by decide) (by decide)) : Run p e below n0 Q G m T pc ls (v :: st) := by
  subst hr
  refine Run.done C X (fun w => by cases w) hG q (fun locs fs Y hr => ?_)
  exact retOut Y C.1 C.2.2.2.2.2.1 (t := t) (by rcases ref_cases hv with rfl | ⟨_, rfl⟩ <;> cases t <;> first | rfl | simp [FieldType.isReference] at ht) (Or.inr (Or.inr (Or.inr (Or.inr ⟨rfl, ht, hv⟩)))) (C.d hd) hr
theorem s_getfield (pc' : Nat) (C : Cx tabs a0 Z own nm code ml ret p s m meth c) (X : St p l e R s m args below meth c n0 T h k n) {R0 O fn d host : String} {idx : Nat} {a : Addr} {v : Value} (hd : decode code pc = .ok (.getfield idx, 3)) (w : Jvm.Cond.fieldLink own idx R0 fn d ∈ tabs ∨ Jvm.Cond.fieldLinkNest own idx R0 fn d host ∈ tabs) (via : Via Z R0 O fn d) (F : Fld Z h a O fn d v) (r : ∀ T', St p l e R s m args below meth c n0 T' h k n → Run p e below n0 Q G m T' pc' ls (v :: st)) (hp : pc + 3 = pc' := by rfl) : Run p e below n0 Q G m T pc ls (.ref a :: st) := by
  subst hp
  obtain ⟨locs, Y, eT, N, q⟩ := X
  obtain ⟨T', Y', e', f⟩ := getF (host := host) Y C.1 C.2.1 C.2.2.2.2.1 (w.imp C.w C.w) via eT F (g := mkF m pc ls (.ref a :: st)) rfl rfl (C.d hd)
  exact Run.step f (r T' ⟨locs, Y', e', N, q⟩)
theorem s_getstatic (pc' : Nat) (C : Cx tabs a0 Z own nm code ml ret p s m meth c) (X : St p l e R s m args below meth c n0 T h k n) {R0 O fn d host : String} {idx : Nat} {v : Value} (hd : decode code pc = .ok (.getstatic idx, 3)) (w : Jvm.Cond.fieldLink own idx R0 fn d ∈ tabs ∨ Jvm.Cond.fieldLinkNest own idx R0 fn d host ∈ tabs) (via : Via Z R0 O fn d) (F : Sta Z h O fn d v) (r : ∀ T', St p l e R s m args below meth c n0 T' h k n → Run p e below n0 Q G m T' pc' ls (v :: st)) (hp : pc + 3 = pc' := by rfl) : Run p e below n0 Q G m T pc ls st := by
  subst hp
  obtain ⟨locs, Y, eT, N, q⟩ := X
  obtain ⟨T', Y', e', f⟩ := getS2 (host := host) Y C.1 C.2.1 C.2.2.2.2.1 (w.imp C.w C.w) via eT F (g := mkF m pc ls st) rfl (C.d hd)
  exact Run.step f (r T' ⟨locs, Y', e', N, q⟩)
theorem s_new (pc' : Nat) (C : Cx tabs a0 Z own nm code ml ret p s m meth c) (X : St p l e R s m args below meth c n0 T h k n) {K : String} {idx nn : Nat} (hd : decode code pc = .ok (.new idx, 3)) (w1 : Jvm.Cond.classLink own idx K ∈ tabs) (w2 : Jvm.Cond.instantiable K nn ∈ tabs) (w3 : Jvm.Cond.initialized K ∈ tabs)
    (r : ∀ T' h' b, h.size = b → St p l e R s m args below meth c n0 T' h' (k + 1) (n + nn) → Ext h h' → Exa Z h' b K → (∀ {O fn d : String} {ty : FieldType}, Laid Z a0 K O fn d → parseFieldDescriptor d = some ty → Fld Z h' b O fn d (defaultValue ty)) → n0 ≤ b → Run p e below n0 Q G m T' pc' ls (.ref b :: st)) (hp : pc + 3 = pc' := by rfl) (hc : k + 1 ≤ R.cells ∧ n + nn ≤ R.slots := by decide) : Run p e below n0 Q G m T pc ls st := by
  subst hp
  have hz := X.sz
  obtain ⟨locs, Y, eT, N, q⟩ := X
  obtain ⟨T', h', Y', e', E, A, D, -, f⟩ := newO Y C.1 C.2.1 C.2.2.2.2.1 (C.w w1) (C.w w2) (C.w w3) eT (g := mkF m pc ls st) rfl (C.d hd) hc.1 hc.2
  exact Run.step f (r T' h' _ rfl ⟨locs, Y', e', N, q⟩ E A D hz)
theorem s_newarray (pc' : Nat) (cap : Nat) (C : Cx tabs a0 Z own nm code ml ret p s m meth c) (X : St p l e R s m args below meth c n0 T h k n) {aty : ArrayType} {z : Int32} (hd : decode code pc = .ok (.newarray aty, 2)) (w : Jvm.Cond.arrayClass (newarray.typeOf aty) ∈ tabs) (hz : ¬ z < 0) (hcap : z.toNatClampNeg ≤ cap)
    (r : ∀ T' h' b kA, h.size = b → St p l e R s m args below meth c n0 T' h' (k + 1) (n + cap) → Ext h h' → Arv Z h' b kA (newarray.typeOf aty) z [] (defaultValue (newarray.typeOf aty)) → n0 ≤ b → Run p e below n0 Q G m T' pc' ls (.ref b :: st)) (hp : pc + 2 = pc' := by rfl) (hc : cap * 8 ≤ 536870912 ∧ k + 1 ≤ R.cells ∧ n + cap ≤ R.slots := by decide) : Run p e below n0 Q G m T pc ls (.int z :: st) := by
  subst hp
  have hs := X.sz
  obtain ⟨locs, Y, eT, N, q⟩ := X
  obtain ⟨T', h', kA, Y', e', E, A, f⟩ := newP Y C.1 C.2.1 (C.w w) eT (g := mkF m pc ls (.int z :: st)) rfl (C.d hd) rfl hz hcap hc.1 hc.2.1 hc.2.2
  exact Run.step f (r T' h' _ kA rfl ⟨locs, Y', e', N, q⟩ E (Arv.new A hz) hs)
theorem s_bastore (pc' : Nat) (i : Nat) (C : Cx tabs a0 Z own nm code ml ret p s m meth c) (X : St p l e R s m args below meth c n0 T h k n) {a : Addr} {kA : ClassId} {z j : Int32} {x : Int32} {vs : List Value} {dv : Value} (hd : decode code pc = .ok (.bastore, 1)) (F : Arv Z h a kA .byte z vs dv) (ge : n0 ≤ a) (hj : ¬ j < 0 ∧ j < z) (hi : j.toNatClampNeg = i) (hl : i < vs.length)
    (r : ∀ T' h', St p l e R s m args below meth c n0 T' h' k n → Wr h h' a j.toNatClampNeg (.int (nar .byte x)) → Arv Z h' a kA .byte z (vs.set i (.int (nar .byte x))) dv → Run p e below n0 Q G m T' pc' ls st) (hp : pc + 1 = pc' := by rfl) : Run p e below n0 Q G m T pc ls (.int x :: .int j :: .ref a :: st) := by
  subst hp
  obtain ⟨locs, Y, eT, N, q⟩ := X
  obtain ⟨cl, A, q1, S, q3, H, G⟩ := F
  obtain ⟨T', h', Y', e', W, f⟩ := stB Y C.1 C.2.1 eT A (j := j) (inb_of S hj) (g := mkF m pc ls (.int x :: .int j :: .ref a :: st)) rfl rfl (C.d hd)
  exact Run.step f (r T' h' ⟨_, Y', e', Fr.snoc Y' N ge, q⟩ W (Arv.set A q1 S q3 H G (fits_nar_byte x) W i hi hl))
theorem s_baload (pc' : Nat) (C : Cx tabs a0 Z own nm code ml ret p s m meth c) (X : St p l e R s m args below meth c n0 T h k n) {a : Addr} {kA : ClassId} {z j : Int32} {v : Value} {vs : List Value} {dv : Value} (hd : decode code pc = .ok (.baload, 1)) (F : Arv Z h a kA .byte z vs dv) (hj : ¬ j < 0 ∧ j < z) (hv : vs.getD j.toNatClampNeg dv = v)
    (r : Run p e below n0 Q G m T pc' ls (v :: st)) (hp : pc + 1 = pc' := by rfl) : Run p e below n0 Q G m T pc ls (.int j :: .ref a :: st) := by
  subst hp
  obtain ⟨locs, Y, eT, N, q⟩ := X
  obtain ⟨cl, A, q1, S, q3, H, G⟩ := F
  exact Run.step (fun t q => Y.baloadBytes C.1 (j := j) (v := v) (by rw [eT]; exact A.1) (State.isArrayOf_alike C.2.1.alike A.2.1) A.2.2 (inb_of S hj) (H.at (inb_of S hj) hv) (g := mkF m pc ls (.int j :: .ref a :: st)) rfl rfl (C.d hd) t q) r
theorem s_arraylength (pc' : Nat) (C : Cx tabs a0 Z own nm code ml ret p s m meth c) (X : St p l e R s m args below meth c n0 T h k n) {a : Addr} {kA : ClassId} {z : Int32} {ty : FieldType} {vs : List Value} {dv : Value} (hd : decode code pc = .ok (.arraylength, 1)) (F : Arv Z h a kA ty z vs dv)
    (r : Run p e below n0 Q G m T pc' ls (.int z :: st)) (hp : pc + 1 = pc' := by rfl) : Run p e below n0 Q G m T pc ls (.ref a :: st) := by
  subst hp
  obtain ⟨locs, Y, eT, N, q⟩ := X
  obtain ⟨cl, A, q1, S, q3, H, G⟩ := F
  rw [← len_of S q3] at r
  exact Run.step (fun t q => Y.arraylength C.1 (by rw [eT]; exact A.1) (State.isArrayOf_alike C.2.1.alike A.2.1) (g := mkF m pc ls (.ref a :: st)) rfl rfl (C.d hd) t q) r
/-- a method's contract at given arguments and a given heap -/
def Met (l : Launch) (Z : State) (y : MethodName) (bytes : ByteArray) (ml : Nat) (ret : Option FieldType) (rm : Room) (ws : List Jvm.Cond) (as : Array Value) (h : Heap) (n0 : Nat) (Q : Option Value → Heap → Prop) : Prop :=
  MetFree l y (head1 (Jvm.Cond.code y bytes ml ret :: ws) rm) (fun a U => a = as ∧ Z.Warmed39 U.vm ∧ U.heap = h) (fun _ _ _ _ _ => True) (fun _ U o U' => ∃ v L, o = .returned v ∧ (Q v U'.heap ∧ Fr n0 L) ∧ FrameEnd U o U' L rm.cells rm.slots)
theorem Met.mk {y : MethodName} {rm : Room} {ws : List Jvm.Cond} {as : Array Value} {ls0 : Array Slot} (hpl : plainFor y = true) (hw : ∀ d ∈ tabs, d.before a0 Z = true) (hn : n0 ≤ h.size) (hef : ∀ m, entryFrame m as ml = mkF m 0 ls0 [])
    (body : ∀ p e s m below meth c T, Cx tabs a0 Z y.cls y.name code ml ret p s m meth c → St p l e rm s m as below meth c n0 T h 0 0 → Run p e below n0 Q (fun o t L => FrameEnd s o t L rm.cells rm.slots) m T 0 ls0 []) : Met l Z y code ml ret rm ws as h n0 Q := by
  refine MetFree.of_bodySF hpl hisR ?_
  intro p e s m args below meth c s₁ Bd hml0 hP hK
  obtain ⟨rfl, hZ, rfl⟩ := hP
  have X0 : Stand p l e rm s m args below meth c s₁ [] 0 0 := Stand.of_body Bd
  have e0 : s₁.heap = s.heap := by rw [Bd.state]; rfl
  have r := body p e s m below meth c s₁ ⟨Bd.exec, hZ, Bd.bytes, hml0, findClass_of_methodNamed Bd.named, Bd.returns, Bd.notSynchronized, (name_of_methodNamed Bd.named Bd.method).1, hw⟩ ⟨[], X0, e0, Fr.nil n0, hn⟩
  obtain ⟨s₂, o, h1, h2⟩ := r
  exact ⟨s₂, o, castTop (hef m) h1, h2⟩
theorem Met.imp {y : MethodName} {rm : Room} {ws : List Jvm.Cond} {as : Array Value} {Q' : Option Value → Heap → Prop} (M : Met l Z y code ml ret rm ws as h n0 Q) (f : ∀ v h', Q v h' → Q' v h') : Met l Z y code ml ret rm ws as h n0 Q' := fun p e a b c s m x y z w u v => by
  obtain ⟨s2, o, h1, h2, h3, v', L, h4, h5, h6⟩ := M p e a b c s m x y z w u v
  exact ⟨s2, o, h1, h2, h3, v', L, h4, ⟨f _ _ h5.1, h5.2⟩, h6⟩
theorem s_callS (pc' : Nat) (argsL rest : List Value) (W : Nat) (C : Cx tabs a0 Z own nm code ml ret p s m meth c) (X : St p l e R s m args below meth c n0 T h k n) {idx : Nat} {y : MethodName} {bytes : ByteArray} {maxL : Nat} {rt : Option FieldType} {rm : Room} {stk : List Value} {Q1 : Option Value → Heap → Prop} (hd : decode code pc = .ok (.invokestatic idx, 3)) (w1 : Jvm.Cond.methodLink own idx y ∈ tabs) (w2 : Jvm.Cond.static y ∈ tabs) (w3 : Jvm.Cond.initialized y.cls ∈ tabs) (w4 : Jvm.Cond.code y bytes maxL rt ∈ tabs)
    (M : Met l Z y bytes maxL rt rm [] argsL.toArray h n0 Q1) (hlen : ∀ sig, parseMethodDescriptor y.desc = some sig → argsL.length = sig.parameters.length) (hs : stk = argsL.reverse ++ rest) (hsz : ls.size = ml) (hW : (rest.map fun v => v.category).sum = W)
    (r : ∀ T' v h', St p l e R s m args below meth c n0 T' h' (k + rm.cells) (n + rm.slots) → Q1 v h' → Run p e below n0 Q G m T' pc' ls (v.toList ++ rest)) (hp : pc + 3 = pc' := by rfl) (hr : rm.frames + 1 ≤ R.frames ∧ W + (maxL + 11) + rm.locals ≤ R.locals ∧ k + rm.cells ≤ R.cells ∧ n + rm.slots ≤ R.slots := by decide) (hy : y.cls ≠ "java/lang/invoke/MethodHandle" ∧ y.cls ≠ "java/lang/invoke/VarHandle" := by decide) : Run p e below n0 Q G m T pc ls stk := by
  subst hp hs
  obtain ⟨locs, Y, eT, N, q⟩ := X
  obtain ⟨v, _, ⟨T1, L1, k1, n1⟩, -, Y', ⟨Lc, hQ, l1, y1, z1⟩, f⟩ := Jvm.LawKit.callS Y C.1 C.2.2.2.2.1 (mvT C.2.1 (C.w w1)) (mvT C.2.1 (C.w w2)) (mvT C.2.1 (C.w w3)) (mvT C.2.1 (C.w w4)) hy (backOf (W := W) (Q := fun v h L => Q1 v h ∧ Fr n0 L) M C.2.1 (C.w w4) (C.w w3) hr.1 hr.2.1) (g := mkF m pc ls (argsL.reverse ++ rest)) rfl (hsz.trans C.2.2.2.1.symm) (argsL := argsL) (rest := rest) hlen rfl (by show 2 * 0 + _ ≤ _; rw [hW]; omega) (C.d hd) (fun _ _ => ⟨rfl, eT, hr.2.2.1, hr.2.2.2⟩)
  dsimp only [Pt.U, Pt.locs, Pt.cells, Pt.slots] at Y' l1 y1 z1 f hQ
  subst l1 y1 z1
  exact Run.step f (r T1 v _ ⟨_, Y', rfl, Fr.app N hQ.2, q⟩ hQ.1)
theorem s_callV (pc' : Nat) (argsL rest : List Value) (W : Nat) (C : Cx tabs a0 Z own nm code ml ret p s m meth c) (X : St p l e R s m args below meth c n0 T h k n) {idx : Nat} {y : MethodName} {bytes : ByteArray} {maxL : Nat} {rt : Option FieldType} {rm : Room} {stk : List Value} {Q1 : Option Value → Heap → Prop} {y0 : MethodName} {K : String} {a : Addr} (hd : decode code pc = .ok (.invokevirtual idx, 3)) (w1 : Jvm.Cond.methodLink own idx y0 ∈ tabs) (w2 : Jvm.Cond.declares y0 ∈ tabs) (hnf : NotFace s y0) (w5 : Jvm.Cond.selects K y0 y ∈ tabs) (w6 : Jvm.Cond.instanceMethod y ∈ tabs) (w3 : Jvm.Cond.initialized y.cls ∈ tabs) (w4 : Jvm.Cond.code y bytes maxL rt ∈ tabs)
    (E : Exa Z h a K) (M : Met l Z y bytes maxL rt rm [] (.ref a :: argsL).toArray h n0 Q1) (hlen : ∀ sig, parseMethodDescriptor y0.desc = some sig → argsL.length = sig.parameters.length) (hs : stk = argsL.reverse ++ .ref a :: rest) (hsz : ls.size = ml) (hW : (rest.map fun v => v.category).sum = W)
    (r : ∀ T' v h', St p l e R s m args below meth c n0 T' h' (k + rm.cells) (n + rm.slots) → Q1 v h' → Run p e below n0 Q G m T' pc' ls (v.toList ++ rest)) (hp : pc + 3 = pc' := by rfl) (hr : rm.frames + 1 ≤ R.frames ∧ W + (maxL + 11) + rm.locals ≤ R.locals ∧ k + rm.cells ≤ R.cells ∧ n + rm.slots ≤ R.slots := by decide) (hy : y0.cls ≠ "java/lang/invoke/MethodHandle" ∧ y0.cls ≠ "java/lang/invoke/VarHandle" := by decide) : Run p e below n0 Q G m T pc ls stk := by
  subst hp hs
  obtain ⟨locs, Y, eT, N, q⟩ := X
  obtain ⟨cq, kq, qa, qb, qc⟩ := isOf C.2.1 eT E
  obtain ⟨v, _, ⟨T1, L1, k1, n1⟩, -, Y', ⟨Lc, hQ, l1, y1, z1⟩, f⟩ := Y.virtualBack C.1 (y := y0) (z := y) C.2.2.2.2.1 (mvT C.2.1 (C.w w1)) (mvT C.2.1 (C.w w2)) hnf (mvT C.2.1 (C.w w5)) (mvT C.2.1 (C.w w6)) hy (backOf (W := W) (Q := fun v h L => Q1 v h ∧ Fr n0 L) M C.2.1 (C.w w4) (C.w w3) hr.1 hr.2.1) qa qc (g := mkF m pc ls (argsL.reverse ++ .ref a :: rest)) rfl (hsz.trans C.2.2.2.1.symm) (Steps.refl _) (argsL := argsL) (rest := rest) hlen rfl (by show 2 * 0 + _ ≤ _; rw [hW]; omega) (C.d hd) (fun _ _ => ⟨rfl, eT, hr.2.2.1, hr.2.2.2⟩)
  dsimp only [Pt.U, Pt.locs, Pt.cells, Pt.slots] at Y' l1 y1 z1 f hQ
  subst l1 y1 z1
  exact Run.steps f (r T1 v _ ⟨_, Y', rfl, Fr.app N hQ.2, q⟩ hQ.1)
end A
end Jvm.OwnK
namespace Jvm.Pilot.@@N@@
open Jvm Jvm.ClassFile Sem Op Lib Jvm.Free Jvm.Stand Jvm.LawKit Jvm.RoadKit Bundle Jvm.OwnK Jvm.Pilot.@@N@@.Jvm.D
theorem pn_java_util_Arrays : plainName "java/util/Arrays" = true := by first | (simp [plainName, overriddenIn]; done) | decide +kernel
theorem d5_0 : decode jdk_65_method_30_code 0 = .ok (.iload_n 1, 1) := by decide +kernel
theorem d5_1 : decode jdk_65_method_30_code 1 = .ok (.iload_n 2, 1) := by decide +kernel
theorem d5_2 : decode jdk_65_method_30_code 2 = .ok (.if_icmp .le 44, 3) := by decide +kernel
theorem d5_46 : decode jdk_65_method_30_code 46 = .ok (.iload_n 1, 1) := by decide +kernel
theorem d5_47 : decode jdk_65_method_30_code 47 = .ok (.ifCond .ge 12, 3) := by decide +kernel
theorem d5_59 : decode jdk_65_method_30_code 59 = .ok (.iload_n 2, 1) := by decide +kernel
theorem d5_60 : decode jdk_65_method_30_code 60 = .ok (.iload_n 0, 1) := by decide +kernel
theorem d5_61 : decode jdk_65_method_30_code 61 = .ok (.if_icmp .le 12, 3) := by decide +kernel
theorem d5_73 : decode jdk_65_method_30_code 73 = .ok (.return_, 1) := by decide +kernel
theorem pn_jdk_internal_util_ArraysSupport : plainName "jdk/internal/util/ArraysSupport" = true := by first | (simp [plainName, overriddenIn]; done) | decide +kernel
theorem d6_0 : decode jdk_48_method_14_code 0 = .ok (.iconst 0, 1) := by decide +kernel
theorem kc_iconst_0 : Int32.ofInt 0 = (0 : Int32) := by decide +kernel
theorem d6_1 : decode jdk_48_method_14_code 1 = .ok (.istore 5, 2) := by decide +kernel
theorem d6_3 : decode jdk_48_method_14_code 3 = .ok (.iload 4, 2) := by decide +kernel
theorem d6_5 : decode jdk_48_method_14_code 5 = .ok (.bipush 7, 2) := by decide +kernel
theorem kc_bipush_7 : (Int8.ofInt 7).toInt32 = (7 : Int32) := by decide +kernel
theorem d6_7 : decode jdk_48_method_14_code 7 = .ok (.if_icmp .le 63, 3) := by decide +kernel
theorem d6_70 : decode jdk_48_method_14_code 70 = .ok (.iload 5, 2) := by decide +kernel
theorem d6_72 : decode jdk_48_method_14_code 72 = .ok (.iload 4, 2) := by decide +kernel
theorem d6_74 : decode jdk_48_method_14_code 74 = .ok (.if_icmp .ge 27, 3) := by decide +kernel
theorem d6_101 : decode jdk_48_method_14_code 101 = .ok (.iconst (-1), 1) := by decide +kernel
theorem kc_iconst_m1 : Int32.ofInt (-1) = (-1 : Int32) := by decide +kernel
theorem d6_102 : decode jdk_48_method_14_code 102 = .ok (.ireturn, 1) := by decide +kernel
theorem d6_77 : decode jdk_48_method_14_code 77 = .ok (.aload_n 0, 1) := by decide +kernel
theorem d6_78 : decode jdk_48_method_14_code 78 = .ok (.iload_n 1, 1) := by decide +kernel
theorem d6_79 : decode jdk_48_method_14_code 79 = .ok (.iload 5, 2) := by decide +kernel
theorem d6_81 : decode jdk_48_method_14_code 81 = .ok (.iadd, 1) := by decide +kernel
theorem d6_82 : decode jdk_48_method_14_code 82 = .ok (.baload, 1) := by decide +kernel
theorem d6_83 : decode jdk_48_method_14_code 83 = .ok (.aload_n 2, 1) := by decide +kernel
theorem d6_84 : decode jdk_48_method_14_code 84 = .ok (.iload_n 3, 1) := by decide +kernel
theorem d6_85 : decode jdk_48_method_14_code 85 = .ok (.iload 5, 2) := by decide +kernel
theorem d6_87 : decode jdk_48_method_14_code 87 = .ok (.iadd, 1) := by decide +kernel
theorem d6_88 : decode jdk_48_method_14_code 88 = .ok (.baload, 1) := by decide +kernel
theorem d6_89 : decode jdk_48_method_14_code 89 = .ok (.if_icmp .eq 6, 3) := by decide +kernel
theorem d6_95 : decode jdk_48_method_14_code 95 = .ok (.iinc 5 1, 3) := by decide +kernel
theorem kc_iconst_1 : Int32.ofInt 1 = (1 : Int32) := by decide +kernel
theorem d6_98 : decode jdk_48_method_14_code 98 = .ok (.goto (-28), 3) := by decide +kernel
theorem d6_92 : decode jdk_48_method_14_code 92 = .ok (.iload 5, 2) := by decide +kernel
theorem d6_94 : decode jdk_48_method_14_code 94 = .ok (.ireturn, 1) := by decide +kernel
theorem d4_0 : decode jdk_65_method_90_code 0 = .ok (.aload_n 0, 1) := by decide +kernel
theorem d4_1 : decode jdk_65_method_90_code 1 = .ok (.arraylength, 1) := by decide +kernel
theorem d4_2 : decode jdk_65_method_90_code 2 = .ok (.iload_n 1, 1) := by decide +kernel
theorem d4_3 : decode jdk_65_method_90_code 3 = .ok (.iload_n 2, 1) := by decide +kernel
theorem d4_4 : decode jdk_65_method_90_code 4 = .ok (.invokestatic 13, 3) := by decide +kernel
theorem pd__III_V : parseMethodDescriptor "(III)V" = some ⟨[.int, .int, .int], none⟩ := by decide +kernel
theorem d4_7 : decode jdk_65_method_90_code 7 = .ok (.aload_n 3, 1) := by decide +kernel
theorem d4_8 : decode jdk_65_method_90_code 8 = .ok (.arraylength, 1) := by decide +kernel
theorem d4_9 : decode jdk_65_method_90_code 9 = .ok (.iload 4, 2) := by decide +kernel
theorem d4_11 : decode jdk_65_method_90_code 11 = .ok (.iload 5, 2) := by decide +kernel
theorem d4_13 : decode jdk_65_method_90_code 13 = .ok (.invokestatic 13, 3) := by decide +kernel
theorem d4_16 : decode jdk_65_method_90_code 16 = .ok (.iload_n 2, 1) := by decide +kernel
theorem d4_17 : decode jdk_65_method_90_code 17 = .ok (.iload_n 1, 1) := by decide +kernel
theorem d4_18 : decode jdk_65_method_90_code 18 = .ok (.isub, 1) := by decide +kernel
theorem d4_19 : decode jdk_65_method_90_code 19 = .ok (.istore 6, 2) := by decide +kernel
theorem d4_21 : decode jdk_65_method_90_code 21 = .ok (.iload 5, 2) := by decide +kernel
theorem d4_23 : decode jdk_65_method_90_code 23 = .ok (.iload 4, 2) := by decide +kernel
theorem d4_25 : decode jdk_65_method_90_code 25 = .ok (.isub, 1) := by decide +kernel
theorem d4_26 : decode jdk_65_method_90_code 26 = .ok (.istore 7, 2) := by decide +kernel
theorem d4_28 : decode jdk_65_method_90_code 28 = .ok (.iload 6, 2) := by decide +kernel
theorem d4_30 : decode jdk_65_method_90_code 30 = .ok (.iload 7, 2) := by decide +kernel
theorem d4_32 : decode jdk_65_method_90_code 32 = .ok (.if_icmp .eq 5, 3) := by decide +kernel
theorem d4_37 : decode jdk_65_method_90_code 37 = .ok (.aload_n 0, 1) := by decide +kernel
theorem d4_38 : decode jdk_65_method_90_code 38 = .ok (.iload_n 1, 1) := by decide +kernel
theorem d4_39 : decode jdk_65_method_90_code 39 = .ok (.aload_n 3, 1) := by decide +kernel
theorem d4_40 : decode jdk_65_method_90_code 40 = .ok (.iload 4, 2) := by decide +kernel
theorem d4_42 : decode jdk_65_method_90_code 42 = .ok (.iload 6, 2) := by decide +kernel
theorem d4_44 : decode jdk_65_method_90_code 44 = .ok (.invokestatic 275, 3) := by decide +kernel
theorem pd___BI_BII_I : parseMethodDescriptor "([BI[BII)I" = some ⟨[(.array .byte), .int, (.array .byte), .int, .int], some .int⟩ := by decide +kernel
theorem d4_47 : decode jdk_65_method_90_code 47 = .ok (.ifCond .ge 7, 3) := by decide +kernel
theorem d4_54 : decode jdk_65_method_90_code 54 = .ok (.iconst 0, 1) := by decide +kernel
theorem d4_55 : decode jdk_65_method_90_code 55 = .ok (.ireturn, 1) := by decide +kernel
theorem d4_50 : decode jdk_65_method_90_code 50 = .ok (.iconst 1, 1) := by decide +kernel
theorem d4_51 : decode jdk_65_method_90_code 51 = .ok (.goto 4, 3) := by decide +kernel
theorem pn_com_example_shapelint_shapelint_io_XmlEncodingFamily : plainName "com/example/shapelint/shapelint/io/XmlEncodingFamily" = true := by first | (simp [plainName, overriddenIn]; done) | decide +kernel
theorem d3_0 : decode prog_14_method_9_code 0 = .ok (.aload_n 1, 1) := by decide +kernel
theorem d3_1 : decode prog_14_method_9_code 1 = .ok (.arraylength, 1) := by decide +kernel
theorem d3_2 : decode prog_14_method_9_code 2 = .ok (.ifCond .le 28, 3) := by decide +kernel
theorem d3_30 : decode prog_14_method_9_code 30 = .ok (.iconst 0, 1) := by decide +kernel
theorem d3_31 : decode prog_14_method_9_code 31 = .ok (.ireturn, 1) := by decide +kernel
theorem d3_5 : decode prog_14_method_9_code 5 = .ok (.aload_n 0, 1) := by decide +kernel
theorem d3_6 : decode prog_14_method_9_code 6 = .ok (.arraylength, 1) := by decide +kernel
theorem d3_7 : decode prog_14_method_9_code 7 = .ok (.aload_n 1, 1) := by decide +kernel
theorem d3_8 : decode prog_14_method_9_code 8 = .ok (.arraylength, 1) := by decide +kernel
theorem d3_9 : decode prog_14_method_9_code 9 = .ok (.if_icmp .lt 21, 3) := by decide +kernel
theorem d3_12 : decode prog_14_method_9_code 12 = .ok (.aload_n 0, 1) := by decide +kernel
theorem d3_13 : decode prog_14_method_9_code 13 = .ok (.iconst 0, 1) := by decide +kernel
theorem d3_14 : decode prog_14_method_9_code 14 = .ok (.aload_n 1, 1) := by decide +kernel
theorem d3_15 : decode prog_14_method_9_code 15 = .ok (.arraylength, 1) := by decide +kernel
theorem d3_16 : decode prog_14_method_9_code 16 = .ok (.aload_n 1, 1) := by decide +kernel
theorem d3_17 : decode prog_14_method_9_code 17 = .ok (.iconst 0, 1) := by decide +kernel
theorem d3_18 : decode prog_14_method_9_code 18 = .ok (.aload_n 1, 1) := by decide +kernel
theorem d3_19 : decode prog_14_method_9_code 19 = .ok (.arraylength, 1) := by decide +kernel
theorem d3_20 : decode prog_14_method_9_code 20 = .ok (.invokestatic 64, 3) := by decide +kernel
theorem pd___BII_BII_Z : parseMethodDescriptor "([BII[BII)Z" = some ⟨[(.array .byte), .int, .int, (.array .byte), .int, .int], some .boolean⟩ := by decide +kernel
theorem d3_23 : decode prog_14_method_9_code 23 = .ok (.ifCond .eq 7, 3) := by decide +kernel
theorem d3_26 : decode prog_14_method_9_code 26 = .ok (.iconst 1, 1) := by decide +kernel
theorem d3_27 : decode prog_14_method_9_code 27 = .ok (.goto 4, 3) := by decide +kernel
theorem pn_com_example_shapelint_shapelint_io_XmlEncodingFamilyByteOrderMarkLengthPinLaw : plainName "com/example/shapelint/shapelint/io/XmlEncodingFamilyByteOrderMarkLengthPinLaw" = true := by first | (simp [plainName, overriddenIn]; done) | decide +kernel
theorem d1_0 : decode method_3_code 0 = .ok (.iload_n 0, 1) := by decide +kernel
theorem d1_1 : decode method_3_code 1 = .ok (.ifCond .ne 7, 3) := by decide +kernel
theorem d1_4 : decode method_3_code 4 = .ok (.getstatic 20, 3) := by decide +kernel
theorem d1_7 : decode method_3_code 7 = .ok (.areturn, 1) := by decide +kernel
theorem d1_8 : decode method_3_code 8 = .ok (.iload_n 0, 1) := by decide +kernel
theorem d1_9 : decode method_3_code 9 = .ok (.iconst 1, 1) := by decide +kernel
theorem d1_10 : decode method_3_code 10 = .ok (.if_icmp .ne 7, 3) := by decide +kernel
theorem d1_13 : decode method_3_code 13 = .ok (.getstatic 24, 3) := by decide +kernel
theorem d1_16 : decode method_3_code 16 = .ok (.areturn, 1) := by decide +kernel
theorem d1_17 : decode method_3_code 17 = .ok (.iload_n 0, 1) := by decide +kernel
theorem d1_18 : decode method_3_code 18 = .ok (.iconst 2, 1) := by decide +kernel
theorem kc_iconst_2 : Int32.ofInt 2 = (2 : Int32) := by decide +kernel
theorem d1_19 : decode method_3_code 19 = .ok (.if_icmp .ne 7, 3) := by decide +kernel
theorem d1_22 : decode method_3_code 22 = .ok (.getstatic 27, 3) := by decide +kernel
theorem d1_25 : decode method_3_code 25 = .ok (.areturn, 1) := by decide +kernel
theorem d1_26 : decode method_3_code 26 = .ok (.iload_n 0, 1) := by decide +kernel
theorem d1_27 : decode method_3_code 27 = .ok (.iconst 3, 1) := by decide +kernel
theorem kc_iconst_3 : Int32.ofInt 3 = (3 : Int32) := by decide +kernel
theorem d1_28 : decode method_3_code 28 = .ok (.if_icmp .ne 7, 3) := by decide +kernel
theorem d1_31 : decode method_3_code 31 = .ok (.getstatic 30, 3) := by decide +kernel
theorem d1_34 : decode method_3_code 34 = .ok (.areturn, 1) := by decide +kernel
theorem d1_35 : decode method_3_code 35 = .ok (.iload_n 0, 1) := by decide +kernel
theorem d1_36 : decode method_3_code 36 = .ok (.iconst 4, 1) := by decide +kernel
theorem kc_iconst_4 : Int32.ofInt 4 = (4 : Int32) := by decide +kernel
theorem d1_37 : decode method_3_code 37 = .ok (.if_icmp .ne 7, 3) := by decide +kernel
theorem d1_40 : decode method_3_code 40 = .ok (.getstatic 33, 3) := by decide +kernel
theorem d1_43 : decode method_3_code 43 = .ok (.areturn, 1) := by decide +kernel
theorem d1_44 : decode method_3_code 44 = .ok (.getstatic 36, 3) := by decide +kernel
theorem d1_47 : decode method_3_code 47 = .ok (.areturn, 1) := by decide +kernel
theorem d2_0 : decode prog_14_method_6_code 0 = .ok (.aload_n 1, 1) := by decide +kernel
theorem d2_1 : decode prog_14_method_6_code 1 = .ok (.aload_n 0, 1) := by decide +kernel
theorem d2_2 : decode prog_14_method_6_code 2 = .ok (.getfield 49, 3) := by decide +kernel
theorem d2_5 : decode prog_14_method_6_code 5 = .ok (.invokestatic 60, 3) := by decide +kernel
theorem pd___B_B_Z : parseMethodDescriptor "([B[B)Z" = some ⟨[(.array .byte), (.array .byte)], some .boolean⟩ := by decide +kernel
theorem d2_8 : decode prog_14_method_6_code 8 = .ok (.ifCond .eq 11, 3) := by decide +kernel
theorem d2_11 : decode prog_14_method_6_code 11 = .ok (.aload_n 0, 1) := by decide +kernel
theorem d2_12 : decode prog_14_method_6_code 12 = .ok (.getfield 49, 3) := by decide +kernel
theorem d2_15 : decode prog_14_method_6_code 15 = .ok (.arraylength, 1) := by decide +kernel
theorem d2_16 : decode prog_14_method_6_code 16 = .ok (.goto 4, 3) := by decide +kernel
theorem d2_20 : decode prog_14_method_6_code 20 = .ok (.ireturn, 1) := by decide +kernel
theorem d2_19 : decode prog_14_method_6_code 19 = .ok (.iconst 0, 1) := by decide +kernel
theorem kc_bipush_6 : (Int8.ofInt 6).toInt32 = (6 : Int32) := by decide +kernel
theorem pd__I_Lcom_example_shapelint_shapelint_io_XmlEncodingFamily_ : parseMethodDescriptor "(I)Lcom/example/shapelint/shapelint/io/XmlEncodingFamily;" = some ⟨[.int], some (.object "com/example/shapelint/shapelint/io/XmlEncodingFamily")⟩ := by decide +kernel
theorem pd___B_I : parseMethodDescriptor "([B)I" = some ⟨[(.array .byte)], some .int⟩ := by decide +kernel
theorem kc_sipush_255 : (Int16.ofInt 255).toInt32 = (255 : Int32) := by decide +kernel
theorem kc_sipush_239 : (Int16.ofInt 239).toInt32 = (239 : Int32) := by decide +kernel
theorem kc_sipush_187 : (Int16.ofInt 187).toInt32 = (187 : Int32) := by decide +kernel
theorem kc_sipush_191 : (Int16.ofInt 191).toInt32 = (191 : Int32) := by decide +kernel
theorem kc_sipush_254 : (Int16.ofInt 254).toInt32 = (254 : Int32) := by decide +kernel
theorem own_i {i : Int32} {j : Nat} {n : Int32} (hi : i.toInt = j) (h : (j : Int) < n.toInt) : ¬ i < 0 ∧ i < n := by
  have k0 : (0 : Int32).toInt = 0 := by decide
  rw [Int32.lt_iff_toInt_lt, Int32.lt_iff_toInt_lt]
  omega
theorem own_nat {i : Int32} {j : Nat} (hi : i.toInt = j) : i.toNatClampNeg = j := by
  have k0 : (0 : Int32).toInt = 0 := by decide
  have q : ¬ i < 0 := by rw [Int32.lt_iff_toInt_lt]; omega
  have z := nat_of q
  omega
theorem own_inc {i : Int32} {j : Nat} {n : Int32} (hi : i.toInt = j) (h : (j : Int) < n.toInt) : (i + 1).toInt = (j + 1 : Nat) := by
  have k1 : (1 : Int32).toInt = 1 := by decide
  have h2 := c_iadd i 1
  have r := rng32 (i + 1)
  have r2 := rng32 n
  omega
theorem own_haslAux (c : Cell) : ∀ (vs : List Value) (i : Nat), (∀ j, j < vs.length → c.slots[i + j]? = some (vs.getD j .null)) → HasL c i vs
  | [], _, _ => trivial
  | v :: r, i, h => ⟨by have q := h 0 (by simp); simpa using q, own_haslAux c r (i + 1) fun j hj => by
      have q := h (j + 1) (by simp; omega)
      have e : i + (j + 1) = i + 1 + j := by omega
      rw [e] at q
      simpa using q⟩
theorem own_hasl (c : Cell) : HasL c 0 c.slots.toList := own_haslAux c _ 0 fun j hj => by
  have hj' : j < c.slots.size := by simpa using hj
  rw [Nat.zero_add, List.getD_eq_getElem?_getD, Array.getElem?_toList, Array.getElem?_eq_getElem hj']; rfl
def nth4 (a b c d : Int32) : Nat → Int32
  | 0 => a
  | 1 => b
  | 2 => c
  | 3 => d
  | _ => 0
def bb (x : Int32) : Int32 := nar .byte (x.toInt8.toInt32)
theorem own_bb (x : Int32) : 0 ≤ (x &&& 255).toInt ∧ (x &&& 255).toInt ≤ 255 ∧ (((bb x).toInt = (x &&& 255).toInt ∧ (x &&& 255).toInt < 128) ∨ ((bb x).toInt = (x &&& 255).toInt - 256 ∧ 128 ≤ (x &&& 255).toInt)) := by
  have e : bb x = x.toInt8.toInt32 := by simp [bb, nar]
  rw [e]
  have h1 := c_i2b x
  have h2 := c_mask x 255 8 (by decide) (by decide)
  have h3 := c_and x 255 (by decide)
  have k : (255 : Int32).toInt = 255 := by decide
  have e8 : (((2 ^ 8 : Nat) : Int)) = 256 := by decide
  rw [e8] at h2
  omega
theorem own_sw0 {fa fb : Nat → Int32} {na : Int32} : ¬ (0 < (0 : Int32).toInt ∧ (0 : Int32).toInt ≤ na.toInt ∧ ∀ i : Nat, (i : Int) < (0 : Int32).toInt → fa i = fb i) := fun q => absurd q.1 (by decide)
theorem own_sw2 {fa : Nat → Int32} {na a b c d : Int32} : (0 < (2 : Int32).toInt ∧ (2 : Int32).toInt ≤ na.toInt ∧ ∀ i : Nat, (i : Int) < (2 : Int32).toInt → fa i = nth4 a b c d i) ↔ (2 ≤ na.toInt ∧ (fa 0).toInt = a.toInt ∧ (fa 1).toInt = b.toInt) := by
  have k : (2 : Int32).toInt = 2 := by decide
  rw [k]
  constructor
  · intro q
    exact ⟨q.2.1, congrArg Int32.toInt (q.2.2 0 (by decide)), congrArg Int32.toInt (q.2.2 1 (by decide))⟩
  · intro q
    refine ⟨by decide, q.1, fun i hi => ?_⟩
    rcases i with _ | _ | i
    · exact Int32.toInt_inj.mp q.2.1
    · exact Int32.toInt_inj.mp q.2.2
    · exfalso; omega
theorem own_sw3 {fa : Nat → Int32} {na a b c d : Int32} : (0 < (3 : Int32).toInt ∧ (3 : Int32).toInt ≤ na.toInt ∧ ∀ i : Nat, (i : Int) < (3 : Int32).toInt → fa i = nth4 a b c d i) ↔ (3 ≤ na.toInt ∧ (fa 0).toInt = a.toInt ∧ (fa 1).toInt = b.toInt ∧ (fa 2).toInt = c.toInt) := by
  have k : (3 : Int32).toInt = 3 := by decide
  rw [k]
  constructor
  · intro q
    exact ⟨q.2.1, congrArg Int32.toInt (q.2.2 0 (by decide)), congrArg Int32.toInt (q.2.2 1 (by decide)), congrArg Int32.toInt (q.2.2 2 (by decide))⟩
  · intro q
    refine ⟨by decide, q.1, fun i hi => ?_⟩
    rcases i with _ | _ | _ | i
    · exact Int32.toInt_inj.mp q.2.1
    · exact Int32.toInt_inj.mp q.2.2.1
    · exact Int32.toInt_inj.mp q.2.2.2
    · exfalso; omega
theorem own_sw4 {fa : Nat → Int32} {na a b c d : Int32} : (0 < (4 : Int32).toInt ∧ (4 : Int32).toInt ≤ na.toInt ∧ ∀ i : Nat, (i : Int) < (4 : Int32).toInt → fa i = nth4 a b c d i) ↔ (4 ≤ na.toInt ∧ (fa 0).toInt = a.toInt ∧ (fa 1).toInt = b.toInt ∧ (fa 2).toInt = c.toInt ∧ (fa 3).toInt = d.toInt) := by
  have k : (4 : Int32).toInt = 4 := by decide
  rw [k]
  constructor
  · intro q
    exact ⟨q.2.1, congrArg Int32.toInt (q.2.2 0 (by decide)), congrArg Int32.toInt (q.2.2 1 (by decide)), congrArg Int32.toInt (q.2.2 2 (by decide)), congrArg Int32.toInt (q.2.2 3 (by decide))⟩
  · intro q
    refine ⟨by decide, q.1, fun i hi => ?_⟩
    rcases i with _ | _ | _ | _ | i
    · exact Int32.toInt_inj.mp q.2.1
    · exact Int32.toInt_inj.mp q.2.2.1
    · exact Int32.toInt_inj.mp q.2.2.2.1
    · exact Int32.toInt_inj.mp q.2.2.2.2
    · exfalso; omega
/-- what an array of bytes holds at the start, read off the words of the case -/
theorem own_bytes {s : State} {args : Array Value} {t : Term} {a : Addr} {z : Int32} (hf : Fit s) (et : t.eval args s none [] s = some (.ref a)) (w1 : (Jvm.Cond.arrayOf t .byte).value args s none s [] = some true) (w2 : (Jvm.Cond.eq (Term.length t) (Term.int z)).value args s none s [] = some true) (hz : ¬ z < 0) :
    ∃ (k : ClassId) (vs : List Value), Arv s s.heap a k .byte z vs (.int 0) ∧ ∀ (i : Int32) (x : Int32), (Jvm.Cond.eq (Term.elem t (Term.int i)) (Term.int x)).value args s none s [] = some true → vs.getD i.toNatClampNeg (.int 0) = .int x := by
  obtain ⟨cl, A⟩ := Arr.start et w1
  have L := eqv_i (Term.int_eval _) w2
  have fin := A.fin (Vm.Alike.refl _)
  have hl : cl.slots.size < 2 ^ 31 := by
    by_cases g : cl.slots.size < 2 ^ 31
    · exact g
    · simp [Term.eval, et, fin, g] at L
  have e : cl.slots.size.toInt32 = z := by
    have q := len_f et fin hl
    exact Value.int.inj (Option.some.inj (q.symm.trans L))
  refine ⟨cl.cls, cl.slots.toList, Arv.start hf A hl e hz ?_ ?_, fun i x w => ?_⟩
  · rw [Array.length_toList, ← e]
    have c1 := len_toInt hl
    simp only [Int32.toNatClampNeg, c1]; rfl
  · exact own_hasl cl
  · have L2 := eqv_i (Term.int_eval _) w
    obtain ⟨q1, q2⟩ := elem_in L2 et (Term.int_eval _) A.1
    rw [List.getD_eq_getElem?_getD, Array.getElem?_toList, q2]; rfl
theorem own_6 {x k : Int32} (e : k = (x &&& 2147483647) % 6) : k = 0 ∨ k = 1 ∨ k = 2 ∨ k = 3 ∨ k = 4 ∨ k = 5 := by
  subst e
  have h := (c_and x 2147483647 (by decide)).1
  have q := (c_iremV (x &&& 2147483647) 6).1 h (by decide)
  have k0 : (0 : Int32).toInt = 0 := by decide
  have k1 : (1 : Int32).toInt = 1 := by decide
  have k2 : (2 : Int32).toInt = 2 := by decide
  have k3 : (3 : Int32).toInt = 3 := by decide
  have k4 : (4 : Int32).toInt = 4 := by decide
  have k5 : (5 : Int32).toInt = 5 := by decide
  have k6 : (6 : Int32).toInt = 6 := by decide
  simp only [← Int32.toInt_inj]
  omega
theorem own_cap7 {n : Int32} (h : 0 ≤ n.toInt ∧ n.toInt ≤ 7) : n.toNatClampNeg ≤ 7 := by
  have k0 : (0 : Int32).toInt = 0 := by decide
  have q := nat_of (j := n) (fun q => absurd (Int32.lt_iff_toInt_lt.mp q) (by omega))
  omega
theorem own_n7 (x : Int32) : 0 ≤ (x &&& 7).toInt ∧ (x &&& 7).toInt ≤ 7 := c_and x 7 (by decide)
set_option maxRecDepth 65536 in
set_option maxHeartbeats 40000000 in
theorem rm_rc (l : Launch) (Z : State) (a0 : Array Value) (hw : ∀ d ∈ tables_1, d.before a0 Z = true) (x0 x2 : Int32) (h0 : Heap) (n0 : Nat) (Z0 : n0 ≤ h0.size) (h2 : ¬ x2 < 0) (h61 : ¬ x0 < x2) :
    Met l Z (⟨"java/util/Arrays", "rangeCheck", "(III)V"⟩ : MethodName) jdk_65_method_30_code 3 none { frames := 0, cells := 0, slots := 0, locals := 0 } [] #[(.int x0), (.int (0 : Int32)), (.int x2)] h0 n0 (fun v h => v = none ∧ h = h0) := by
  refine Met.mk (tabs := tables_1) (a0 := a0) (ls0 := #[.val (.int x0), .val (.int (0 : Int32)), .val (.int x2)]) (plainFor_of_name pn_java_util_Arrays) hw Z0 (fun m => by first | (simp [entryFrame, mkF, argsToLocals, Value.category]; done) | rfl) ?_
  intro p e s m below meth c T C X
  refine s_iloadN 1 C X d5_0 rfl ?_
  refine s_iloadN 2 C X d5_1 rfl ?_
  refine s_icmp_le 46 5 C X d5_2 (fun c2 => ?_) (fun c => absurd c h2)
  have t_c2 : ¬ ((x2).toInt < (0 : Int)) := fun q => c2 (Int32.lt_iff_toInt_lt.mpr q)
  refine s_iloadN 47 C X d5_46 rfl ?_
  refine s_if_ge 59 50 C X d5_47 (fun _ => ?_) (fun c => absurd c (by decide))
  refine s_iloadN 60 C X d5_59 rfl ?_
  refine s_iloadN 61 C X d5_60 rfl ?_
  refine s_icmp_le 73 64 C X d5_61 (fun c61 => ?_) (fun c => absurd c h61)
  have t_c61 : ¬ ((x0).toInt < (x2).toInt) := fun q => c61 (Int32.lt_iff_toInt_lt.mpr q)
  refine s_return C X d5_73 rfl ?_
  exact ⟨rfl, rfl⟩
set_option maxRecDepth 65536 in
set_option maxHeartbeats 40000000 in
theorem rm_mis (l : Launch) (Z : State) (a0 : Array Value) (hw : ∀ d ∈ tables_1, d.before a0 Z = true) (a b : Addr) (na nb : Int32) (k_a k_b : ClassId) (va vb : List Value) (da db : Value) (fa fb : Nat → Int32) (ln : Int32) (h0 : Heap) (n0 : Nat) (Z0 : n0 ≤ h0.size) (A_a : Arv Z h0 a k_a .byte na va da) (A_b : Arv Z h0 b k_b .byte nb vb db) (hl : ¬ ln.toInt < 0) (h7 : ¬ (7 : Int32) < ln) (hla : ln.toInt ≤ na.toInt) (hlb : ln.toInt ≤ nb.toInt) (ha : ∀ i : Nat, (i : Int) < ln.toInt → va.getD i da = .int (fa i)) (hb : ∀ i : Nat, (i : Int) < ln.toInt → vb.getD i db = .int (fb i)) :
    Met l Z (⟨"jdk/internal/util/ArraysSupport", "mismatch", "([BI[BII)I"⟩ : MethodName) jdk_48_method_14_code 8 (some .int) { frames := 0, cells := 0, slots := 0, locals := 0 } [] #[(.ref a), (.int (0 : Int32)), (.ref b), (.int (0 : Int32)), (.int ln)] h0 n0 (fun v h => ∃ z, v = some (.int z) ∧ (z.toInt < 0 ↔ (∀ i : Nat, (i : Int) < ln.toInt → fa i = fb i)) ∧ h = h0) := by
  refine Met.mk (tabs := tables_1) (a0 := a0) (ls0 := #[.val (.ref a), .val (.int (0 : Int32)), .val (.ref b), .val (.int (0 : Int32)), .val (.int ln), .unset, .unset, .unset]) (plainFor_of_name pn_jdk_internal_util_ArraysSupport) hw Z0 (fun m => by first | (simp [entryFrame, mkF, argsToLocals, Value.category]; done) | rfl) ?_
  intro p e s m below meth c T C X
  refine s_iconst 1 C X d6_0 kc_iconst_0 ?_
  refine s_istore 3 C X (l' := #[.val (.ref a), .val (.int (0 : Int32)), .val (.ref b), .val (.int (0 : Int32)), .val (.int ln), .val (.int (0 : Int32)), .unset, .unset]) d6_1 rfl ?_
  refine s_iload 5 C X d6_3 rfl ?_
  refine s_bipush 7 C X d6_5 kc_bipush_7 ?_
  refine s_icmp_le 70 10 C X d6_7 (fun c7 => ?_) (fun c => absurd c h7)
  have t_c7 : ¬ ((7 : Int) < (ln).toInt) := fun q => c7 (Int32.lt_iff_toInt_lt.mpr q)
  have loop : ∀ (d j : Nat) (i : Int32) (T : State), (d : Int) = ln.toInt - j → i.toInt = j → (∀ k : Nat, k < j → fa k = fb k) → St p l e ({ frames := 0, cells := 0, slots := 0, locals := 0 } : Room) s m #[(.ref a), (.int (0 : Int32)), (.ref b), (.int (0 : Int32)), (.int ln)] below meth c n0 T h0 0 0 → Run p e below n0 (fun (v : Option Value) (h : Heap) => ∃ z, v = some (.int z) ∧ (z.toInt < 0 ↔ (∀ i : Nat, (i : Int) < ln.toInt → fa i = fb i)) ∧ h = h0) (fun o t L => FrameEnd s o t L ({ frames := 0, cells := 0, slots := 0, locals := 0 } : Room).cells ({ frames := 0, cells := 0, slots := 0, locals := 0 } : Room).slots) m T 70 #[.val (.ref a), .val (.int (0 : Int32)), .val (.ref b), .val (.int (0 : Int32)), .val (.int ln), .val (.int i), .unset, .unset] [] := by
    intro d
    induction d with
    | zero =>
      intro j i T hd hi H X
      refine s_iload 72 C X d6_70 rfl ?_
      refine s_iload 74 C X d6_72 rfl ?_
      refine s_icmp_ge 101 77 C X d6_74 (fun c74 => ?_) (fun c => absurd (Int32.lt_iff_toInt_lt.mp c) (by omega))
      have t_c74 : ¬ ((i).toInt < (ln).toInt) := fun q => c74 (Int32.lt_iff_toInt_lt.mpr q)
      refine s_iconst 102 C X d6_101 kc_iconst_m1 ?_
      refine s_ireturn C X d6_102 rfl ?_
      exact ⟨_, rfl, ⟨fun _ i hi' => H i (by omega), fun _ => by decide⟩, rfl⟩
    | succ d ih =>
      intro j i T hd hi H X
      refine s_iload 72 C X d6_70 rfl ?_
      refine s_iload 74 C X d6_72 rfl ?_
      refine s_icmp_ge 101 77 C X d6_74 (fun c => absurd (Int32.lt_iff_toInt_lt.mpr (by omega)) c) (fun c74 => ?_)
      have t_c74 : (i).toInt < (ln).toInt := Int32.lt_iff_toInt_lt.mp c74
      refine s_aloadN 78 C X d6_77 rfl rfl ?_
      refine s_iloadN 79 C X d6_78 rfl ?_
      refine s_iload 81 C X d6_79 rfl ?_
      refine s_iadd 82 C X d6_81 ?_
      refine Run.cast (st' := [(.int i), (.ref a)]) (by rw [Int32.zero_add]) ?_
      refine s_baload 83 C X d6_82 A_a (own_i hi (by omega : (j : Int) < na.toInt)) (v := (.int (fa j))) (by rw [own_nat hi]; exact ha j (by omega)) ?_
      refine s_aloadN 84 C X d6_83 rfl rfl ?_
      refine s_iloadN 85 C X d6_84 rfl ?_
      refine s_iload 87 C X d6_85 rfl ?_
      refine s_iadd 88 C X d6_87 ?_
      refine Run.cast (st' := [(.int i), (.ref b), (.int (fa j))]) (by rw [Int32.zero_add]) ?_
      refine s_baload 89 C X d6_88 A_b (own_i hi (by omega : (j : Int) < nb.toInt)) (v := (.int (fb j))) (by rw [own_nat hi]; exact hb j (by omega)) ?_
      refine s_icmp_eq 95 92 C X d6_89 (fun c89 => ?_) (fun c89 => ?_)
      · have t_c89 : ((fa j)).toInt = ((fb j)).toInt := congrArg Int32.toInt c89
        refine s_iinc 98 C X (l' := #[.val (.ref a), .val (.int (0 : Int32)), .val (.ref b), .val (.int (0 : Int32)), .val (.int ln), .val (.int (i + (1 : Int32))), .unset, .unset]) d6_95 kc_iconst_1 rfl rfl ?_
        refine s_goto 70 C X d6_98 ?_
        refine ih (j + 1) _ T (by omega) (own_inc (n := ln) hi (by omega)) (fun k hk => ?_) X
        rcases Nat.lt_succ_iff_lt_or_eq.mp hk with g | rfl
        · exact H k g
        · exact c89
      have t_c89 : ¬ (((fa j)).toInt = ((fb j)).toInt) := fun q => c89 (Int32.toInt_inj.mp q)
      refine s_iload 94 C X d6_92 rfl ?_
      refine s_ireturn C X d6_94 rfl ?_
      exact ⟨_, rfl, ⟨fun q => absurd q (by omega), fun q => absurd (q j (by omega)) c89⟩, rfl⟩
  exact loop ln.toInt.toNat 0 0 T (by omega) (by decide) (fun k hk => absurd hk (by omega)) X
set_option maxRecDepth 65536 in
set_option maxHeartbeats 40000000 in
theorem rm_aeq (l : Launch) (Z : State) (a0 : Array Value) (hw : ∀ d ∈ tables_1, d.before a0 Z = true) (a b : Addr) (na nb : Int32) (k_a k_b : ClassId) (va vb : List Value) (da db : Value) (fa fb : Nat → Int32) (h0 : Heap) (n0 : Nat) (Z0 : n0 ≤ h0.size) (A_a : Arv Z h0 a k_a .byte na va da) (A_b : Arv Z h0 b k_b .byte nb vb db) (hl : ¬ nb.toInt < 0) (h7 : ¬ (7 : Int32) < nb) (hla : nb.toInt ≤ na.toInt) (ha : ∀ i : Nat, (i : Int) < nb.toInt → va.getD i da = .int (fa i)) (hb : ∀ i : Nat, (i : Int) < nb.toInt → vb.getD i db = .int (fb i)) :
    Met l Z (⟨"java/util/Arrays", "equals", "([BII[BII)Z"⟩ : MethodName) jdk_65_method_90_code 8 (some .boolean) { frames := 1, cells := 0, slots := 0, locals := 20 } [] #[(.ref a), (.int (0 : Int32)), (.int nb), (.ref b), (.int (0 : Int32)), (.int nb)] h0 n0 (fun v h => ((v = some (.int 1) ∧ (∀ i : Nat, (i : Int) < nb.toInt → fa i = fb i)) ∨ (v = some (.int 0) ∧ ¬ (∀ i : Nat, (i : Int) < nb.toInt → fa i = fb i))) ∧ h = h0) := by
  refine Met.mk (tabs := tables_1) (a0 := a0) (ls0 := #[.val (.ref a), .val (.int (0 : Int32)), .val (.int nb), .val (.ref b), .val (.int (0 : Int32)), .val (.int nb), .unset, .unset]) (plainFor_of_name pn_java_util_Arrays) hw Z0 (fun m => by first | (simp [entryFrame, mkF, argsToLocals, Value.category]; done) | rfl) ?_
  intro p e s m below meth c T C X
  refine s_aloadN 1 C X d4_0 rfl rfl ?_
  refine s_arraylength 2 C X d4_1 A_a ?_
  refine s_iloadN 3 C X d4_2 rfl ?_
  refine s_iloadN 4 C X d4_3 rfl ?_
  refine s_callS 7 [(.int na), (.int (0 : Int32)), (.int nb)] [] 0 C X d4_4 (List.mem_of_getElem? (i := 23) rfl) (List.mem_of_getElem? (i := 24) rfl) (List.mem_of_getElem? (i := 21) rfl) (List.mem_of_getElem? (i := 25) rfl) (rm_rc l Z a0 hw na nb _ n0 X.sz (fun q => hl (Int32.lt_iff_toInt_lt.mp q)) (fun q => absurd (Int32.lt_iff_toInt_lt.mp q) (by omega))) (lenOf pd__III_V rfl) rfl rfl rfl (fun T v h0 X q => ?_)
  obtain ⟨rfl, hE⟩ := q
  rw [hE] at X
  refine Run.cast (st' := []) rfl ?_
  refine s_aloadN 8 C X d4_7 rfl rfl ?_
  refine s_arraylength 9 C X d4_8 A_b ?_
  refine s_iload 11 C X d4_9 rfl ?_
  refine s_iload 13 C X d4_11 rfl ?_
  refine s_callS 16 [(.int nb), (.int (0 : Int32)), (.int nb)] [] 0 C X d4_13 (List.mem_of_getElem? (i := 23) rfl) (List.mem_of_getElem? (i := 24) rfl) (List.mem_of_getElem? (i := 21) rfl) (List.mem_of_getElem? (i := 25) rfl) (rm_rc l Z a0 hw nb nb _ n0 X.sz (fun q => hl (Int32.lt_iff_toInt_lt.mp q)) (fun q => absurd (Int32.lt_iff_toInt_lt.mp q) (by omega))) (lenOf pd__III_V rfl) rfl rfl rfl (fun T v h1 X q => ?_)
  obtain ⟨rfl, hE⟩ := q
  rw [hE] at X
  refine Run.cast (st' := []) rfl ?_
  refine s_iloadN 17 C X d4_16 rfl ?_
  refine s_iloadN 18 C X d4_17 rfl ?_
  refine s_isub 19 C X d4_18 ?_
  refine Run.cast (st' := [(.int nb)]) (by rw [Int32.sub_zero]) ?_
  refine s_istore 21 C X (l' := #[.val (.ref a), .val (.int (0 : Int32)), .val (.int nb), .val (.ref b), .val (.int (0 : Int32)), .val (.int nb), .val (.int nb), .unset]) d4_19 rfl ?_
  refine s_iload 23 C X d4_21 rfl ?_
  refine s_iload 25 C X d4_23 rfl ?_
  refine s_isub 26 C X d4_25 ?_
  refine Run.cast (st' := [(.int nb)]) (by rw [Int32.sub_zero]) ?_
  refine s_istore 28 C X (l' := #[.val (.ref a), .val (.int (0 : Int32)), .val (.int nb), .val (.ref b), .val (.int (0 : Int32)), .val (.int nb), .val (.int nb), .val (.int nb)]) d4_26 rfl ?_
  refine s_iload 30 C X d4_28 rfl ?_
  refine s_iload 32 C X d4_30 rfl ?_
  refine s_icmp_eq 37 35 C X d4_32 (fun _ => ?_) (fun c => absurd rfl c)
  refine s_aloadN 38 C X d4_37 rfl rfl ?_
  refine s_iloadN 39 C X d4_38 rfl ?_
  refine s_aloadN 40 C X d4_39 rfl rfl ?_
  refine s_iload 42 C X d4_40 rfl ?_
  refine s_iload 44 C X d4_42 rfl ?_
  refine s_callS 47 [(.ref a), (.int (0 : Int32)), (.ref b), (.int (0 : Int32)), (.int nb)] [] 0 C X d4_44 (List.mem_of_getElem? (i := 26) rfl) (List.mem_of_getElem? (i := 27) rfl) (List.mem_of_getElem? (i := 28) rfl) (List.mem_of_getElem? (i := 29) rfl) (rm_mis l Z a0 hw a b na nb k_a k_b va vb da db fa fb nb _ n0 X.sz A_a A_b hl h7 hla (by omega) ha hb) (lenOf pd___BI_BII_I rfl) rfl rfl rfl (fun T v h2 X q => ?_)
  obtain ⟨z, rfl, hz, hE⟩ := q
  rw [hE] at X
  refine Run.cast (st' := [(.int z)]) rfl ?_
  refine s_if_ge 54 50 C X d4_47 (fun c47 => ?_) (fun c47 => ?_)
  · have t_c47 : ¬ ((z).toInt < (0 : Int)) := fun q => c47 (Int32.lt_iff_toInt_lt.mpr q)
    refine s_iconst 55 C X d4_54 kc_iconst_0 ?_
    refine s_nreturn C X d4_55 rfl (by simp) rfl ?_
    exact ⟨Or.inr ⟨rfl, fun q => absurd (hz.mpr q) t_c47⟩, rfl⟩
  have t_c47 : (z).toInt < (0 : Int) := Int32.lt_iff_toInt_lt.mp c47
  refine s_iconst 51 C X d4_50 kc_iconst_1 ?_
  refine s_goto 55 C X d4_51 ?_
  refine s_nreturn C X d4_55 rfl (by simp) rfl ?_
  exact ⟨Or.inl ⟨rfl, hz.mp t_c47⟩, rfl⟩
set_option maxRecDepth 65536 in
set_option maxHeartbeats 40000000 in
theorem rm_sw (l : Launch) (Z : State) (a0 : Array Value) (hw : ∀ d ∈ tables_1, d.before a0 Z = true) (a b : Addr) (na nb : Int32) (k_a k_b : ClassId) (va vb : List Value) (da db : Value) (fa fb : Nat → Int32) (h0 : Heap) (n0 : Nat) (Z0 : n0 ≤ h0.size) (A_a : Arv Z h0 a k_a .byte na va da) (A_b : Arv Z h0 b k_b .byte nb vb db) (h7 : ¬ (7 : Int32) < nb) (ha : ∀ i : Nat, (i : Int) < na.toInt → va.getD i da = .int (fa i)) (hb : ∀ i : Nat, (i : Int) < nb.toInt → vb.getD i db = .int (fb i)) :
    Met l Z (⟨"com/example/shapelint/shapelint/io/XmlEncodingFamily", "startsWith", "([B[B)Z"⟩ : MethodName) prog_14_method_9_code 2 (some .boolean) { frames := 2, cells := 0, slots := 0, locals := 45 } [] #[(.ref a), (.ref b)] h0 n0 (fun v h => ((v = some (.int 1) ∧ (0 < nb.toInt ∧ nb.toInt ≤ na.toInt ∧ (∀ i : Nat, (i : Int) < nb.toInt → fa i = fb i))) ∨ (v = some (.int 0) ∧ ¬ (0 < nb.toInt ∧ nb.toInt ≤ na.toInt ∧ (∀ i : Nat, (i : Int) < nb.toInt → fa i = fb i)))) ∧ h = h0) := by
  refine Met.mk (tabs := tables_1) (a0 := a0) (ls0 := #[.val (.ref a), .val (.ref b)]) (plainFor_of_name pn_com_example_shapelint_shapelint_io_XmlEncodingFamily) hw Z0 (fun m => by first | (simp [entryFrame, mkF, argsToLocals, Value.category]; done) | rfl) ?_
  intro p e s m below meth c T C X
  refine s_aloadN 1 C X d3_0 rfl rfl ?_
  refine s_arraylength 2 C X d3_1 A_b ?_
  refine s_if_le 30 5 C X d3_2 (fun c2 => ?_) (fun c2 => ?_)
  · have t_c2 : ¬ ((0 : Int) < (nb).toInt) := fun q => c2 (Int32.lt_iff_toInt_lt.mpr q)
    refine s_iconst 31 C X d3_30 kc_iconst_0 ?_
    refine s_nreturn C X d3_31 rfl (by simp) rfl ?_
    exact ⟨Or.inr ⟨rfl, fun q => by omega⟩, rfl⟩
  have t_c2 : (0 : Int) < (nb).toInt := Int32.lt_iff_toInt_lt.mp c2
  refine s_aloadN 6 C X d3_5 rfl rfl ?_
  refine s_arraylength 7 C X d3_6 A_a ?_
  refine s_aloadN 8 C X d3_7 rfl rfl ?_
  refine s_arraylength 9 C X d3_8 A_b ?_
  refine s_icmp_lt 30 12 C X d3_9 (fun c9 => ?_) (fun c9 => ?_)
  · have t_c9 : (na).toInt < (nb).toInt := Int32.lt_iff_toInt_lt.mp c9
    refine s_iconst 31 C X d3_30 kc_iconst_0 ?_
    refine s_nreturn C X d3_31 rfl (by simp) rfl ?_
    exact ⟨Or.inr ⟨rfl, fun q => by omega⟩, rfl⟩
  have t_c9 : ¬ ((na).toInt < (nb).toInt) := fun q => c9 (Int32.lt_iff_toInt_lt.mpr q)
  refine s_aloadN 13 C X d3_12 rfl rfl ?_
  refine s_iconst 14 C X d3_13 kc_iconst_0 ?_
  refine s_aloadN 15 C X d3_14 rfl rfl ?_
  refine s_arraylength 16 C X d3_15 A_b ?_
  refine s_aloadN 17 C X d3_16 rfl rfl ?_
  refine s_iconst 18 C X d3_17 kc_iconst_0 ?_
  refine s_aloadN 19 C X d3_18 rfl rfl ?_
  refine s_arraylength 20 C X d3_19 A_b ?_
  refine s_callS 23 [(.ref a), (.int (0 : Int32)), (.int nb), (.ref b), (.int (0 : Int32)), (.int nb)] [] 0 C X d3_20 (List.mem_of_getElem? (i := 19) rfl) (List.mem_of_getElem? (i := 20) rfl) (List.mem_of_getElem? (i := 21) rfl) (List.mem_of_getElem? (i := 22) rfl) (rm_aeq l Z a0 hw a b na nb k_a k_b va vb da db fa fb _ n0 X.sz A_a A_b (by omega) h7 (by omega) (fun i hi => ha i (by omega)) hb) (lenOf pd___BII_BII_Z rfl) rfl rfl rfl (fun T v h0 X q => ?_)
  obtain ⟨⟨rfl, hz⟩ | ⟨rfl, hz⟩, hE⟩ := q
  · rw [hE] at X
    refine Run.cast (st' := [(.int (1 : Int32))]) rfl ?_
    refine s_if_eq 30 26 C X d3_23 (fun c => absurd c (by decide)) (fun _ => ?_)
    refine s_iconst 27 C X d3_26 kc_iconst_1 ?_
    refine s_goto 31 C X d3_27 ?_
    refine s_nreturn C X d3_31 rfl (by simp) rfl ?_
    exact ⟨Or.inl ⟨rfl, by omega, by omega, hz⟩, rfl⟩
  · rw [hE] at X
    refine Run.cast (st' := [(.int (0 : Int32))]) rfl ?_
    refine s_if_eq 30 26 C X d3_23 (fun _ => ?_) (fun c => absurd (by decide : (0 : Int32) = (0 : Int32)) c)
    refine s_iconst 31 C X d3_30 kc_iconst_0 ?_
    refine s_nreturn C X d3_31 rfl (by simp) rfl ?_
    exact ⟨Or.inr ⟨rfl, fun q => hz q.2.2⟩, rfl⟩
set_option maxRecDepth 65536 in
set_option maxHeartbeats 40000000 in
theorem rm_pick0 (l : Launch) (Z : State) (a0 : Array Value) (hw : ∀ d ∈ tables_1, d.before a0 Z = true) (f : Addr) (h0 : Heap) (n0 : Nat) (Z0 : n0 ≤ h0.size) (Od : Old Z n0 h0) (S : Sta Z Z.heap "com/example/shapelint/shapelint/io/XmlEncodingFamily" "ASCII_COMPATIBLE" "Lcom/example/shapelint/shapelint/io/XmlEncodingFamily;" (.ref f)) :
    Met l Z (⟨"com/example/shapelint/shapelint/io/XmlEncodingFamilyByteOrderMarkLengthPinLaw", "pick", "(I)Lcom/example/shapelint/shapelint/io/XmlEncodingFamily;"⟩ : MethodName) method_3_code 1 (some (.object "com/example/shapelint/shapelint/io/XmlEncodingFamily")) { frames := 0, cells := 0, slots := 0, locals := 0 } [] #[(.int (0 : Int32))] h0 n0 (fun v h => v = some (.ref f) ∧ h = h0) := by
  refine Met.mk (tabs := tables_1) (a0 := a0) (ls0 := #[.val (.int (0 : Int32))]) (plainFor_of_name pn_com_example_shapelint_shapelint_io_XmlEncodingFamilyByteOrderMarkLengthPinLaw) hw Z0 (fun m => by first | (simp [entryFrame, mkF, argsToLocals, Value.category]; done) | rfl) ?_
  intro p e s m below meth c T C X
  refine s_iloadN 1 C X d1_0 rfl ?_
  refine s_if_ne 8 4 C X d1_1 (fun c => absurd (by decide : (0 : Int32) = (0 : Int32)) c) (fun _ => ?_)
  refine s_getstatic 7 C X (host := "") d1_4 (Or.inl (List.mem_of_getElem? (i := 6) rfl)) Via.refl (S.ext Od.2) (fun T X => ?_)
  refine s_areturn C X d1_7 rfl rfl rfl ?_
  exact ⟨rfl, rfl⟩
set_option maxRecDepth 65536 in
set_option maxHeartbeats 40000000 in
theorem rm_pick1 (l : Launch) (Z : State) (a0 : Array Value) (hw : ∀ d ∈ tables_1, d.before a0 Z = true) (f : Addr) (h0 : Heap) (n0 : Nat) (Z0 : n0 ≤ h0.size) (Od : Old Z n0 h0) (S : Sta Z Z.heap "com/example/shapelint/shapelint/io/XmlEncodingFamily" "UTF_16_BIG_ENDIAN" "Lcom/example/shapelint/shapelint/io/XmlEncodingFamily;" (.ref f)) :
    Met l Z (⟨"com/example/shapelint/shapelint/io/XmlEncodingFamilyByteOrderMarkLengthPinLaw", "pick", "(I)Lcom/example/shapelint/shapelint/io/XmlEncodingFamily;"⟩ : MethodName) method_3_code 1 (some (.object "com/example/shapelint/shapelint/io/XmlEncodingFamily")) { frames := 0, cells := 0, slots := 0, locals := 0 } [] #[(.int (1 : Int32))] h0 n0 (fun v h => v = some (.ref f) ∧ h = h0) := by
  refine Met.mk (tabs := tables_1) (a0 := a0) (ls0 := #[.val (.int (1 : Int32))]) (plainFor_of_name pn_com_example_shapelint_shapelint_io_XmlEncodingFamilyByteOrderMarkLengthPinLaw) hw Z0 (fun m => by first | (simp [entryFrame, mkF, argsToLocals, Value.category]; done) | rfl) ?_
  intro p e s m below meth c T C X
  refine s_iloadN 1 C X d1_0 rfl ?_
  refine s_if_ne 8 4 C X d1_1 (fun _ => ?_) (fun c => absurd c (by decide))
  refine s_iloadN 9 C X d1_8 rfl ?_
  refine s_iconst 10 C X d1_9 kc_iconst_1 ?_
  refine s_icmp_ne 17 13 C X d1_10 (fun c => absurd (by decide : (1 : Int32) = (1 : Int32)) c) (fun _ => ?_)
  refine s_getstatic 16 C X (host := "") d1_13 (Or.inl (List.mem_of_getElem? (i := 34) rfl)) Via.refl (S.ext Od.2) (fun T X => ?_)
  refine s_areturn C X d1_16 rfl rfl rfl ?_
  exact ⟨rfl, rfl⟩
set_option maxRecDepth 65536 in
set_option maxHeartbeats 40000000 in
theorem rm_pick2 (l : Launch) (Z : State) (a0 : Array Value) (hw : ∀ d ∈ tables_1, d.before a0 Z = true) (f : Addr) (h0 : Heap) (n0 : Nat) (Z0 : n0 ≤ h0.size) (Od : Old Z n0 h0) (S : Sta Z Z.heap "com/example/shapelint/shapelint/io/XmlEncodingFamily" "UTF_16_LITTLE_ENDIAN" "Lcom/example/shapelint/shapelint/io/XmlEncodingFamily;" (.ref f)) :
    Met l Z (⟨"com/example/shapelint/shapelint/io/XmlEncodingFamilyByteOrderMarkLengthPinLaw", "pick", "(I)Lcom/example/shapelint/shapelint/io/XmlEncodingFamily;"⟩ : MethodName) method_3_code 1 (some (.object "com/example/shapelint/shapelint/io/XmlEncodingFamily")) { frames := 0, cells := 0, slots := 0, locals := 0 } [] #[(.int (2 : Int32))] h0 n0 (fun v h => v = some (.ref f) ∧ h = h0) := by
  refine Met.mk (tabs := tables_1) (a0 := a0) (ls0 := #[.val (.int (2 : Int32))]) (plainFor_of_name pn_com_example_shapelint_shapelint_io_XmlEncodingFamilyByteOrderMarkLengthPinLaw) hw Z0 (fun m => by first | (simp [entryFrame, mkF, argsToLocals, Value.category]; done) | rfl) ?_
  intro p e s m below meth c T C X
  refine s_iloadN 1 C X d1_0 rfl ?_
  refine s_if_ne 8 4 C X d1_1 (fun _ => ?_) (fun c => absurd c (by decide))
  refine s_iloadN 9 C X d1_8 rfl ?_
  refine s_iconst 10 C X d1_9 kc_iconst_1 ?_
  refine s_icmp_ne 17 13 C X d1_10 (fun _ => ?_) (fun c => absurd c (by decide))
  refine s_iloadN 18 C X d1_17 rfl ?_
  refine s_iconst 19 C X d1_18 kc_iconst_2 ?_
  refine s_icmp_ne 26 22 C X d1_19 (fun c => absurd (by decide : (2 : Int32) = (2 : Int32)) c) (fun _ => ?_)
  refine s_getstatic 25 C X (host := "") d1_22 (Or.inl (List.mem_of_getElem? (i := 36) rfl)) Via.refl (S.ext Od.2) (fun T X => ?_)
  refine s_areturn C X d1_25 rfl rfl rfl ?_
  exact ⟨rfl, rfl⟩
set_option maxRecDepth 65536 in
set_option maxHeartbeats 40000000 in
theorem rm_pick3 (l : Launch) (Z : State) (a0 : Array Value) (hw : ∀ d ∈ tables_1, d.before a0 Z = true) (f : Addr) (h0 : Heap) (n0 : Nat) (Z0 : n0 ≤ h0.size) (Od : Old Z n0 h0) (S : Sta Z Z.heap "com/example/shapelint/shapelint/io/XmlEncodingFamily" "UTF_32_BIG_ENDIAN" "Lcom/example/shapelint/shapelint/io/XmlEncodingFamily;" (.ref f)) :
    Met l Z (⟨"com/example/shapelint/shapelint/io/XmlEncodingFamilyByteOrderMarkLengthPinLaw", "pick", "(I)Lcom/example/shapelint/shapelint/io/XmlEncodingFamily;"⟩ : MethodName) method_3_code 1 (some (.object "com/example/shapelint/shapelint/io/XmlEncodingFamily")) { frames := 0, cells := 0, slots := 0, locals := 0 } [] #[(.int (3 : Int32))] h0 n0 (fun v h => v = some (.ref f) ∧ h = h0) := by
  refine Met.mk (tabs := tables_1) (a0 := a0) (ls0 := #[.val (.int (3 : Int32))]) (plainFor_of_name pn_com_example_shapelint_shapelint_io_XmlEncodingFamilyByteOrderMarkLengthPinLaw) hw Z0 (fun m => by first | (simp [entryFrame, mkF, argsToLocals, Value.category]; done) | rfl) ?_
  intro p e s m below meth c T C X
  refine s_iloadN 1 C X d1_0 rfl ?_
  refine s_if_ne 8 4 C X d1_1 (fun _ => ?_) (fun c => absurd c (by decide))
  refine s_iloadN 9 C X d1_8 rfl ?_
  refine s_iconst 10 C X d1_9 kc_iconst_1 ?_
  refine s_icmp_ne 17 13 C X d1_10 (fun _ => ?_) (fun c => absurd c (by decide))
  refine s_iloadN 18 C X d1_17 rfl ?_
  refine s_iconst 19 C X d1_18 kc_iconst_2 ?_
  refine s_icmp_ne 26 22 C X d1_19 (fun _ => ?_) (fun c => absurd c (by decide))
  refine s_iloadN 27 C X d1_26 rfl ?_
  refine s_iconst 28 C X d1_27 kc_iconst_3 ?_
  refine s_icmp_ne 35 31 C X d1_28 (fun c => absurd (by decide : (3 : Int32) = (3 : Int32)) c) (fun _ => ?_)
  refine s_getstatic 34 C X (host := "") d1_31 (Or.inl (List.mem_of_getElem? (i := 32) rfl)) Via.refl (S.ext Od.2) (fun T X => ?_)
  refine s_areturn C X d1_34 rfl rfl rfl ?_
  exact ⟨rfl, rfl⟩
set_option maxRecDepth 65536 in
set_option maxHeartbeats 40000000 in
theorem rm_pick4 (l : Launch) (Z : State) (a0 : Array Value) (hw : ∀ d ∈ tables_1, d.before a0 Z = true) (f : Addr) (h0 : Heap) (n0 : Nat) (Z0 : n0 ≤ h0.size) (Od : Old Z n0 h0) (S : Sta Z Z.heap "com/example/shapelint/shapelint/io/XmlEncodingFamily" "UTF_32_LITTLE_ENDIAN" "Lcom/example/shapelint/shapelint/io/XmlEncodingFamily;" (.ref f)) :
    Met l Z (⟨"com/example/shapelint/shapelint/io/XmlEncodingFamilyByteOrderMarkLengthPinLaw", "pick", "(I)Lcom/example/shapelint/shapelint/io/XmlEncodingFamily;"⟩ : MethodName) method_3_code 1 (some (.object "com/example/shapelint/shapelint/io/XmlEncodingFamily")) { frames := 0, cells := 0, slots := 0, locals := 0 } [] #[(.int (4 : Int32))] h0 n0 (fun v h => v = some (.ref f) ∧ h = h0) := by
  refine Met.mk (tabs := tables_1) (a0 := a0) (ls0 := #[.val (.int (4 : Int32))]) (plainFor_of_name pn_com_example_shapelint_shapelint_io_XmlEncodingFamilyByteOrderMarkLengthPinLaw) hw Z0 (fun m => by first | (simp [entryFrame, mkF, argsToLocals, Value.category]; done) | rfl) ?_
  intro p e s m below meth c T C X
  refine s_iloadN 1 C X d1_0 rfl ?_
  refine s_if_ne 8 4 C X d1_1 (fun _ => ?_) (fun c => absurd c (by decide))
  refine s_iloadN 9 C X d1_8 rfl ?_
  refine s_iconst 10 C X d1_9 kc_iconst_1 ?_
  refine s_icmp_ne 17 13 C X d1_10 (fun _ => ?_) (fun c => absurd c (by decide))
  refine s_iloadN 18 C X d1_17 rfl ?_
  refine s_iconst 19 C X d1_18 kc_iconst_2 ?_
  refine s_icmp_ne 26 22 C X d1_19 (fun _ => ?_) (fun c => absurd c (by decide))
  refine s_iloadN 27 C X d1_26 rfl ?_
  refine s_iconst 28 C X d1_27 kc_iconst_3 ?_
  refine s_icmp_ne 35 31 C X d1_28 (fun _ => ?_) (fun c => absurd c (by decide))
  refine s_iloadN 36 C X d1_35 rfl ?_
  refine s_iconst 37 C X d1_36 kc_iconst_4 ?_
  refine s_icmp_ne 44 40 C X d1_37 (fun c => absurd (by decide : (4 : Int32) = (4 : Int32)) c) (fun _ => ?_)
  refine s_getstatic 43 C X (host := "") d1_40 (Or.inl (List.mem_of_getElem? (i := 30) rfl)) Via.refl (S.ext Od.2) (fun T X => ?_)
  refine s_areturn C X d1_43 rfl rfl rfl ?_
  exact ⟨rfl, rfl⟩
set_option maxRecDepth 65536 in
set_option maxHeartbeats 40000000 in
theorem rm_pick5 (l : Launch) (Z : State) (a0 : Array Value) (hw : ∀ d ∈ tables_1, d.before a0 Z = true) (f : Addr) (h0 : Heap) (n0 : Nat) (Z0 : n0 ≤ h0.size) (Od : Old Z n0 h0) (S : Sta Z Z.heap "com/example/shapelint/shapelint/io/XmlEncodingFamily" "EBCDIC" "Lcom/example/shapelint/shapelint/io/XmlEncodingFamily;" (.ref f)) :
    Met l Z (⟨"com/example/shapelint/shapelint/io/XmlEncodingFamilyByteOrderMarkLengthPinLaw", "pick", "(I)Lcom/example/shapelint/shapelint/io/XmlEncodingFamily;"⟩ : MethodName) method_3_code 1 (some (.object "com/example/shapelint/shapelint/io/XmlEncodingFamily")) { frames := 0, cells := 0, slots := 0, locals := 0 } [] #[(.int (5 : Int32))] h0 n0 (fun v h => v = some (.ref f) ∧ h = h0) := by
  refine Met.mk (tabs := tables_1) (a0 := a0) (ls0 := #[.val (.int (5 : Int32))]) (plainFor_of_name pn_com_example_shapelint_shapelint_io_XmlEncodingFamilyByteOrderMarkLengthPinLaw) hw Z0 (fun m => by first | (simp [entryFrame, mkF, argsToLocals, Value.category]; done) | rfl) ?_
  intro p e s m below meth c T C X
  refine s_iloadN 1 C X d1_0 rfl ?_
  refine s_if_ne 8 4 C X d1_1 (fun _ => ?_) (fun c => absurd c (by decide))
  refine s_iloadN 9 C X d1_8 rfl ?_
  refine s_iconst 10 C X d1_9 kc_iconst_1 ?_
  refine s_icmp_ne 17 13 C X d1_10 (fun _ => ?_) (fun c => absurd c (by decide))
  refine s_iloadN 18 C X d1_17 rfl ?_
  refine s_iconst 19 C X d1_18 kc_iconst_2 ?_
  refine s_icmp_ne 26 22 C X d1_19 (fun _ => ?_) (fun c => absurd c (by decide))
  refine s_iloadN 27 C X d1_26 rfl ?_
  refine s_iconst 28 C X d1_27 kc_iconst_3 ?_
  refine s_icmp_ne 35 31 C X d1_28 (fun _ => ?_) (fun c => absurd c (by decide))
  refine s_iloadN 36 C X d1_35 rfl ?_
  refine s_iconst 37 C X d1_36 kc_iconst_4 ?_
  refine s_icmp_ne 44 40 C X d1_37 (fun _ => ?_) (fun c => absurd c (by decide))
  refine s_getstatic 47 C X (host := "") d1_44 (Or.inl (List.mem_of_getElem? (i := 38) rfl)) Via.refl (S.ext Od.2) (fun T X => ?_)
  refine s_areturn C X d1_47 rfl rfl rfl ?_
  exact ⟨rfl, rfl⟩
set_option maxRecDepth 65536 in
set_option maxHeartbeats 40000000 in
theorem rm_bom (l : Launch) (Z : State) (a0 : Array Value) (hw : ∀ d ∈ tables_1, d.before a0 Z = true) (f : Addr) (a b : Addr) (na nb : Int32) (k_a k_b : ClassId) (va vb : List Value) (da db : Value) (fa fb : Nat → Int32) (h0 : Heap) (n0 : Nat) (Z0 : n0 ≤ h0.size) (F_f : Fld Z h0 f "com/example/shapelint/shapelint/io/XmlEncodingFamily" "_byteOrderMark" "[B" (.ref b)) (A_a : Arv Z h0 a k_a .byte na va da) (A_b : Arv Z h0 b k_b .byte nb vb db) (h7 : ¬ (7 : Int32) < nb) (ha : ∀ i : Nat, (i : Int) < na.toInt → va.getD i da = .int (fa i)) (hb : ∀ i : Nat, (i : Int) < nb.toInt → vb.getD i db = .int (fb i)) :
    Met l Z (⟨"com/example/shapelint/shapelint/io/XmlEncodingFamily", "byteOrderMarkLength", "([B)I"⟩ : MethodName) prog_14_method_6_code 2 (some .int) { frames := 3, cells := 0, slots := 0, locals := 60 } [] #[(.ref f), (.ref a)] h0 n0 (fun v h => ((v = some (.int nb) ∧ (0 < nb.toInt ∧ nb.toInt ≤ na.toInt ∧ (∀ i : Nat, (i : Int) < nb.toInt → fa i = fb i))) ∨ (v = some (.int 0) ∧ ¬ (0 < nb.toInt ∧ nb.toInt ≤ na.toInt ∧ (∀ i : Nat, (i : Int) < nb.toInt → fa i = fb i)))) ∧ h = h0) := by
  refine Met.mk (tabs := tables_1) (a0 := a0) (ls0 := #[.val (.ref f), .val (.ref a)]) (plainFor_of_name pn_com_example_shapelint_shapelint_io_XmlEncodingFamily) hw Z0 (fun m => by first | (simp [entryFrame, mkF, argsToLocals, Value.category]; done) | rfl) ?_
  intro p e s m below meth c T C X
  refine s_aloadN 1 C X d2_0 rfl rfl ?_
  refine s_aloadN 2 C X d2_1 rfl rfl ?_
  refine s_getfield 5 C X (host := "") d2_2 (Or.inl (List.mem_of_getElem? (i := 14) rfl)) Via.refl F_f (fun T X => ?_)
  refine s_callS 8 [(.ref a), (.ref b)] [] 0 C X d2_5 (List.mem_of_getElem? (i := 16) rfl) (List.mem_of_getElem? (i := 17) rfl) (List.mem_of_getElem? (i := 7) rfl) (List.mem_of_getElem? (i := 18) rfl) (rm_sw l Z a0 hw a b na nb k_a k_b va vb da db fa fb _ n0 X.sz A_a A_b h7 ha hb) (lenOf pd___B_B_Z rfl) rfl rfl rfl (fun T v h0 X q => ?_)
  obtain ⟨⟨rfl, hz⟩ | ⟨rfl, hz⟩, hE⟩ := q
  · rw [hE] at X
    refine Run.cast (st' := [(.int (1 : Int32))]) rfl ?_
    refine s_if_eq 19 11 C X d2_8 (fun c => absurd c (by decide)) (fun _ => ?_)
    refine s_aloadN 12 C X d2_11 rfl rfl ?_
    refine s_getfield 15 C X (host := "") d2_12 (Or.inl (List.mem_of_getElem? (i := 14) rfl)) Via.refl F_f (fun T X => ?_)
    refine s_arraylength 16 C X d2_15 A_b ?_
    refine s_goto 20 C X d2_16 ?_
    refine s_ireturn C X d2_20 rfl ?_
    exact ⟨Or.inl ⟨rfl, hz⟩, rfl⟩
  · rw [hE] at X
    refine Run.cast (st' := [(.int (0 : Int32))]) rfl ?_
    refine s_if_eq 19 11 C X d2_8 (fun _ => ?_) (fun c => absurd (by decide : (0 : Int32) = (0 : Int32)) c)
    refine s_iconst 20 C X d2_19 kc_iconst_0 ?_
    refine s_ireturn C X d2_20 rfl ?_
    exact ⟨Or.inr ⟨rfl, hz⟩, rfl⟩
set_option maxRecDepth 65536 in
set_option maxHeartbeats 40000000 in
theorem rm0 (l : Launch) (Z : State) (a0 : Array Value) (hw : ∀ d ∈ tables_1, d.before a0 Z = true) (x0 x1 x2 x3 x4 x5 : Int32) (f0 b0 : Addr) (k0 : ClassId) (v0 : List Value) (f1 b1 : Addr) (k1 : ClassId) (v1 : List Value) (f2 b2 : Addr) (k2 : ClassId) (v2 : List Value) (f3 b3 : Addr) (k3 : ClassId) (v3 : List Value) (f4 b4 : Addr) (k4 : ClassId) (v4 : List Value) (f5 b5 : Addr) (k5 : ClassId) (v5 : List Value) (h0 : Heap) (n0 : Nat) (Z0 : n0 ≤ h0.size) (Od : Old Z n0 h0) (S0 : Sta Z Z.heap "com/example/shapelint/shapelint/io/XmlEncodingFamily" "ASCII_COMPATIBLE" "Lcom/example/shapelint/shapelint/io/XmlEncodingFamily;" (.ref f0)) (E0 : Exa Z Z.heap f0 "com/example/shapelint/shapelint/io/XmlEncodingFamily") (F0 : Fld Z Z.heap f0 "com/example/shapelint/shapelint/io/XmlEncodingFamily" "_byteOrderMark" "[B" (.ref b0)) (A0 : Arv Z Z.heap b0 k0 .byte 3 v0 (.int 0)) (H0 : ∀ i : Nat, (i : Int) < (3 : Int32).toInt → v0.getD i (.int 0) = .int (nth4 (-17) (-69) (-65) (0) i)) (S1 : Sta Z Z.heap "com/example/shapelint/shapelint/io/XmlEncodingFamily" "UTF_16_BIG_ENDIAN" "Lcom/example/shapelint/shapelint/io/XmlEncodingFamily;" (.ref f1)) (E1 : Exa Z Z.heap f1 "com/example/shapelint/shapelint/io/XmlEncodingFamily") (F1 : Fld Z Z.heap f1 "com/example/shapelint/shapelint/io/XmlEncodingFamily" "_byteOrderMark" "[B" (.ref b1)) (A1 : Arv Z Z.heap b1 k1 .byte 2 v1 (.int 0)) (H1 : ∀ i : Nat, (i : Int) < (2 : Int32).toInt → v1.getD i (.int 0) = .int (nth4 (-2) (-1) (0) (0) i)) (S2 : Sta Z Z.heap "com/example/shapelint/shapelint/io/XmlEncodingFamily" "UTF_16_LITTLE_ENDIAN" "Lcom/example/shapelint/shapelint/io/XmlEncodingFamily;" (.ref f2)) (E2 : Exa Z Z.heap f2 "com/example/shapelint/shapelint/io/XmlEncodingFamily") (F2 : Fld Z Z.heap f2 "com/example/shapelint/shapelint/io/XmlEncodingFamily" "_byteOrderMark" "[B" (.ref b2)) (A2 : Arv Z Z.heap b2 k2 .byte 2 v2 (.int 0)) (H2 : ∀ i : Nat, (i : Int) < (2 : Int32).toInt → v2.getD i (.int 0) = .int (nth4 (-1) (-2) (0) (0) i)) (S3 : Sta Z Z.heap "com/example/shapelint/shapelint/io/XmlEncodingFamily" "UTF_32_BIG_ENDIAN" "Lcom/example/shapelint/shapelint/io/XmlEncodingFamily;" (.ref f3)) (E3 : Exa Z Z.heap f3 "com/example/shapelint/shapelint/io/XmlEncodingFamily") (F3 : Fld Z Z.heap f3 "com/example/shapelint/shapelint/io/XmlEncodingFamily" "_byteOrderMark" "[B" (.ref b3)) (A3 : Arv Z Z.heap b3 k3 .byte 0 v3 (.int 0)) (H3 : ∀ i : Nat, (i : Int) < (0 : Int32).toInt → v3.getD i (.int 0) = .int (nth4 (0) (0) (0) (0) i)) (S4 : Sta Z Z.heap "com/example/shapelint/shapelint/io/XmlEncodingFamily" "UTF_32_LITTLE_ENDIAN" "Lcom/example/shapelint/shapelint/io/XmlEncodingFamily;" (.ref f4)) (E4 : Exa Z Z.heap f4 "com/example/shapelint/shapelint/io/XmlEncodingFamily") (F4 : Fld Z Z.heap f4 "com/example/shapelint/shapelint/io/XmlEncodingFamily" "_byteOrderMark" "[B" (.ref b4)) (A4 : Arv Z Z.heap b4 k4 .byte 0 v4 (.int 0)) (H4 : ∀ i : Nat, (i : Int) < (0 : Int32).toInt → v4.getD i (.int 0) = .int (nth4 (0) (0) (0) (0) i)) (S5 : Sta Z Z.heap "com/example/shapelint/shapelint/io/XmlEncodingFamily" "EBCDIC" "Lcom/example/shapelint/shapelint/io/XmlEncodingFamily;" (.ref f5)) (E5 : Exa Z Z.heap f5 "com/example/shapelint/shapelint/io/XmlEncodingFamily$1") (F5 : Fld Z Z.heap f5 "com/example/shapelint/shapelint/io/XmlEncodingFamily" "_byteOrderMark" "[B" (.ref b5)) (A5 : Arv Z Z.heap b5 k5 .byte 0 v5 (.int 0)) (H5 : ∀ i : Nat, (i : Int) < (0 : Int32).toInt → v5.getD i (.int 0) = .int (nth4 (0) (0) (0) (0) i)) :
    Met l Z x code maxLocals ret room_1 tables_1 #[(.int x0), (.int x1), (.int x2), (.int x3), (.int x4), (.int x5)] h0 n0 (fun v h => v = some (.int 1)) := by
  refine Met.mk (tabs := tables_1) (a0 := a0) (ls0 := #[.val (.int x0), .val (.int x1), .val (.int x2), .val (.int x3), .val (.int x4), .val (.int x5), .unset, .unset, .unset, .unset, .unset, .unset, .unset, .unset, .unset]) (plainFor_of_name pn_com_example_shapelint_shapelint_io_XmlEncodingFamilyByteOrderMarkLengthPinLaw) hw Z0 (fun m => by first | (simp [entryFrame, mkF, argsToLocals, Value.category, maxLocals]; done) | rfl) ?_
  intro p e s m below meth c T C X
  refine s_iloadN 1 C X at_0 rfl ?_
  refine s_ldcInt 3 C X at_1 (List.mem_of_getElem? (i := 0) rfl) ?_
  refine s_iand 4 C X at_3 ?_
  refine s_bipush 6 C X at_4 kc_bipush_6 ?_
  refine s_irem 7 C X at_6 (by decide) ?_
  obtain ⟨kk, e_kk⟩ : ∃ zz_ : Int32, zz_ = ((x0 &&& (2147483647 : Int32)) % (6 : Int32)) := ⟨_, rfl⟩
  refine Run.cast (st' := [(.int kk)]) (by subst e_kk; rfl) ?_
  have h6 := own_6 e_kk
  refine s_istore 9 C X (l' := #[.val (.int x0), .val (.int x1), .val (.int x2), .val (.int x3), .val (.int x4), .val (.int x5), .val (.int kk), .unset, .unset, .unset, .unset, .unset, .unset, .unset, .unset]) at_7 rfl ?_
  refine s_iloadN 10 C X at_9 rfl ?_
  refine s_bipush 12 C X at_10 kc_bipush_7 ?_
  refine s_iand 13 C X at_12 ?_
  obtain ⟨nn, e_nn⟩ : ∃ zz_ : Int32, zz_ = (x1 &&& (7 : Int32)) := ⟨_, rfl⟩
  refine Run.cast (st' := [(.int nn)]) (by subst e_nn; rfl) ?_
  have r_n : 0 ≤ nn.toInt ∧ nn.toInt ≤ 7 := e_nn ▸ own_n7 x1
  refine s_istore 15 C X (l' := #[.val (.int x0), .val (.int x1), .val (.int x2), .val (.int x3), .val (.int x4), .val (.int x5), .val (.int kk), .val (.int nn), .unset, .unset, .unset, .unset, .unset, .unset, .unset]) at_13 rfl ?_
  refine s_iload 17 C X at_15 rfl ?_
  refine s_newarray 19 7 C X at_17 (List.mem_of_getElem? (i := 1) rfl) (fun q => absurd (Int32.lt_iff_toInt_lt.mp q) (by show ¬ nn.toInt < 0; omega)) (own_cap7 r_n) (fun T _ o1 k_o1 hb_o1 X E A_o1 g_o1 => ?_)
  have Od := Od.ext E
  have A_o1 : Arv Z _ o1 k_o1 .byte nn [(.int 0), (.int 0), (.int 0), (.int 0)] (.int 0) := A_o1.pad (pad_rep [] _ 4)
  refine s_astore 21 C X (l' := #[.val (.int x0), .val (.int x1), .val (.int x2), .val (.int x3), .val (.int x4), .val (.int x5), .val (.int kk), .val (.int nn), .val (.ref o1), .unset, .unset, .unset, .unset, .unset, .unset]) at_19 rfl rfl ?_
  have J : ∀ (T : State) (h : Heap) (vs : List Value), Old Z n0 h → Arv Z h o1 k_o1 .byte nn vs (.int 0) → (∀ i : Nat, (i : Int) < nn.toInt → vs.getD i (.int 0) = .int ((nth4 (bb x2) (bb x3) (bb x4) (bb x5)) i)) → St p l e room_1 s m #[(.int x0), (.int x1), (.int x2), (.int x3), (.int x4), (.int x5)] below meth c n0 T h 1 7 → Run p e below n0 (fun (v : Option Value) (h : Heap) => v = some (.int 1)) (fun o t L => FrameEnd s o t L room_1.cells room_1.slots) m T 70 #[.val (.int x0), .val (.int x1), .val (.int x2), .val (.int x3), .val (.int x4), .val (.int x5), .val (.int kk), .val (.int nn), .val (.ref o1), .unset, .unset, .unset, .unset, .unset, .unset] [] := by
    intro T h vs Od A_o1 ha X
    have b_x2 := own_bb x2
    have b_x3 := own_bb x3
    have b_x4 := own_bb x4
    rcases h6 with rfl | rfl | rfl | rfl | rfl | rfl
    · refine s_iload 72 C X at_70 rfl ?_
      refine s_callS 75 [(.int (0 : Int32))] [] 0 C X at_72 (List.mem_of_getElem? (i := 2) rfl) (List.mem_of_getElem? (i := 3) rfl) (List.mem_of_getElem? (i := 4) rfl) (List.mem_of_getElem? (i := 5) rfl) (rm_pick0 l Z a0 hw f0 _ n0 X.sz Od S0) (lenOf pd__I_Lcom_example_shapelint_shapelint_io_XmlEncodingFamily_ rfl) rfl rfl rfl (fun T v h1 X q => ?_)
      obtain ⟨rfl, hE⟩ := q
      rw [hE] at X
      have E_f0 := E0.ext Od.2
      have F_f0 := F0.ext Od.2
      have A_b0 := A0.ext Od.2
      refine Run.cast (st' := [(.ref f0)]) rfl ?_
      refine s_astore 77 C X (l' := #[.val (.int x0), .val (.int x1), .val (.int x2), .val (.int x3), .val (.int x4), .val (.int x5), .val (.int (0 : Int32)), .val (.int nn), .val (.ref o1), .val (.ref f0), .unset, .unset, .unset, .unset, .unset]) at_75 rfl rfl ?_
      refine s_aload 79 C X at_77 rfl rfl ?_
      refine s_aload 81 C X at_79 rfl rfl ?_
      refine s_callV 84 [(.ref o1)] [] 0 C X at_81 (List.mem_of_getElem? (i := 9) rfl) (List.mem_of_getElem? (i := 10) rfl) (notFace_of_selects (args := #[]) (mvT C.2.1 (C.w (List.mem_of_getElem? (i := 12) rfl)))) (List.mem_of_getElem? (i := 12) rfl) (List.mem_of_getElem? (i := 11) rfl) (List.mem_of_getElem? (i := 7) rfl) (List.mem_of_getElem? (i := 13) rfl) E_f0 (rm_bom l Z a0 hw f0 o1 b0 nn 3 k_o1 k0 vs v0 (.int 0) (.int 0) (nth4 (bb x2) (bb x3) (bb x4) (bb x5)) (nth4 (-17) (-69) (-65) (0)) _ n0 X.sz F_f0 A_o1 A_b0 (by decide) ha H0) (lenOf pd___B_I rfl) rfl rfl rfl (fun T v h2 X q => ?_)
      obtain ⟨⟨rfl, hz⟩ | ⟨rfl, hz⟩, hE⟩ := q
      · rw [hE] at X
        replace hz := own_sw3.mp hz
        refine Run.cast (st' := [(.int (3 : Int32))]) rfl ?_
        refine s_istore 86 C X (l' := #[.val (.int x0), .val (.int x1), .val (.int x2), .val (.int x3), .val (.int x4), .val (.int x5), .val (.int (0 : Int32)), .val (.int nn), .val (.ref o1), .val (.ref f0), .val (.int (3 : Int32)), .unset, .unset, .unset, .unset]) at_84 rfl ?_
        refine s_iloadN 87 C X at_86 rfl ?_
        refine s_sipush 90 C X at_87 kc_sipush_255 ?_
        refine s_iand 91 C X at_90 ?_
        refine s_istore 93 C X (l' := #[.val (.int x0), .val (.int x1), .val (.int x2), .val (.int x3), .val (.int x4), .val (.int x5), .val (.int (0 : Int32)), .val (.int nn), .val (.ref o1), .val (.ref f0), .val (.int (3 : Int32)), .val (.int (x2 &&& (255 : Int32))), .unset, .unset, .unset]) at_91 rfl ?_
        refine s_iloadN 94 C X at_93 rfl ?_
        refine s_sipush 97 C X at_94 kc_sipush_255 ?_
        refine s_iand 98 C X at_97 ?_
        refine s_istore 100 C X (l' := #[.val (.int x0), .val (.int x1), .val (.int x2), .val (.int x3), .val (.int x4), .val (.int x5), .val (.int (0 : Int32)), .val (.int nn), .val (.ref o1), .val (.ref f0), .val (.int (3 : Int32)), .val (.int (x2 &&& (255 : Int32))), .val (.int (x3 &&& (255 : Int32))), .unset, .unset]) at_98 rfl ?_
        refine s_iload 102 C X at_100 rfl ?_
        refine s_sipush 105 C X at_102 kc_sipush_255 ?_
        refine s_iand 106 C X at_105 ?_
        refine s_istore 108 C X (l' := #[.val (.int x0), .val (.int x1), .val (.int x2), .val (.int x3), .val (.int x4), .val (.int x5), .val (.int (0 : Int32)), .val (.int nn), .val (.ref o1), .val (.ref f0), .val (.int (3 : Int32)), .val (.int (x2 &&& (255 : Int32))), .val (.int (x3 &&& (255 : Int32))), .val (.int (x4 &&& (255 : Int32))), .unset]) at_106 rfl ?_
        refine s_iconst 109 C X at_108 kc_iconst_0 ?_
        refine s_istore 111 C X (l' := #[.val (.int x0), .val (.int x1), .val (.int x2), .val (.int x3), .val (.int x4), .val (.int x5), .val (.int (0 : Int32)), .val (.int nn), .val (.ref o1), .val (.ref f0), .val (.int (3 : Int32)), .val (.int (x2 &&& (255 : Int32))), .val (.int (x3 &&& (255 : Int32))), .val (.int (x4 &&& (255 : Int32))), .val (.int (0 : Int32))]) at_109 rfl ?_
        refine s_iload 113 C X at_111 rfl ?_
        refine s_if_ne 152 116 C X at_113 (fun c => absurd (by decide : (0 : Int32) = (0 : Int32)) c) (fun _ => ?_)
        refine s_iload 118 C X at_116 rfl ?_
        refine s_iconst 119 C X at_118 kc_iconst_3 ?_
        refine s_icmp_lt 217 122 C X at_119 (fun c119 => ?_) (fun c119 => ?_)
        · have t_c119 : (nn).toInt < (3 : Int) := Int32.lt_iff_toInt_lt.mp c119
          refine s_iload 219 C X at_217 rfl ?_
          refine s_iload 221 C X at_219 rfl ?_
          refine s_icmp_ne 228 224 C X at_221 (fun _ => ?_) (fun c => absurd c (by decide))
          refine s_iconst 229 C X at_228 kc_iconst_0 ?_
          refine s_nreturn C X at_229 rfl (by simp) rfl ?_
          exfalso
          simp only [nth4, (by decide : (-69 : Int32).toInt = -69), (by decide : (-65 : Int32).toInt = -65), (by decide : (-17 : Int32).toInt = -17)] at hz
          omega
        have t_c119 : ¬ ((nn).toInt < (3 : Int)) := fun q => c119 (Int32.lt_iff_toInt_lt.mpr q)
        refine s_iload 124 C X at_122 rfl ?_
        refine s_sipush 127 C X at_124 kc_sipush_239 ?_
        refine s_icmp_ne 217 130 C X at_127 (fun c127 => ?_) (fun c127 => ?_)
        · have t_c127 : ¬ (((x2 &&& (255 : Int32))).toInt = (239 : Int)) := fun q => c127 (Int32.toInt_inj.mp q)
          refine s_iload 219 C X at_217 rfl ?_
          refine s_iload 221 C X at_219 rfl ?_
          refine s_icmp_ne 228 224 C X at_221 (fun _ => ?_) (fun c => absurd c (by decide))
          refine s_iconst 229 C X at_228 kc_iconst_0 ?_
          refine s_nreturn C X at_229 rfl (by simp) rfl ?_
          exfalso
          simp only [nth4, (by decide : (-69 : Int32).toInt = -69), (by decide : (-65 : Int32).toInt = -65), (by decide : (-17 : Int32).toInt = -17)] at hz
          omega
        have t_c127 : ((x2 &&& (255 : Int32))).toInt = (239 : Int) := congrArg Int32.toInt c127
        refine s_iload 132 C X at_130 rfl ?_
        refine s_sipush 135 C X at_132 kc_sipush_187 ?_
        refine s_icmp_ne 217 138 C X at_135 (fun c135 => ?_) (fun c135 => ?_)
        · have t_c135 : ¬ (((x3 &&& (255 : Int32))).toInt = (187 : Int)) := fun q => c135 (Int32.toInt_inj.mp q)
          refine s_iload 219 C X at_217 rfl ?_
          refine s_iload 221 C X at_219 rfl ?_
          refine s_icmp_ne 228 224 C X at_221 (fun _ => ?_) (fun c => absurd c (by decide))
          refine s_iconst 229 C X at_228 kc_iconst_0 ?_
          refine s_nreturn C X at_229 rfl (by simp) rfl ?_
          exfalso
          simp only [nth4, (by decide : (-69 : Int32).toInt = -69), (by decide : (-65 : Int32).toInt = -65), (by decide : (-17 : Int32).toInt = -17)] at hz
          omega
        have t_c135 : ((x3 &&& (255 : Int32))).toInt = (187 : Int) := congrArg Int32.toInt c135
        refine s_iload 140 C X at_138 rfl ?_
        refine s_sipush 143 C X at_140 kc_sipush_191 ?_
        refine s_icmp_ne 217 146 C X at_143 (fun c143 => ?_) (fun c143 => ?_)
        · have t_c143 : ¬ (((x4 &&& (255 : Int32))).toInt = (191 : Int)) := fun q => c143 (Int32.toInt_inj.mp q)
          refine s_iload 219 C X at_217 rfl ?_
          refine s_iload 221 C X at_219 rfl ?_
          refine s_icmp_ne 228 224 C X at_221 (fun _ => ?_) (fun c => absurd c (by decide))
          refine s_iconst 229 C X at_228 kc_iconst_0 ?_
          refine s_nreturn C X at_229 rfl (by simp) rfl ?_
          exfalso
          simp only [nth4, (by decide : (-69 : Int32).toInt = -69), (by decide : (-65 : Int32).toInt = -65), (by decide : (-17 : Int32).toInt = -17)] at hz
          omega
        have t_c143 : ((x4 &&& (255 : Int32))).toInt = (191 : Int) := congrArg Int32.toInt c143
        refine s_iconst 147 C X at_146 kc_iconst_3 ?_
        refine s_istore 149 C X (l' := #[.val (.int x0), .val (.int x1), .val (.int x2), .val (.int x3), .val (.int x4), .val (.int x5), .val (.int (0 : Int32)), .val (.int nn), .val (.ref o1), .val (.ref f0), .val (.int (3 : Int32)), .val (.int (x2 &&& (255 : Int32))), .val (.int (x3 &&& (255 : Int32))), .val (.int (x4 &&& (255 : Int32))), .val (.int (3 : Int32))]) at_147 rfl ?_
        refine s_goto 217 C X at_149 ?_
        refine s_iload 219 C X at_217 rfl ?_
        refine s_iload 221 C X at_219 rfl ?_
        refine s_icmp_ne 228 224 C X at_221 (fun c => absurd (by decide : (3 : Int32) = (3 : Int32)) c) (fun _ => ?_)
        refine s_iconst 225 C X at_224 kc_iconst_1 ?_
        refine s_goto 229 C X at_225 ?_
        refine s_nreturn C X at_229 rfl (by simp) rfl ?_
        rfl
      · rw [hE] at X
        replace hz := mt own_sw3.mpr hz
        refine Run.cast (st' := [(.int (0 : Int32))]) rfl ?_
        refine s_istore 86 C X (l' := #[.val (.int x0), .val (.int x1), .val (.int x2), .val (.int x3), .val (.int x4), .val (.int x5), .val (.int (0 : Int32)), .val (.int nn), .val (.ref o1), .val (.ref f0), .val (.int (0 : Int32)), .unset, .unset, .unset, .unset]) at_84 rfl ?_
        refine s_iloadN 87 C X at_86 rfl ?_
        refine s_sipush 90 C X at_87 kc_sipush_255 ?_
        refine s_iand 91 C X at_90 ?_
        refine s_istore 93 C X (l' := #[.val (.int x0), .val (.int x1), .val (.int x2), .val (.int x3), .val (.int x4), .val (.int x5), .val (.int (0 : Int32)), .val (.int nn), .val (.ref o1), .val (.ref f0), .val (.int (0 : Int32)), .val (.int (x2 &&& (255 : Int32))), .unset, .unset, .unset]) at_91 rfl ?_
        refine s_iloadN 94 C X at_93 rfl ?_
        refine s_sipush 97 C X at_94 kc_sipush_255 ?_
        refine s_iand 98 C X at_97 ?_
        refine s_istore 100 C X (l' := #[.val (.int x0), .val (.int x1), .val (.int x2), .val (.int x3), .val (.int x4), .val (.int x5), .val (.int (0 : Int32)), .val (.int nn), .val (.ref o1), .val (.ref f0), .val (.int (0 : Int32)), .val (.int (x2 &&& (255 : Int32))), .val (.int (x3 &&& (255 : Int32))), .unset, .unset]) at_98 rfl ?_
        refine s_iload 102 C X at_100 rfl ?_
        refine s_sipush 105 C X at_102 kc_sipush_255 ?_
        refine s_iand 106 C X at_105 ?_
        refine s_istore 108 C X (l' := #[.val (.int x0), .val (.int x1), .val (.int x2), .val (.int x3), .val (.int x4), .val (.int x5), .val (.int (0 : Int32)), .val (.int nn), .val (.ref o1), .val (.ref f0), .val (.int (0 : Int32)), .val (.int (x2 &&& (255 : Int32))), .val (.int (x3 &&& (255 : Int32))), .val (.int (x4 &&& (255 : Int32))), .unset]) at_106 rfl ?_
        refine s_iconst 109 C X at_108 kc_iconst_0 ?_
        refine s_istore 111 C X (l' := #[.val (.int x0), .val (.int x1), .val (.int x2), .val (.int x3), .val (.int x4), .val (.int x5), .val (.int (0 : Int32)), .val (.int nn), .val (.ref o1), .val (.ref f0), .val (.int (0 : Int32)), .val (.int (x2 &&& (255 : Int32))), .val (.int (x3 &&& (255 : Int32))), .val (.int (x4 &&& (255 : Int32))), .val (.int (0 : Int32))]) at_109 rfl ?_
        refine s_iload 113 C X at_111 rfl ?_
        refine s_if_ne 152 116 C X at_113 (fun c => absurd (by decide : (0 : Int32) = (0 : Int32)) c) (fun _ => ?_)
        refine s_iload 118 C X at_116 rfl ?_
        refine s_iconst 119 C X at_118 kc_iconst_3 ?_
        refine s_icmp_lt 217 122 C X at_119 (fun c119 => ?_) (fun c119 => ?_)
        · have t_c119 : (nn).toInt < (3 : Int) := Int32.lt_iff_toInt_lt.mp c119
          refine s_iload 219 C X at_217 rfl ?_
          refine s_iload 221 C X at_219 rfl ?_
          refine s_icmp_ne 228 224 C X at_221 (fun c => absurd (by decide : (0 : Int32) = (0 : Int32)) c) (fun _ => ?_)
          refine s_iconst 225 C X at_224 kc_iconst_1 ?_
          refine s_goto 229 C X at_225 ?_
          refine s_nreturn C X at_229 rfl (by simp) rfl ?_
          rfl
        have t_c119 : ¬ ((nn).toInt < (3 : Int)) := fun q => c119 (Int32.lt_iff_toInt_lt.mpr q)
        refine s_iload 124 C X at_122 rfl ?_
        refine s_sipush 127 C X at_124 kc_sipush_239 ?_
        refine s_icmp_ne 217 130 C X at_127 (fun c127 => ?_) (fun c127 => ?_)
        · have t_c127 : ¬ (((x2 &&& (255 : Int32))).toInt = (239 : Int)) := fun q => c127 (Int32.toInt_inj.mp q)
          refine s_iload 219 C X at_217 rfl ?_
          refine s_iload 221 C X at_219 rfl ?_
          refine s_icmp_ne 228 224 C X at_221 (fun c => absurd (by decide : (0 : Int32) = (0 : Int32)) c) (fun _ => ?_)
          refine s_iconst 225 C X at_224 kc_iconst_1 ?_
          refine s_goto 229 C X at_225 ?_
          refine s_nreturn C X at_229 rfl (by simp) rfl ?_
          rfl
        have t_c127 : ((x2 &&& (255 : Int32))).toInt = (239 : Int) := congrArg Int32.toInt c127
        refine s_iload 132 C X at_130 rfl ?_
        refine s_sipush 135 C X at_132 kc_sipush_187 ?_
        refine s_icmp_ne 217 138 C X at_135 (fun c135 => ?_) (fun c135 => ?_)
        · have t_c135 : ¬ (((x3 &&& (255 : Int32))).toInt = (187 : Int)) := fun q => c135 (Int32.toInt_inj.mp q)
          refine s_iload 219 C X at_217 rfl ?_
          refine s_iload 221 C X at_219 rfl ?_
          refine s_icmp_ne 228 224 C X at_221 (fun c => absurd (by decide : (0 : Int32) = (0 : Int32)) c) (fun _ => ?_)
          refine s_iconst 225 C X at_224 kc_iconst_1 ?_
          refine s_goto 229 C X at_225 ?_
          refine s_nreturn C X at_229 rfl (by simp) rfl ?_
          rfl
        have t_c135 : ((x3 &&& (255 : Int32))).toInt = (187 : Int) := congrArg Int32.toInt c135
        refine s_iload 140 C X at_138 rfl ?_
        refine s_sipush 143 C X at_140 kc_sipush_191 ?_
        refine s_icmp_ne 217 146 C X at_143 (fun c143 => ?_) (fun c143 => ?_)
        · have t_c143 : ¬ (((x4 &&& (255 : Int32))).toInt = (191 : Int)) := fun q => c143 (Int32.toInt_inj.mp q)
          refine s_iload 219 C X at_217 rfl ?_
          refine s_iload 221 C X at_219 rfl ?_
          refine s_icmp_ne 228 224 C X at_221 (fun c => absurd (by decide : (0 : Int32) = (0 : Int32)) c) (fun _ => ?_)
          refine s_iconst 225 C X at_224 kc_iconst_1 ?_
          refine s_goto 229 C X at_225 ?_
          refine s_nreturn C X at_229 rfl (by simp) rfl ?_
          rfl
        have t_c143 : ((x4 &&& (255 : Int32))).toInt = (191 : Int) := congrArg Int32.toInt c143
        refine s_iconst 147 C X at_146 kc_iconst_3 ?_
        refine s_istore 149 C X (l' := #[.val (.int x0), .val (.int x1), .val (.int x2), .val (.int x3), .val (.int x4), .val (.int x5), .val (.int (0 : Int32)), .val (.int nn), .val (.ref o1), .val (.ref f0), .val (.int (0 : Int32)), .val (.int (x2 &&& (255 : Int32))), .val (.int (x3 &&& (255 : Int32))), .val (.int (x4 &&& (255 : Int32))), .val (.int (3 : Int32))]) at_147 rfl ?_
        refine s_goto 217 C X at_149 ?_
        refine s_iload 219 C X at_217 rfl ?_
        refine s_iload 221 C X at_219 rfl ?_
        refine s_icmp_ne 228 224 C X at_221 (fun _ => ?_) (fun c => absurd c (by decide))
        refine s_iconst 229 C X at_228 kc_iconst_0 ?_
        refine s_nreturn C X at_229 rfl (by simp) rfl ?_
        exfalso
        simp only [nth4, (by decide : (-69 : Int32).toInt = -69), (by decide : (-65 : Int32).toInt = -65), (by decide : (-17 : Int32).toInt = -17)] at hz
        omega
    · refine s_iload 72 C X at_70 rfl ?_
      refine s_callS 75 [(.int (1 : Int32))] [] 0 C X at_72 (List.mem_of_getElem? (i := 2) rfl) (List.mem_of_getElem? (i := 3) rfl) (List.mem_of_getElem? (i := 4) rfl) (List.mem_of_getElem? (i := 5) rfl) (rm_pick1 l Z a0 hw f1 _ n0 X.sz Od S1) (lenOf pd__I_Lcom_example_shapelint_shapelint_io_XmlEncodingFamily_ rfl) rfl rfl rfl (fun T v h3 X q => ?_)
      obtain ⟨rfl, hE⟩ := q
      rw [hE] at X
      have E_f1 := E1.ext Od.2
      have F_f1 := F1.ext Od.2
      have A_b1 := A1.ext Od.2
      refine Run.cast (st' := [(.ref f1)]) rfl ?_
      refine s_astore 77 C X (l' := #[.val (.int x0), .val (.int x1), .val (.int x2), .val (.int x3), .val (.int x4), .val (.int x5), .val (.int (1 : Int32)), .val (.int nn), .val (.ref o1), .val (.ref f1), .unset, .unset, .unset, .unset, .unset]) at_75 rfl rfl ?_
      refine s_aload 79 C X at_77 rfl rfl ?_
      refine s_aload 81 C X at_79 rfl rfl ?_
      refine s_callV 84 [(.ref o1)] [] 0 C X at_81 (List.mem_of_getElem? (i := 9) rfl) (List.mem_of_getElem? (i := 10) rfl) (notFace_of_selects (args := #[]) (mvT C.2.1 (C.w (List.mem_of_getElem? (i := 12) rfl)))) (List.mem_of_getElem? (i := 12) rfl) (List.mem_of_getElem? (i := 11) rfl) (List.mem_of_getElem? (i := 7) rfl) (List.mem_of_getElem? (i := 13) rfl) E_f1 (rm_bom l Z a0 hw f1 o1 b1 nn 2 k_o1 k1 vs v1 (.int 0) (.int 0) (nth4 (bb x2) (bb x3) (bb x4) (bb x5)) (nth4 (-2) (-1) (0) (0)) _ n0 X.sz F_f1 A_o1 A_b1 (by decide) ha H1) (lenOf pd___B_I rfl) rfl rfl rfl (fun T v h4 X q => ?_)
      obtain ⟨⟨rfl, hz⟩ | ⟨rfl, hz⟩, hE⟩ := q
      · rw [hE] at X
        replace hz := own_sw2.mp hz
        refine Run.cast (st' := [(.int (2 : Int32))]) rfl ?_
        refine s_istore 86 C X (l' := #[.val (.int x0), .val (.int x1), .val (.int x2), .val (.int x3), .val (.int x4), .val (.int x5), .val (.int (1 : Int32)), .val (.int nn), .val (.ref o1), .val (.ref f1), .val (.int (2 : Int32)), .unset, .unset, .unset, .unset]) at_84 rfl ?_
        refine s_iloadN 87 C X at_86 rfl ?_
        refine s_sipush 90 C X at_87 kc_sipush_255 ?_
        refine s_iand 91 C X at_90 ?_
        refine s_istore 93 C X (l' := #[.val (.int x0), .val (.int x1), .val (.int x2), .val (.int x3), .val (.int x4), .val (.int x5), .val (.int (1 : Int32)), .val (.int nn), .val (.ref o1), .val (.ref f1), .val (.int (2 : Int32)), .val (.int (x2 &&& (255 : Int32))), .unset, .unset, .unset]) at_91 rfl ?_
        refine s_iloadN 94 C X at_93 rfl ?_
        refine s_sipush 97 C X at_94 kc_sipush_255 ?_
        refine s_iand 98 C X at_97 ?_
        refine s_istore 100 C X (l' := #[.val (.int x0), .val (.int x1), .val (.int x2), .val (.int x3), .val (.int x4), .val (.int x5), .val (.int (1 : Int32)), .val (.int nn), .val (.ref o1), .val (.ref f1), .val (.int (2 : Int32)), .val (.int (x2 &&& (255 : Int32))), .val (.int (x3 &&& (255 : Int32))), .unset, .unset]) at_98 rfl ?_
        refine s_iload 102 C X at_100 rfl ?_
        refine s_sipush 105 C X at_102 kc_sipush_255 ?_
        refine s_iand 106 C X at_105 ?_
        refine s_istore 108 C X (l' := #[.val (.int x0), .val (.int x1), .val (.int x2), .val (.int x3), .val (.int x4), .val (.int x5), .val (.int (1 : Int32)), .val (.int nn), .val (.ref o1), .val (.ref f1), .val (.int (2 : Int32)), .val (.int (x2 &&& (255 : Int32))), .val (.int (x3 &&& (255 : Int32))), .val (.int (x4 &&& (255 : Int32))), .unset]) at_106 rfl ?_
        refine s_iconst 109 C X at_108 kc_iconst_0 ?_
        refine s_istore 111 C X (l' := #[.val (.int x0), .val (.int x1), .val (.int x2), .val (.int x3), .val (.int x4), .val (.int x5), .val (.int (1 : Int32)), .val (.int nn), .val (.ref o1), .val (.ref f1), .val (.int (2 : Int32)), .val (.int (x2 &&& (255 : Int32))), .val (.int (x3 &&& (255 : Int32))), .val (.int (x4 &&& (255 : Int32))), .val (.int (0 : Int32))]) at_109 rfl ?_
        refine s_iload 113 C X at_111 rfl ?_
        refine s_if_ne 152 116 C X at_113 (fun _ => ?_) (fun c => absurd c (by decide))
        refine s_iload 154 C X at_152 rfl ?_
        refine s_iconst 155 C X at_154 kc_iconst_1 ?_
        refine s_icmp_ne 186 158 C X at_155 (fun c => absurd (by decide : (1 : Int32) = (1 : Int32)) c) (fun _ => ?_)
        refine s_iload 160 C X at_158 rfl ?_
        refine s_iconst 161 C X at_160 kc_iconst_2 ?_
        refine s_icmp_lt 217 164 C X at_161 (fun c161 => ?_) (fun c161 => ?_)
        · have t_c161 : (nn).toInt < (2 : Int) := Int32.lt_iff_toInt_lt.mp c161
          refine s_iload 219 C X at_217 rfl ?_
          refine s_iload 221 C X at_219 rfl ?_
          refine s_icmp_ne 228 224 C X at_221 (fun _ => ?_) (fun c => absurd c (by decide))
          refine s_iconst 229 C X at_228 kc_iconst_0 ?_
          refine s_nreturn C X at_229 rfl (by simp) rfl ?_
          exfalso
          simp only [nth4, (by decide : (-2 : Int32).toInt = -2), (by decide : (-1 : Int32).toInt = -1)] at hz
          omega
        have t_c161 : ¬ ((nn).toInt < (2 : Int)) := fun q => c161 (Int32.lt_iff_toInt_lt.mpr q)
        refine s_iload 166 C X at_164 rfl ?_
        refine s_sipush 169 C X at_166 kc_sipush_254 ?_
        refine s_icmp_ne 217 172 C X at_169 (fun c169 => ?_) (fun c169 => ?_)
        · have t_c169 : ¬ (((x2 &&& (255 : Int32))).toInt = (254 : Int)) := fun q => c169 (Int32.toInt_inj.mp q)
          refine s_iload 219 C X at_217 rfl ?_
          refine s_iload 221 C X at_219 rfl ?_
          refine s_icmp_ne 228 224 C X at_221 (fun _ => ?_) (fun c => absurd c (by decide))
          refine s_iconst 229 C X at_228 kc_iconst_0 ?_
          refine s_nreturn C X at_229 rfl (by simp) rfl ?_
          exfalso
          simp only [nth4, (by decide : (-2 : Int32).toInt = -2), (by decide : (-1 : Int32).toInt = -1)] at hz
          omega
        have t_c169 : ((x2 &&& (255 : Int32))).toInt = (254 : Int) := congrArg Int32.toInt c169
        refine s_iload 174 C X at_172 rfl ?_
        refine s_sipush 177 C X at_174 kc_sipush_255 ?_
        refine s_icmp_ne 217 180 C X at_177 (fun c177 => ?_) (fun c177 => ?_)
        · have t_c177 : ¬ (((x3 &&& (255 : Int32))).toInt = (255 : Int)) := fun q => c177 (Int32.toInt_inj.mp q)
          refine s_iload 219 C X at_217 rfl ?_
          refine s_iload 221 C X at_219 rfl ?_
          refine s_icmp_ne 228 224 C X at_221 (fun _ => ?_) (fun c => absurd c (by decide))
          refine s_iconst 229 C X at_228 kc_iconst_0 ?_
          refine s_nreturn C X at_229 rfl (by simp) rfl ?_
          exfalso
          simp only [nth4, (by decide : (-2 : Int32).toInt = -2), (by decide : (-1 : Int32).toInt = -1)] at hz
          omega
        have t_c177 : ((x3 &&& (255 : Int32))).toInt = (255 : Int) := congrArg Int32.toInt c177
        refine s_iconst 181 C X at_180 kc_iconst_2 ?_
        refine s_istore 183 C X (l' := #[.val (.int x0), .val (.int x1), .val (.int x2), .val (.int x3), .val (.int x4), .val (.int x5), .val (.int (1 : Int32)), .val (.int nn), .val (.ref o1), .val (.ref f1), .val (.int (2 : Int32)), .val (.int (x2 &&& (255 : Int32))), .val (.int (x3 &&& (255 : Int32))), .val (.int (x4 &&& (255 : Int32))), .val (.int (2 : Int32))]) at_181 rfl ?_
        refine s_goto 217 C X at_183 ?_
        refine s_iload 219 C X at_217 rfl ?_
        refine s_iload 221 C X at_219 rfl ?_
        refine s_icmp_ne 228 224 C X at_221 (fun c => absurd (by decide : (2 : Int32) = (2 : Int32)) c) (fun _ => ?_)
        refine s_iconst 225 C X at_224 kc_iconst_1 ?_
        refine s_goto 229 C X at_225 ?_
        refine s_nreturn C X at_229 rfl (by simp) rfl ?_
        rfl
      · rw [hE] at X
        replace hz := mt own_sw2.mpr hz
        refine Run.cast (st' := [(.int (0 : Int32))]) rfl ?_
        refine s_istore 86 C X (l' := #[.val (.int x0), .val (.int x1), .val (.int x2), .val (.int x3), .val (.int x4), .val (.int x5), .val (.int (1 : Int32)), .val (.int nn), .val (.ref o1), .val (.ref f1), .val (.int (0 : Int32)), .unset, .unset, .unset, .unset]) at_84 rfl ?_
        refine s_iloadN 87 C X at_86 rfl ?_
        refine s_sipush 90 C X at_87 kc_sipush_255 ?_
        refine s_iand 91 C X at_90 ?_
        refine s_istore 93 C X (l' := #[.val (.int x0), .val (.int x1), .val (.int x2), .val (.int x3), .val (.int x4), .val (.int x5), .val (.int (1 : Int32)), .val (.int nn), .val (.ref o1), .val (.ref f1), .val (.int (0 : Int32)), .val (.int (x2 &&& (255 : Int32))), .unset, .unset, .unset]) at_91 rfl ?_
        refine s_iloadN 94 C X at_93 rfl ?_
        refine s_sipush 97 C X at_94 kc_sipush_255 ?_
        refine s_iand 98 C X at_97 ?_
        refine s_istore 100 C X (l' := #[.val (.int x0), .val (.int x1), .val (.int x2), .val (.int x3), .val (.int x4), .val (.int x5), .val (.int (1 : Int32)), .val (.int nn), .val (.ref o1), .val (.ref f1), .val (.int (0 : Int32)), .val (.int (x2 &&& (255 : Int32))), .val (.int (x3 &&& (255 : Int32))), .unset, .unset]) at_98 rfl ?_
        refine s_iload 102 C X at_100 rfl ?_
        refine s_sipush 105 C X at_102 kc_sipush_255 ?_
        refine s_iand 106 C X at_105 ?_
        refine s_istore 108 C X (l' := #[.val (.int x0), .val (.int x1), .val (.int x2), .val (.int x3), .val (.int x4), .val (.int x5), .val (.int (1 : Int32)), .val (.int nn), .val (.ref o1), .val (.ref f1), .val (.int (0 : Int32)), .val (.int (x2 &&& (255 : Int32))), .val (.int (x3 &&& (255 : Int32))), .val (.int (x4 &&& (255 : Int32))), .unset]) at_106 rfl ?_
        refine s_iconst 109 C X at_108 kc_iconst_0 ?_
        refine s_istore 111 C X (l' := #[.val (.int x0), .val (.int x1), .val (.int x2), .val (.int x3), .val (.int x4), .val (.int x5), .val (.int (1 : Int32)), .val (.int nn), .val (.ref o1), .val (.ref f1), .val (.int (0 : Int32)), .val (.int (x2 &&& (255 : Int32))), .val (.int (x3 &&& (255 : Int32))), .val (.int (x4 &&& (255 : Int32))), .val (.int (0 : Int32))]) at_109 rfl ?_
        refine s_iload 113 C X at_111 rfl ?_
        refine s_if_ne 152 116 C X at_113 (fun _ => ?_) (fun c => absurd c (by decide))
        refine s_iload 154 C X at_152 rfl ?_
        refine s_iconst 155 C X at_154 kc_iconst_1 ?_
        refine s_icmp_ne 186 158 C X at_155 (fun c => absurd (by decide : (1 : Int32) = (1 : Int32)) c) (fun _ => ?_)
        refine s_iload 160 C X at_158 rfl ?_
        refine s_iconst 161 C X at_160 kc_iconst_2 ?_
        refine s_icmp_lt 217 164 C X at_161 (fun c161 => ?_) (fun c161 => ?_)
        · have t_c161 : (nn).toInt < (2 : Int) := Int32.lt_iff_toInt_lt.mp c161
          refine s_iload 219 C X at_217 rfl ?_
          refine s_iload 221 C X at_219 rfl ?_
          refine s_icmp_ne 228 224 C X at_221 (fun c => absurd (by decide : (0 : Int32) = (0 : Int32)) c) (fun _ => ?_)
          refine s_iconst 225 C X at_224 kc_iconst_1 ?_
          refine s_goto 229 C X at_225 ?_
          refine s_nreturn C X at_229 rfl (by simp) rfl ?_
          rfl
        have t_c161 : ¬ ((nn).toInt < (2 : Int)) := fun q => c161 (Int32.lt_iff_toInt_lt.mpr q)
        refine s_iload 166 C X at_164 rfl ?_
        refine s_sipush 169 C X at_166 kc_sipush_254 ?_
        refine s_icmp_ne 217 172 C X at_169 (fun c169 => ?_) (fun c169 => ?_)
        · have t_c169 : ¬ (((x2 &&& (255 : Int32))).toInt = (254 : Int)) := fun q => c169 (Int32.toInt_inj.mp q)
          refine s_iload 219 C X at_217 rfl ?_
          refine s_iload 221 C X at_219 rfl ?_
          refine s_icmp_ne 228 224 C X at_221 (fun c => absurd (by decide : (0 : Int32) = (0 : Int32)) c) (fun _ => ?_)
          refine s_iconst 225 C X at_224 kc_iconst_1 ?_
          refine s_goto 229 C X at_225 ?_
          refine s_nreturn C X at_229 rfl (by simp) rfl ?_
          rfl
        have t_c169 : ((x2 &&& (255 : Int32))).toInt = (254 : Int) := congrArg Int32.toInt c169
        refine s_iload 174 C X at_172 rfl ?_
        refine s_sipush 177 C X at_174 kc_sipush_255 ?_
        refine s_icmp_ne 217 180 C X at_177 (fun c177 => ?_) (fun c177 => ?_)
        · have t_c177 : ¬ (((x3 &&& (255 : Int32))).toInt = (255 : Int)) := fun q => c177 (Int32.toInt_inj.mp q)
          refine s_iload 219 C X at_217 rfl ?_
          refine s_iload 221 C X at_219 rfl ?_
          refine s_icmp_ne 228 224 C X at_221 (fun c => absurd (by decide : (0 : Int32) = (0 : Int32)) c) (fun _ => ?_)
          refine s_iconst 225 C X at_224 kc_iconst_1 ?_
          refine s_goto 229 C X at_225 ?_
          refine s_nreturn C X at_229 rfl (by simp) rfl ?_
          rfl
        have t_c177 : ((x3 &&& (255 : Int32))).toInt = (255 : Int) := congrArg Int32.toInt c177
        refine s_iconst 181 C X at_180 kc_iconst_2 ?_
        refine s_istore 183 C X (l' := #[.val (.int x0), .val (.int x1), .val (.int x2), .val (.int x3), .val (.int x4), .val (.int x5), .val (.int (1 : Int32)), .val (.int nn), .val (.ref o1), .val (.ref f1), .val (.int (0 : Int32)), .val (.int (x2 &&& (255 : Int32))), .val (.int (x3 &&& (255 : Int32))), .val (.int (x4 &&& (255 : Int32))), .val (.int (2 : Int32))]) at_181 rfl ?_
        refine s_goto 217 C X at_183 ?_
        refine s_iload 219 C X at_217 rfl ?_
        refine s_iload 221 C X at_219 rfl ?_
        refine s_icmp_ne 228 224 C X at_221 (fun _ => ?_) (fun c => absurd c (by decide))
        refine s_iconst 229 C X at_228 kc_iconst_0 ?_
        refine s_nreturn C X at_229 rfl (by simp) rfl ?_
        exfalso
        simp only [nth4, (by decide : (-2 : Int32).toInt = -2), (by decide : (-1 : Int32).toInt = -1)] at hz
        omega
    · refine s_iload 72 C X at_70 rfl ?_
      refine s_callS 75 [(.int (2 : Int32))] [] 0 C X at_72 (List.mem_of_getElem? (i := 2) rfl) (List.mem_of_getElem? (i := 3) rfl) (List.mem_of_getElem? (i := 4) rfl) (List.mem_of_getElem? (i := 5) rfl) (rm_pick2 l Z a0 hw f2 _ n0 X.sz Od S2) (lenOf pd__I_Lcom_example_shapelint_shapelint_io_XmlEncodingFamily_ rfl) rfl rfl rfl (fun T v h5 X q => ?_)
      obtain ⟨rfl, hE⟩ := q
      rw [hE] at X
      have E_f2 := E2.ext Od.2
      have F_f2 := F2.ext Od.2
      have A_b2 := A2.ext Od.2
      refine Run.cast (st' := [(.ref f2)]) rfl ?_
      refine s_astore 77 C X (l' := #[.val (.int x0), .val (.int x1), .val (.int x2), .val (.int x3), .val (.int x4), .val (.int x5), .val (.int (2 : Int32)), .val (.int nn), .val (.ref o1), .val (.ref f2), .unset, .unset, .unset, .unset, .unset]) at_75 rfl rfl ?_
      refine s_aload 79 C X at_77 rfl rfl ?_
      refine s_aload 81 C X at_79 rfl rfl ?_
      refine s_callV 84 [(.ref o1)] [] 0 C X at_81 (List.mem_of_getElem? (i := 9) rfl) (List.mem_of_getElem? (i := 10) rfl) (notFace_of_selects (args := #[]) (mvT C.2.1 (C.w (List.mem_of_getElem? (i := 12) rfl)))) (List.mem_of_getElem? (i := 12) rfl) (List.mem_of_getElem? (i := 11) rfl) (List.mem_of_getElem? (i := 7) rfl) (List.mem_of_getElem? (i := 13) rfl) E_f2 (rm_bom l Z a0 hw f2 o1 b2 nn 2 k_o1 k2 vs v2 (.int 0) (.int 0) (nth4 (bb x2) (bb x3) (bb x4) (bb x5)) (nth4 (-1) (-2) (0) (0)) _ n0 X.sz F_f2 A_o1 A_b2 (by decide) ha H2) (lenOf pd___B_I rfl) rfl rfl rfl (fun T v h6 X q => ?_)
      obtain ⟨⟨rfl, hz⟩ | ⟨rfl, hz⟩, hE⟩ := q
      · rw [hE] at X
        replace hz := own_sw2.mp hz
        refine Run.cast (st' := [(.int (2 : Int32))]) rfl ?_
        refine s_istore 86 C X (l' := #[.val (.int x0), .val (.int x1), .val (.int x2), .val (.int x3), .val (.int x4), .val (.int x5), .val (.int (2 : Int32)), .val (.int nn), .val (.ref o1), .val (.ref f2), .val (.int (2 : Int32)), .unset, .unset, .unset, .unset]) at_84 rfl ?_
        refine s_iloadN 87 C X at_86 rfl ?_
        refine s_sipush 90 C X at_87 kc_sipush_255 ?_
        refine s_iand 91 C X at_90 ?_
        refine s_istore 93 C X (l' := #[.val (.int x0), .val (.int x1), .val (.int x2), .val (.int x3), .val (.int x4), .val (.int x5), .val (.int (2 : Int32)), .val (.int nn), .val (.ref o1), .val (.ref f2), .val (.int (2 : Int32)), .val (.int (x2 &&& (255 : Int32))), .unset, .unset, .unset]) at_91 rfl ?_
        refine s_iloadN 94 C X at_93 rfl ?_
        refine s_sipush 97 C X at_94 kc_sipush_255 ?_
        refine s_iand 98 C X at_97 ?_
        refine s_istore 100 C X (l' := #[.val (.int x0), .val (.int x1), .val (.int x2), .val (.int x3), .val (.int x4), .val (.int x5), .val (.int (2 : Int32)), .val (.int nn), .val (.ref o1), .val (.ref f2), .val (.int (2 : Int32)), .val (.int (x2 &&& (255 : Int32))), .val (.int (x3 &&& (255 : Int32))), .unset, .unset]) at_98 rfl ?_
        refine s_iload 102 C X at_100 rfl ?_
        refine s_sipush 105 C X at_102 kc_sipush_255 ?_
        refine s_iand 106 C X at_105 ?_
        refine s_istore 108 C X (l' := #[.val (.int x0), .val (.int x1), .val (.int x2), .val (.int x3), .val (.int x4), .val (.int x5), .val (.int (2 : Int32)), .val (.int nn), .val (.ref o1), .val (.ref f2), .val (.int (2 : Int32)), .val (.int (x2 &&& (255 : Int32))), .val (.int (x3 &&& (255 : Int32))), .val (.int (x4 &&& (255 : Int32))), .unset]) at_106 rfl ?_
        refine s_iconst 109 C X at_108 kc_iconst_0 ?_
        refine s_istore 111 C X (l' := #[.val (.int x0), .val (.int x1), .val (.int x2), .val (.int x3), .val (.int x4), .val (.int x5), .val (.int (2 : Int32)), .val (.int nn), .val (.ref o1), .val (.ref f2), .val (.int (2 : Int32)), .val (.int (x2 &&& (255 : Int32))), .val (.int (x3 &&& (255 : Int32))), .val (.int (x4 &&& (255 : Int32))), .val (.int (0 : Int32))]) at_109 rfl ?_
        refine s_iload 113 C X at_111 rfl ?_
        refine s_if_ne 152 116 C X at_113 (fun _ => ?_) (fun c => absurd c (by decide))
        refine s_iload 154 C X at_152 rfl ?_
        refine s_iconst 155 C X at_154 kc_iconst_1 ?_
        refine s_icmp_ne 186 158 C X at_155 (fun _ => ?_) (fun c => absurd c (by decide))
        refine s_iload 188 C X at_186 rfl ?_
        refine s_iconst 189 C X at_188 kc_iconst_2 ?_
        refine s_icmp_ne 217 192 C X at_189 (fun c => absurd (by decide : (2 : Int32) = (2 : Int32)) c) (fun _ => ?_)
        refine s_iload 194 C X at_192 rfl ?_
        refine s_iconst 195 C X at_194 kc_iconst_2 ?_
        refine s_icmp_lt 217 198 C X at_195 (fun c195 => ?_) (fun c195 => ?_)
        · have t_c195 : (nn).toInt < (2 : Int) := Int32.lt_iff_toInt_lt.mp c195
          refine s_iload 219 C X at_217 rfl ?_
          refine s_iload 221 C X at_219 rfl ?_
          refine s_icmp_ne 228 224 C X at_221 (fun _ => ?_) (fun c => absurd c (by decide))
          refine s_iconst 229 C X at_228 kc_iconst_0 ?_
          refine s_nreturn C X at_229 rfl (by simp) rfl ?_
          exfalso
          simp only [nth4, (by decide : (-2 : Int32).toInt = -2), (by decide : (-1 : Int32).toInt = -1)] at hz
          omega
        have t_c195 : ¬ ((nn).toInt < (2 : Int)) := fun q => c195 (Int32.lt_iff_toInt_lt.mpr q)
        refine s_iload 200 C X at_198 rfl ?_
        refine s_sipush 203 C X at_200 kc_sipush_255 ?_
        refine s_icmp_ne 217 206 C X at_203 (fun c203 => ?_) (fun c203 => ?_)
        · have t_c203 : ¬ (((x2 &&& (255 : Int32))).toInt = (255 : Int)) := fun q => c203 (Int32.toInt_inj.mp q)
          refine s_iload 219 C X at_217 rfl ?_
          refine s_iload 221 C X at_219 rfl ?_
          refine s_icmp_ne 228 224 C X at_221 (fun _ => ?_) (fun c => absurd c (by decide))
          refine s_iconst 229 C X at_228 kc_iconst_0 ?_
          refine s_nreturn C X at_229 rfl (by simp) rfl ?_
          exfalso
          simp only [nth4, (by decide : (-2 : Int32).toInt = -2), (by decide : (-1 : Int32).toInt = -1)] at hz
          omega
        have t_c203 : ((x2 &&& (255 : Int32))).toInt = (255 : Int) := congrArg Int32.toInt c203
        refine s_iload 208 C X at_206 rfl ?_
        refine s_sipush 211 C X at_208 kc_sipush_254 ?_
        refine s_icmp_ne 217 214 C X at_211 (fun c211 => ?_) (fun c211 => ?_)
        · have t_c211 : ¬ (((x3 &&& (255 : Int32))).toInt = (254 : Int)) := fun q => c211 (Int32.toInt_inj.mp q)
          refine s_iload 219 C X at_217 rfl ?_
          refine s_iload 221 C X at_219 rfl ?_
          refine s_icmp_ne 228 224 C X at_221 (fun _ => ?_) (fun c => absurd c (by decide))
          refine s_iconst 229 C X at_228 kc_iconst_0 ?_
          refine s_nreturn C X at_229 rfl (by simp) rfl ?_
          exfalso
          simp only [nth4, (by decide : (-2 : Int32).toInt = -2), (by decide : (-1 : Int32).toInt = -1)] at hz
          omega
        have t_c211 : ((x3 &&& (255 : Int32))).toInt = (254 : Int) := congrArg Int32.toInt c211
        refine s_iconst 215 C X at_214 kc_iconst_2 ?_
        refine s_istore 217 C X (l' := #[.val (.int x0), .val (.int x1), .val (.int x2), .val (.int x3), .val (.int x4), .val (.int x5), .val (.int (2 : Int32)), .val (.int nn), .val (.ref o1), .val (.ref f2), .val (.int (2 : Int32)), .val (.int (x2 &&& (255 : Int32))), .val (.int (x3 &&& (255 : Int32))), .val (.int (x4 &&& (255 : Int32))), .val (.int (2 : Int32))]) at_215 rfl ?_
        refine s_iload 219 C X at_217 rfl ?_
        refine s_iload 221 C X at_219 rfl ?_
        refine s_icmp_ne 228 224 C X at_221 (fun c => absurd (by decide : (2 : Int32) = (2 : Int32)) c) (fun _ => ?_)
        refine s_iconst 225 C X at_224 kc_iconst_1 ?_
        refine s_goto 229 C X at_225 ?_
        refine s_nreturn C X at_229 rfl (by simp) rfl ?_
        rfl
      · rw [hE] at X
        replace hz := mt own_sw2.mpr hz
        refine Run.cast (st' := [(.int (0 : Int32))]) rfl ?_
        refine s_istore 86 C X (l' := #[.val (.int x0), .val (.int x1), .val (.int x2), .val (.int x3), .val (.int x4), .val (.int x5), .val (.int (2 : Int32)), .val (.int nn), .val (.ref o1), .val (.ref f2), .val (.int (0 : Int32)), .unset, .unset, .unset, .unset]) at_84 rfl ?_
        refine s_iloadN 87 C X at_86 rfl ?_
        refine s_sipush 90 C X at_87 kc_sipush_255 ?_
        refine s_iand 91 C X at_90 ?_
        refine s_istore 93 C X (l' := #[.val (.int x0), .val (.int x1), .val (.int x2), .val (.int x3), .val (.int x4), .val (.int x5), .val (.int (2 : Int32)), .val (.int nn), .val (.ref o1), .val (.ref f2), .val (.int (0 : Int32)), .val (.int (x2 &&& (255 : Int32))), .unset, .unset, .unset]) at_91 rfl ?_
        refine s_iloadN 94 C X at_93 rfl ?_
        refine s_sipush 97 C X at_94 kc_sipush_255 ?_
        refine s_iand 98 C X at_97 ?_
        refine s_istore 100 C X (l' := #[.val (.int x0), .val (.int x1), .val (.int x2), .val (.int x3), .val (.int x4), .val (.int x5), .val (.int (2 : Int32)), .val (.int nn), .val (.ref o1), .val (.ref f2), .val (.int (0 : Int32)), .val (.int (x2 &&& (255 : Int32))), .val (.int (x3 &&& (255 : Int32))), .unset, .unset]) at_98 rfl ?_
        refine s_iload 102 C X at_100 rfl ?_
        refine s_sipush 105 C X at_102 kc_sipush_255 ?_
        refine s_iand 106 C X at_105 ?_
        refine s_istore 108 C X (l' := #[.val (.int x0), .val (.int x1), .val (.int x2), .val (.int x3), .val (.int x4), .val (.int x5), .val (.int (2 : Int32)), .val (.int nn), .val (.ref o1), .val (.ref f2), .val (.int (0 : Int32)), .val (.int (x2 &&& (255 : Int32))), .val (.int (x3 &&& (255 : Int32))), .val (.int (x4 &&& (255 : Int32))), .unset]) at_106 rfl ?_
        refine s_iconst 109 C X at_108 kc_iconst_0 ?_
        refine s_istore 111 C X (l' := #[.val (.int x0), .val (.int x1), .val (.int x2), .val (.int x3), .val (.int x4), .val (.int x5), .val (.int (2 : Int32)), .val (.int nn), .val (.ref o1), .val (.ref f2), .val (.int (0 : Int32)), .val (.int (x2 &&& (255 : Int32))), .val (.int (x3 &&& (255 : Int32))), .val (.int (x4 &&& (255 : Int32))), .val (.int (0 : Int32))]) at_109 rfl ?_
        refine s_iload 113 C X at_111 rfl ?_
        refine s_if_ne 152 116 C X at_113 (fun _ => ?_) (fun c => absurd c (by decide))
        refine s_iload 154 C X at_152 rfl ?_
        refine s_iconst 155 C X at_154 kc_iconst_1 ?_
        refine s_icmp_ne 186 158 C X at_155 (fun _ => ?_) (fun c => absurd c (by decide))
        refine s_iload 188 C X at_186 rfl ?_
        refine s_iconst 189 C X at_188 kc_iconst_2 ?_
        refine s_icmp_ne 217 192 C X at_189 (fun c => absurd (by decide : (2 : Int32) = (2 : Int32)) c) (fun _ => ?_)
        refine s_iload 194 C X at_192 rfl ?_
        refine s_iconst 195 C X at_194 kc_iconst_2 ?_
        refine s_icmp_lt 217 198 C X at_195 (fun c195 => ?_) (fun c195 => ?_)
        · have t_c195 : (nn).toInt < (2 : Int) := Int32.lt_iff_toInt_lt.mp c195
          refine s_iload 219 C X at_217 rfl ?_
          refine s_iload 221 C X at_219 rfl ?_
          refine s_icmp_ne 228 224 C X at_221 (fun c => absurd (by decide : (0 : Int32) = (0 : Int32)) c) (fun _ => ?_)
          refine s_iconst 225 C X at_224 kc_iconst_1 ?_
          refine s_goto 229 C X at_225 ?_
          refine s_nreturn C X at_229 rfl (by simp) rfl ?_
          rfl
        have t_c195 : ¬ ((nn).toInt < (2 : Int)) := fun q => c195 (Int32.lt_iff_toInt_lt.mpr q)
        refine s_iload 200 C X at_198 rfl ?_
        refine s_sipush 203 C X at_200 kc_sipush_255 ?_
        refine s_icmp_ne 217 206 C X at_203 (fun c203 => ?_) (fun c203 => ?_)
        · have t_c203 : ¬ (((x2 &&& (255 : Int32))).toInt = (255 : Int)) := fun q => c203 (Int32.toInt_inj.mp q)
          refine s_iload 219 C X at_217 rfl ?_
          refine s_iload 221 C X at_219 rfl ?_
          refine s_icmp_ne 228 224 C X at_221 (fun c => absurd (by decide : (0 : Int32) = (0 : Int32)) c) (fun _ => ?_)
          refine s_iconst 225 C X at_224 kc_iconst_1 ?_
          refine s_goto 229 C X at_225 ?_
          refine s_nreturn C X at_229 rfl (by simp) rfl ?_
          rfl
        have t_c203 : ((x2 &&& (255 : Int32))).toInt = (255 : Int) := congrArg Int32.toInt c203
        refine s_iload 208 C X at_206 rfl ?_
        refine s_sipush 211 C X at_208 kc_sipush_254 ?_
        refine s_icmp_ne 217 214 C X at_211 (fun c211 => ?_) (fun c211 => ?_)
        · have t_c211 : ¬ (((x3 &&& (255 : Int32))).toInt = (254 : Int)) := fun q => c211 (Int32.toInt_inj.mp q)
          refine s_iload 219 C X at_217 rfl ?_
          refine s_iload 221 C X at_219 rfl ?_
          refine s_icmp_ne 228 224 C X at_221 (fun c => absurd (by decide : (0 : Int32) = (0 : Int32)) c) (fun _ => ?_)
          refine s_iconst 225 C X at_224 kc_iconst_1 ?_
          refine s_goto 229 C X at_225 ?_
          refine s_nreturn C X at_229 rfl (by simp) rfl ?_
          rfl
        have t_c211 : ((x3 &&& (255 : Int32))).toInt = (254 : Int) := congrArg Int32.toInt c211
        refine s_iconst 215 C X at_214 kc_iconst_2 ?_
        refine s_istore 217 C X (l' := #[.val (.int x0), .val (.int x1), .val (.int x2), .val (.int x3), .val (.int x4), .val (.int x5), .val (.int (2 : Int32)), .val (.int nn), .val (.ref o1), .val (.ref f2), .val (.int (0 : Int32)), .val (.int (x2 &&& (255 : Int32))), .val (.int (x3 &&& (255 : Int32))), .val (.int (x4 &&& (255 : Int32))), .val (.int (2 : Int32))]) at_215 rfl ?_
        refine s_iload 219 C X at_217 rfl ?_
        refine s_iload 221 C X at_219 rfl ?_
        refine s_icmp_ne 228 224 C X at_221 (fun _ => ?_) (fun c => absurd c (by decide))
        refine s_iconst 229 C X at_228 kc_iconst_0 ?_
        refine s_nreturn C X at_229 rfl (by simp) rfl ?_
        exfalso
        simp only [nth4, (by decide : (-2 : Int32).toInt = -2), (by decide : (-1 : Int32).toInt = -1)] at hz
        omega
    · refine s_iload 72 C X at_70 rfl ?_
      refine s_callS 75 [(.int (3 : Int32))] [] 0 C X at_72 (List.mem_of_getElem? (i := 2) rfl) (List.mem_of_getElem? (i := 3) rfl) (List.mem_of_getElem? (i := 4) rfl) (List.mem_of_getElem? (i := 5) rfl) (rm_pick3 l Z a0 hw f3 _ n0 X.sz Od S3) (lenOf pd__I_Lcom_example_shapelint_shapelint_io_XmlEncodingFamily_ rfl) rfl rfl rfl (fun T v h7 X q => ?_)
      obtain ⟨rfl, hE⟩ := q
      rw [hE] at X
      have E_f3 := E3.ext Od.2
      have F_f3 := F3.ext Od.2
      have A_b3 := A3.ext Od.2
      refine Run.cast (st' := [(.ref f3)]) rfl ?_
      refine s_astore 77 C X (l' := #[.val (.int x0), .val (.int x1), .val (.int x2), .val (.int x3), .val (.int x4), .val (.int x5), .val (.int (3 : Int32)), .val (.int nn), .val (.ref o1), .val (.ref f3), .unset, .unset, .unset, .unset, .unset]) at_75 rfl rfl ?_
      refine s_aload 79 C X at_77 rfl rfl ?_
      refine s_aload 81 C X at_79 rfl rfl ?_
      refine s_callV 84 [(.ref o1)] [] 0 C X at_81 (List.mem_of_getElem? (i := 9) rfl) (List.mem_of_getElem? (i := 10) rfl) (notFace_of_selects (args := #[]) (mvT C.2.1 (C.w (List.mem_of_getElem? (i := 12) rfl)))) (List.mem_of_getElem? (i := 12) rfl) (List.mem_of_getElem? (i := 11) rfl) (List.mem_of_getElem? (i := 7) rfl) (List.mem_of_getElem? (i := 13) rfl) E_f3 (Met.imp (Q' := fun v h => v = some (.int 0) ∧ h = _) (rm_bom l Z a0 hw f3 o1 b3 nn 0 k_o1 k3 vs v3 (.int 0) (.int 0) (nth4 (bb x2) (bb x3) (bb x4) (bb x5)) (nth4 (0) (0) (0) (0)) _ n0 X.sz F_f3 A_o1 A_b3 (by decide) ha H3) (fun v h q => ⟨q.1.elim (fun z => absurd z.2 own_sw0) (fun z => z.1), q.2⟩)) (lenOf pd___B_I rfl) rfl rfl rfl (fun T v h8 X q => ?_)
      obtain ⟨rfl, hE⟩ := q
      rw [hE] at X
      refine Run.cast (st' := [(.int (0 : Int32))]) rfl ?_
      refine s_istore 86 C X (l' := #[.val (.int x0), .val (.int x1), .val (.int x2), .val (.int x3), .val (.int x4), .val (.int x5), .val (.int (3 : Int32)), .val (.int nn), .val (.ref o1), .val (.ref f3), .val (.int (0 : Int32)), .unset, .unset, .unset, .unset]) at_84 rfl ?_
      refine s_iloadN 87 C X at_86 rfl ?_
      refine s_sipush 90 C X at_87 kc_sipush_255 ?_
      refine s_iand 91 C X at_90 ?_
      refine s_istore 93 C X (l' := #[.val (.int x0), .val (.int x1), .val (.int x2), .val (.int x3), .val (.int x4), .val (.int x5), .val (.int (3 : Int32)), .val (.int nn), .val (.ref o1), .val (.ref f3), .val (.int (0 : Int32)), .val (.int (x2 &&& (255 : Int32))), .unset, .unset, .unset]) at_91 rfl ?_
      refine s_iloadN 94 C X at_93 rfl ?_
      refine s_sipush 97 C X at_94 kc_sipush_255 ?_
      refine s_iand 98 C X at_97 ?_
      refine s_istore 100 C X (l' := #[.val (.int x0), .val (.int x1), .val (.int x2), .val (.int x3), .val (.int x4), .val (.int x5), .val (.int (3 : Int32)), .val (.int nn), .val (.ref o1), .val (.ref f3), .val (.int (0 : Int32)), .val (.int (x2 &&& (255 : Int32))), .val (.int (x3 &&& (255 : Int32))), .unset, .unset]) at_98 rfl ?_
      refine s_iload 102 C X at_100 rfl ?_
      refine s_sipush 105 C X at_102 kc_sipush_255 ?_
      refine s_iand 106 C X at_105 ?_
      refine s_istore 108 C X (l' := #[.val (.int x0), .val (.int x1), .val (.int x2), .val (.int x3), .val (.int x4), .val (.int x5), .val (.int (3 : Int32)), .val (.int nn), .val (.ref o1), .val (.ref f3), .val (.int (0 : Int32)), .val (.int (x2 &&& (255 : Int32))), .val (.int (x3 &&& (255 : Int32))), .val (.int (x4 &&& (255 : Int32))), .unset]) at_106 rfl ?_
      refine s_iconst 109 C X at_108 kc_iconst_0 ?_
      refine s_istore 111 C X (l' := #[.val (.int x0), .val (.int x1), .val (.int x2), .val (.int x3), .val (.int x4), .val (.int x5), .val (.int (3 : Int32)), .val (.int nn), .val (.ref o1), .val (.ref f3), .val (.int (0 : Int32)), .val (.int (x2 &&& (255 : Int32))), .val (.int (x3 &&& (255 : Int32))), .val (.int (x4 &&& (255 : Int32))), .val (.int (0 : Int32))]) at_109 rfl ?_
      refine s_iload 113 C X at_111 rfl ?_
      refine s_if_ne 152 116 C X at_113 (fun _ => ?_) (fun c => absurd c (by decide))
      refine s_iload 154 C X at_152 rfl ?_
      refine s_iconst 155 C X at_154 kc_iconst_1 ?_
      refine s_icmp_ne 186 158 C X at_155 (fun _ => ?_) (fun c => absurd c (by decide))
      refine s_iload 188 C X at_186 rfl ?_
      refine s_iconst 189 C X at_188 kc_iconst_2 ?_
      refine s_icmp_ne 217 192 C X at_189 (fun _ => ?_) (fun c => absurd c (by decide))
      refine s_iload 219 C X at_217 rfl ?_
      refine s_iload 221 C X at_219 rfl ?_
      refine s_icmp_ne 228 224 C X at_221 (fun c => absurd (by decide : (0 : Int32) = (0 : Int32)) c) (fun _ => ?_)
      refine s_iconst 225 C X at_224 kc_iconst_1 ?_
      refine s_goto 229 C X at_225 ?_
      refine s_nreturn C X at_229 rfl (by simp) rfl ?_
      rfl
    · refine s_iload 72 C X at_70 rfl ?_
      refine s_callS 75 [(.int (4 : Int32))] [] 0 C X at_72 (List.mem_of_getElem? (i := 2) rfl) (List.mem_of_getElem? (i := 3) rfl) (List.mem_of_getElem? (i := 4) rfl) (List.mem_of_getElem? (i := 5) rfl) (rm_pick4 l Z a0 hw f4 _ n0 X.sz Od S4) (lenOf pd__I_Lcom_example_shapelint_shapelint_io_XmlEncodingFamily_ rfl) rfl rfl rfl (fun T v h9 X q => ?_)
      obtain ⟨rfl, hE⟩ := q
      rw [hE] at X
      have E_f4 := E4.ext Od.2
      have F_f4 := F4.ext Od.2
      have A_b4 := A4.ext Od.2
      refine Run.cast (st' := [(.ref f4)]) rfl ?_
      refine s_astore 77 C X (l' := #[.val (.int x0), .val (.int x1), .val (.int x2), .val (.int x3), .val (.int x4), .val (.int x5), .val (.int (4 : Int32)), .val (.int nn), .val (.ref o1), .val (.ref f4), .unset, .unset, .unset, .unset, .unset]) at_75 rfl rfl ?_
      refine s_aload 79 C X at_77 rfl rfl ?_
      refine s_aload 81 C X at_79 rfl rfl ?_
      refine s_callV 84 [(.ref o1)] [] 0 C X at_81 (List.mem_of_getElem? (i := 9) rfl) (List.mem_of_getElem? (i := 10) rfl) (notFace_of_selects (args := #[]) (mvT C.2.1 (C.w (List.mem_of_getElem? (i := 12) rfl)))) (List.mem_of_getElem? (i := 12) rfl) (List.mem_of_getElem? (i := 11) rfl) (List.mem_of_getElem? (i := 7) rfl) (List.mem_of_getElem? (i := 13) rfl) E_f4 (Met.imp (Q' := fun v h => v = some (.int 0) ∧ h = _) (rm_bom l Z a0 hw f4 o1 b4 nn 0 k_o1 k4 vs v4 (.int 0) (.int 0) (nth4 (bb x2) (bb x3) (bb x4) (bb x5)) (nth4 (0) (0) (0) (0)) _ n0 X.sz F_f4 A_o1 A_b4 (by decide) ha H4) (fun v h q => ⟨q.1.elim (fun z => absurd z.2 own_sw0) (fun z => z.1), q.2⟩)) (lenOf pd___B_I rfl) rfl rfl rfl (fun T v h10 X q => ?_)
      obtain ⟨rfl, hE⟩ := q
      rw [hE] at X
      refine Run.cast (st' := [(.int (0 : Int32))]) rfl ?_
      refine s_istore 86 C X (l' := #[.val (.int x0), .val (.int x1), .val (.int x2), .val (.int x3), .val (.int x4), .val (.int x5), .val (.int (4 : Int32)), .val (.int nn), .val (.ref o1), .val (.ref f4), .val (.int (0 : Int32)), .unset, .unset, .unset, .unset]) at_84 rfl ?_
      refine s_iloadN 87 C X at_86 rfl ?_
      refine s_sipush 90 C X at_87 kc_sipush_255 ?_
      refine s_iand 91 C X at_90 ?_
      refine s_istore 93 C X (l' := #[.val (.int x0), .val (.int x1), .val (.int x2), .val (.int x3), .val (.int x4), .val (.int x5), .val (.int (4 : Int32)), .val (.int nn), .val (.ref o1), .val (.ref f4), .val (.int (0 : Int32)), .val (.int (x2 &&& (255 : Int32))), .unset, .unset, .unset]) at_91 rfl ?_
      refine s_iloadN 94 C X at_93 rfl ?_
      refine s_sipush 97 C X at_94 kc_sipush_255 ?_
      refine s_iand 98 C X at_97 ?_
      refine s_istore 100 C X (l' := #[.val (.int x0), .val (.int x1), .val (.int x2), .val (.int x3), .val (.int x4), .val (.int x5), .val (.int (4 : Int32)), .val (.int nn), .val (.ref o1), .val (.ref f4), .val (.int (0 : Int32)), .val (.int (x2 &&& (255 : Int32))), .val (.int (x3 &&& (255 : Int32))), .unset, .unset]) at_98 rfl ?_
      refine s_iload 102 C X at_100 rfl ?_
      refine s_sipush 105 C X at_102 kc_sipush_255 ?_
      refine s_iand 106 C X at_105 ?_
      refine s_istore 108 C X (l' := #[.val (.int x0), .val (.int x1), .val (.int x2), .val (.int x3), .val (.int x4), .val (.int x5), .val (.int (4 : Int32)), .val (.int nn), .val (.ref o1), .val (.ref f4), .val (.int (0 : Int32)), .val (.int (x2 &&& (255 : Int32))), .val (.int (x3 &&& (255 : Int32))), .val (.int (x4 &&& (255 : Int32))), .unset]) at_106 rfl ?_
      refine s_iconst 109 C X at_108 kc_iconst_0 ?_
      refine s_istore 111 C X (l' := #[.val (.int x0), .val (.int x1), .val (.int x2), .val (.int x3), .val (.int x4), .val (.int x5), .val (.int (4 : Int32)), .val (.int nn), .val (.ref o1), .val (.ref f4), .val (.int (0 : Int32)), .val (.int (x2 &&& (255 : Int32))), .val (.int (x3 &&& (255 : Int32))), .val (.int (x4 &&& (255 : Int32))), .val (.int (0 : Int32))]) at_109 rfl ?_
      refine s_iload 113 C X at_111 rfl ?_
      refine s_if_ne 152 116 C X at_113 (fun _ => ?_) (fun c => absurd c (by decide))
      refine s_iload 154 C X at_152 rfl ?_
      refine s_iconst 155 C X at_154 kc_iconst_1 ?_
      refine s_icmp_ne 186 158 C X at_155 (fun _ => ?_) (fun c => absurd c (by decide))
      refine s_iload 188 C X at_186 rfl ?_
      refine s_iconst 189 C X at_188 kc_iconst_2 ?_
      refine s_icmp_ne 217 192 C X at_189 (fun _ => ?_) (fun c => absurd c (by decide))
      refine s_iload 219 C X at_217 rfl ?_
      refine s_iload 221 C X at_219 rfl ?_
      refine s_icmp_ne 228 224 C X at_221 (fun c => absurd (by decide : (0 : Int32) = (0 : Int32)) c) (fun _ => ?_)
      refine s_iconst 225 C X at_224 kc_iconst_1 ?_
      refine s_goto 229 C X at_225 ?_
      refine s_nreturn C X at_229 rfl (by simp) rfl ?_
      rfl
    · refine s_iload 72 C X at_70 rfl ?_
      refine s_callS 75 [(.int (5 : Int32))] [] 0 C X at_72 (List.mem_of_getElem? (i := 2) rfl) (List.mem_of_getElem? (i := 3) rfl) (List.mem_of_getElem? (i := 4) rfl) (List.mem_of_getElem? (i := 5) rfl) (rm_pick5 l Z a0 hw f5 _ n0 X.sz Od S5) (lenOf pd__I_Lcom_example_shapelint_shapelint_io_XmlEncodingFamily_ rfl) rfl rfl rfl (fun T v h11 X q => ?_)
      obtain ⟨rfl, hE⟩ := q
      rw [hE] at X
      have E_f5 := E5.ext Od.2
      have F_f5 := F5.ext Od.2
      have A_b5 := A5.ext Od.2
      refine Run.cast (st' := [(.ref f5)]) rfl ?_
      refine s_astore 77 C X (l' := #[.val (.int x0), .val (.int x1), .val (.int x2), .val (.int x3), .val (.int x4), .val (.int x5), .val (.int (5 : Int32)), .val (.int nn), .val (.ref o1), .val (.ref f5), .unset, .unset, .unset, .unset, .unset]) at_75 rfl rfl ?_
      refine s_aload 79 C X at_77 rfl rfl ?_
      refine s_aload 81 C X at_79 rfl rfl ?_
      refine s_callV 84 [(.ref o1)] [] 0 C X at_81 (List.mem_of_getElem? (i := 9) rfl) (List.mem_of_getElem? (i := 10) rfl) (notFace_of_selects (args := #[]) (mvT C.2.1 (C.w (List.mem_of_getElem? (i := 40) rfl)))) (List.mem_of_getElem? (i := 40) rfl) (List.mem_of_getElem? (i := 11) rfl) (List.mem_of_getElem? (i := 7) rfl) (List.mem_of_getElem? (i := 13) rfl) E_f5 (Met.imp (Q' := fun v h => v = some (.int 0) ∧ h = _) (rm_bom l Z a0 hw f5 o1 b5 nn 0 k_o1 k5 vs v5 (.int 0) (.int 0) (nth4 (bb x2) (bb x3) (bb x4) (bb x5)) (nth4 (0) (0) (0) (0)) _ n0 X.sz F_f5 A_o1 A_b5 (by decide) ha H5) (fun v h q => ⟨q.1.elim (fun z => absurd z.2 own_sw0) (fun z => z.1), q.2⟩)) (lenOf pd___B_I rfl) rfl rfl rfl (fun T v h12 X q => ?_)
      obtain ⟨rfl, hE⟩ := q
      rw [hE] at X
      refine Run.cast (st' := [(.int (0 : Int32))]) rfl ?_
      refine s_istore 86 C X (l' := #[.val (.int x0), .val (.int x1), .val (.int x2), .val (.int x3), .val (.int x4), .val (.int x5), .val (.int (5 : Int32)), .val (.int nn), .val (.ref o1), .val (.ref f5), .val (.int (0 : Int32)), .unset, .unset, .unset, .unset]) at_84 rfl ?_
      refine s_iloadN 87 C X at_86 rfl ?_
      refine s_sipush 90 C X at_87 kc_sipush_255 ?_
      refine s_iand 91 C X at_90 ?_
      refine s_istore 93 C X (l' := #[.val (.int x0), .val (.int x1), .val (.int x2), .val (.int x3), .val (.int x4), .val (.int x5), .val (.int (5 : Int32)), .val (.int nn), .val (.ref o1), .val (.ref f5), .val (.int (0 : Int32)), .val (.int (x2 &&& (255 : Int32))), .unset, .unset, .unset]) at_91 rfl ?_
      refine s_iloadN 94 C X at_93 rfl ?_
      refine s_sipush 97 C X at_94 kc_sipush_255 ?_
      refine s_iand 98 C X at_97 ?_
      refine s_istore 100 C X (l' := #[.val (.int x0), .val (.int x1), .val (.int x2), .val (.int x3), .val (.int x4), .val (.int x5), .val (.int (5 : Int32)), .val (.int nn), .val (.ref o1), .val (.ref f5), .val (.int (0 : Int32)), .val (.int (x2 &&& (255 : Int32))), .val (.int (x3 &&& (255 : Int32))), .unset, .unset]) at_98 rfl ?_
      refine s_iload 102 C X at_100 rfl ?_
      refine s_sipush 105 C X at_102 kc_sipush_255 ?_
      refine s_iand 106 C X at_105 ?_
      refine s_istore 108 C X (l' := #[.val (.int x0), .val (.int x1), .val (.int x2), .val (.int x3), .val (.int x4), .val (.int x5), .val (.int (5 : Int32)), .val (.int nn), .val (.ref o1), .val (.ref f5), .val (.int (0 : Int32)), .val (.int (x2 &&& (255 : Int32))), .val (.int (x3 &&& (255 : Int32))), .val (.int (x4 &&& (255 : Int32))), .unset]) at_106 rfl ?_
      refine s_iconst 109 C X at_108 kc_iconst_0 ?_
      refine s_istore 111 C X (l' := #[.val (.int x0), .val (.int x1), .val (.int x2), .val (.int x3), .val (.int x4), .val (.int x5), .val (.int (5 : Int32)), .val (.int nn), .val (.ref o1), .val (.ref f5), .val (.int (0 : Int32)), .val (.int (x2 &&& (255 : Int32))), .val (.int (x3 &&& (255 : Int32))), .val (.int (x4 &&& (255 : Int32))), .val (.int (0 : Int32))]) at_109 rfl ?_
      refine s_iload 113 C X at_111 rfl ?_
      refine s_if_ne 152 116 C X at_113 (fun _ => ?_) (fun c => absurd c (by decide))
      refine s_iload 154 C X at_152 rfl ?_
      refine s_iconst 155 C X at_154 kc_iconst_1 ?_
      refine s_icmp_ne 186 158 C X at_155 (fun _ => ?_) (fun c => absurd c (by decide))
      refine s_iload 188 C X at_186 rfl ?_
      refine s_iconst 189 C X at_188 kc_iconst_2 ?_
      refine s_icmp_ne 217 192 C X at_189 (fun _ => ?_) (fun c => absurd c (by decide))
      refine s_iload 219 C X at_217 rfl ?_
      refine s_iload 221 C X at_219 rfl ?_
      refine s_icmp_ne 228 224 C X at_221 (fun c => absurd (by decide : (0 : Int32) = (0 : Int32)) c) (fun _ => ?_)
      refine s_iconst 225 C X at_224 kc_iconst_1 ?_
      refine s_goto 229 C X at_225 ?_
      refine s_nreturn C X at_229 rfl (by simp) rfl ?_
      rfl
  refine s_iload 23 C X at_21 rfl ?_
  refine s_if_le 32 26 C X at_23 (fun c23 => ?_) (fun c23 => ?_)
  · have t_c23 : ¬ ((0 : Int) < (nn).toInt) := fun q => c23 (Int32.lt_iff_toInt_lt.mpr q)
    refine s_iload 34 C X at_32 rfl ?_
    refine s_iconst 35 C X at_34 kc_iconst_1 ?_
    refine s_icmp_le 44 38 C X at_35 (fun c35 => ?_) (fun c => absurd (Int32.lt_iff_toInt_lt.mp c) (by show ¬ (1 : Int) < nn.toInt; omega))
    have t_c35 : ¬ ((1 : Int) < (nn).toInt) := fun q => c35 (Int32.lt_iff_toInt_lt.mpr q)
    refine s_iload 46 C X at_44 rfl ?_
    refine s_iconst 47 C X at_46 kc_iconst_2 ?_
    refine s_icmp_le 57 50 C X at_47 (fun c47 => ?_) (fun c => absurd (Int32.lt_iff_toInt_lt.mp c) (by show ¬ (2 : Int) < nn.toInt; omega))
    have t_c47 : ¬ ((2 : Int) < (nn).toInt) := fun q => c47 (Int32.lt_iff_toInt_lt.mpr q)
    refine s_iload 59 C X at_57 rfl ?_
    refine s_iconst 60 C X at_59 kc_iconst_3 ?_
    refine s_icmp_le 70 63 C X at_60 (fun c60 => ?_) (fun c => absurd (Int32.lt_iff_toInt_lt.mp c) (by show ¬ (3 : Int) < nn.toInt; omega))
    have t_c60 : ¬ ((3 : Int) < (nn).toInt) := fun q => c60 (Int32.lt_iff_toInt_lt.mpr q)
    refine J T _ _ Od A_o1 (fun i hi => ?_) X
    rcases i with _ | _ | _ | _ | i <;> first | rfl | (exfalso; omega) | simp [nth4]
  have t_c23 : (0 : Int) < (nn).toInt := Int32.lt_iff_toInt_lt.mp c23
  refine s_aload 28 C X at_26 rfl rfl ?_
  refine s_iconst 29 C X at_28 kc_iconst_0 ?_
  refine s_iloadN 30 C X at_29 rfl ?_
  refine s_i2b 31 C X at_30 ?_
  refine s_bastore 32 0 C X at_31 A_o1 g_o1 ⟨by decide, c23⟩ rfl (Nat.le_of_ble_eq_true rfl) (fun T _ X W A_o1 => ?_)
  have A_o1 : Arv Z _ o1 k_o1 .byte nn [(.int (nar .byte (x2).toInt8.toInt32)), (.int (0 : Int32)), (.int (0 : Int32)), (.int (0 : Int32))] (.int (0 : Int32)) := A_o1
  have Od := Od.wr W g_o1
  refine s_iload 34 C X at_32 rfl ?_
  refine s_iconst 35 C X at_34 kc_iconst_1 ?_
  refine s_icmp_le 44 38 C X at_35 (fun c35 => ?_) (fun c35 => ?_)
  · have t_c35 : ¬ ((1 : Int) < (nn).toInt) := fun q => c35 (Int32.lt_iff_toInt_lt.mpr q)
    refine s_iload 46 C X at_44 rfl ?_
    refine s_iconst 47 C X at_46 kc_iconst_2 ?_
    refine s_icmp_le 57 50 C X at_47 (fun c47 => ?_) (fun c => absurd (Int32.lt_iff_toInt_lt.mp c) (by show ¬ (2 : Int) < nn.toInt; omega))
    have t_c47 : ¬ ((2 : Int) < (nn).toInt) := fun q => c47 (Int32.lt_iff_toInt_lt.mpr q)
    refine s_iload 59 C X at_57 rfl ?_
    refine s_iconst 60 C X at_59 kc_iconst_3 ?_
    refine s_icmp_le 70 63 C X at_60 (fun c60 => ?_) (fun c => absurd (Int32.lt_iff_toInt_lt.mp c) (by show ¬ (3 : Int) < nn.toInt; omega))
    have t_c60 : ¬ ((3 : Int) < (nn).toInt) := fun q => c60 (Int32.lt_iff_toInt_lt.mpr q)
    refine J T _ _ Od A_o1 (fun i hi => ?_) X
    rcases i with _ | _ | _ | _ | i <;> first | rfl | (exfalso; omega) | simp [nth4]
  have t_c35 : (1 : Int) < (nn).toInt := Int32.lt_iff_toInt_lt.mp c35
  refine s_aload 40 C X at_38 rfl rfl ?_
  refine s_iconst 41 C X at_40 kc_iconst_1 ?_
  refine s_iloadN 42 C X at_41 rfl ?_
  refine s_i2b 43 C X at_42 ?_
  refine s_bastore 44 1 C X at_43 A_o1 g_o1 ⟨by decide, c35⟩ rfl (Nat.le_of_ble_eq_true rfl) (fun T _ X W A_o1 => ?_)
  have A_o1 : Arv Z _ o1 k_o1 .byte nn [(.int (nar .byte (x2).toInt8.toInt32)), (.int (nar .byte (x3).toInt8.toInt32)), (.int (0 : Int32)), (.int (0 : Int32))] (.int (0 : Int32)) := A_o1
  have Od := Od.wr W g_o1
  refine s_iload 46 C X at_44 rfl ?_
  refine s_iconst 47 C X at_46 kc_iconst_2 ?_
  refine s_icmp_le 57 50 C X at_47 (fun c47 => ?_) (fun c47 => ?_)
  · have t_c47 : ¬ ((2 : Int) < (nn).toInt) := fun q => c47 (Int32.lt_iff_toInt_lt.mpr q)
    refine s_iload 59 C X at_57 rfl ?_
    refine s_iconst 60 C X at_59 kc_iconst_3 ?_
    refine s_icmp_le 70 63 C X at_60 (fun c60 => ?_) (fun c => absurd (Int32.lt_iff_toInt_lt.mp c) (by show ¬ (3 : Int) < nn.toInt; omega))
    have t_c60 : ¬ ((3 : Int) < (nn).toInt) := fun q => c60 (Int32.lt_iff_toInt_lt.mpr q)
    refine J T _ _ Od A_o1 (fun i hi => ?_) X
    rcases i with _ | _ | _ | _ | i <;> first | rfl | (exfalso; omega) | simp [nth4]
  have t_c47 : (2 : Int) < (nn).toInt := Int32.lt_iff_toInt_lt.mp c47
  refine s_aload 52 C X at_50 rfl rfl ?_
  refine s_iconst 53 C X at_52 kc_iconst_2 ?_
  refine s_iload 55 C X at_53 rfl ?_
  refine s_i2b 56 C X at_55 ?_
  refine s_bastore 57 2 C X at_56 A_o1 g_o1 ⟨by decide, c47⟩ rfl (Nat.le_of_ble_eq_true rfl) (fun T _ X W A_o1 => ?_)
  have A_o1 : Arv Z _ o1 k_o1 .byte nn [(.int (nar .byte (x2).toInt8.toInt32)), (.int (nar .byte (x3).toInt8.toInt32)), (.int (nar .byte (x4).toInt8.toInt32)), (.int (0 : Int32))] (.int (0 : Int32)) := A_o1
  have Od := Od.wr W g_o1
  refine s_iload 59 C X at_57 rfl ?_
  refine s_iconst 60 C X at_59 kc_iconst_3 ?_
  refine s_icmp_le 70 63 C X at_60 (fun c60 => ?_) (fun c60 => ?_)
  · have t_c60 : ¬ ((3 : Int) < (nn).toInt) := fun q => c60 (Int32.lt_iff_toInt_lt.mpr q)
    refine J T _ _ Od A_o1 (fun i hi => ?_) X
    rcases i with _ | _ | _ | _ | i <;> first | rfl | (exfalso; omega) | simp [nth4]
  have t_c60 : (3 : Int) < (nn).toInt := Int32.lt_iff_toInt_lt.mp c60
  refine s_aload 65 C X at_63 rfl rfl ?_
  refine s_iconst 66 C X at_65 kc_iconst_3 ?_
  refine s_iload 68 C X at_66 rfl ?_
  refine s_i2b 69 C X at_68 ?_
  refine s_bastore 70 3 C X at_69 A_o1 g_o1 ⟨by decide, c60⟩ rfl (Nat.le_of_ble_eq_true rfl) (fun T _ X W A_o1 => ?_)
  have A_o1 : Arv Z _ o1 k_o1 .byte nn [(.int (nar .byte (x2).toInt8.toInt32)), (.int (nar .byte (x3).toInt8.toInt32)), (.int (nar .byte (x4).toInt8.toInt32)), (.int (nar .byte (x5).toInt8.toInt32))] (.int (0 : Int32)) := A_o1
  have Od := Od.wr W g_o1
  refine J T _ _ Od A_o1 (fun i hi => ?_) X
  rcases i with _ | _ | _ | _ | i <;> first | rfl | (exfalso; omega) | simp [nth4]
set_option maxRecDepth 65536 in
set_option maxHeartbeats 40000000 in
theorem comes_1 {Post : Tables → Env → Array Value → State → Outcome → State → Prop} (hpost : ∀ tb e args s v u, (limb_1_1.after args s (.returned v) u = true ∧ limb_1_2.after args s (.returned v) u = true ∧ True) → FrameEnd s (.returned v) u (Jvm.fieldLocs frame_1_writes args s ++ Jvm.arrayLocs frame_1_arrays args s ++ Jvm.staticLocs frame_1_statics s) 16 128 → Post tb e args s (.returned v) u) :
    ArmFor flags0 classFile x code maxLocals ret World_1 tables_1 room_1 Calls_1 rest_1 Pre_1 Post := by
  intro l hfl _ _ p e ha hc hk s m args below hf hA hF happ hP
  obtain ⟨hcalls, hrest, hpre⟩ := hP
  obtain ⟨-, -, -, hnamed, -, -, -, hat⟩ := (Spec.applies_iff hf).mp happ
  obtain ⟨hg, hn⟩ := and_e (Cond.before_iff.mp (show (Jvm.Cond.and given_1 narrow_1).before args s = true from hpre))
  obtain ⟨g0, g1⟩ := and_e hg
  obtain ⟨ga0, gr0⟩ := and_e g1
  obtain ⟨ga1, gr1⟩ := and_e gr0
  obtain ⟨ga2, gr2⟩ := and_e gr1
  obtain ⟨ga3, gr3⟩ := and_e gr2
  obtain ⟨ga4, gr4⟩ := and_e gr3
  obtain ⟨w0, w1, w2, w3, w4, w5, rfl⟩ : ∃ w0 w1 w2 w3 w4 w5 : Value, args = #[w0, w1, w2, w3, w4, w5] := by
    have hs : args.size = 6 := by simpa [Cond.value, given_1] using g0
    obtain ⟨L⟩ := args
    match L, hs with
    | [w0, w1, w2, w3, w4, w5], _ => exact ⟨w0, w1, w2, w3, w4, w5, rfl⟩
  have hw := fun d (hd : d ∈ tables_1) => atoms_spec (ws := Jvm.Cond.code x code maxLocals ret :: tables_1) hat d (List.mem_cons_of_mem _ hd)
  have hfit : Fit s := fun {y c} hc i hi => by
    obtain ⟨ha, rfl⟩ := Array.getElem?_eq_some_iff.mp hc
    have q := List.all_eq_true.mp ((Array.all_eq_true_iff_forall_mem.mp hF) _ (Array.getElem_mem ha)) i (List.mem_range.mpr hi)
    simpa [Array.getElem?_eq_getElem hi] using q
  obtain ⟨i0, e0⟩ := is_v ga0
  obtain rfl : w0 = (.int i0) := Option.some.inj e0
  obtain ⟨i1, e1⟩ := is_v ga1
  obtain rfl : w1 = (.int i1) := Option.some.inj e1
  obtain ⟨i2, e2⟩ := is_v ga2
  obtain rfl : w2 = (.int i2) := Option.some.inj e2
  obtain ⟨i3, e3⟩ := is_v ga3
  obtain rfl : w3 = (.int i3) := Option.some.inj e3
  obtain ⟨i4, e4⟩ := is_v ga4
  obtain rfl : w4 = (.int i4) := Option.some.inj e4
  obtain ⟨i5, e5⟩ := is_v gr4
  obtain rfl : w5 = (.int i5) := Option.some.inj e5
  obtain ⟨n1, hn⟩ := and_e hn
  obtain ⟨n2, hn⟩ := and_e hn
  obtain ⟨n3, hn⟩ := and_e hn
  obtain ⟨n4, hn⟩ := and_e hn
  obtain ⟨n5, hn⟩ := and_e hn
  obtain ⟨n6, hn⟩ := and_e hn
  obtain ⟨n7, hn⟩ := and_e hn
  obtain ⟨n8, hn⟩ := and_e hn
  obtain ⟨n9, hn⟩ := and_e hn
  obtain ⟨n10, hn⟩ := and_e hn
  obtain ⟨n11, hn⟩ := and_e hn
  obtain ⟨n12, hn⟩ := and_e hn
  obtain ⟨n13, hn⟩ := and_e hn
  obtain ⟨n14, hn⟩ := and_e hn
  obtain ⟨n15, hn⟩ := and_e hn
  obtain ⟨n16, hn⟩ := and_e hn
  obtain ⟨n17, hn⟩ := and_e hn
  obtain ⟨n18, hn⟩ := and_e hn
  obtain ⟨n19, hn⟩ := and_e hn
  obtain ⟨n20, hn⟩ := and_e hn
  obtain ⟨n21, hn⟩ := and_e hn
  obtain ⟨n22, hn⟩ := and_e hn
  obtain ⟨n23, hn⟩ := and_e hn
  obtain ⟨n24, n25⟩ := and_e hn
  obtain ⟨f0, e100⟩ := exa_v n1
  have S0 := Sta.start e100 (Or.inr ⟨(hw _ (List.mem_of_getElem? (i := 7) rfl)), (hw _ (List.mem_of_getElem? (i := 8) rfl))⟩)
  obtain ⟨b0, eb0⟩ := arr_v n2
  have F0 := Fld.start ((fld_at e100).symm.trans eb0)
  obtain ⟨k0, v0, A0, G0⟩ := own_bytes hfit eb0 n2 n3 (by decide)
  have H0 : ∀ i : Nat, (i : Int) < (3 : Int32).toInt → v0.getD i (.int 0) = .int (nth4 (-17) (-69) (-65) (0) i) := by
    intro i hi
    have kz : (3 : Int32).toInt = 3 := by decide
    rcases i with _ | _ | _ | i
    · exact G0 0 _ n4
    · exact G0 1 _ n23
    · exact G0 2 _ n24
    · exfalso; omega
  obtain ⟨f1, e101⟩ := exa_v n11
  have S1 := Sta.start e101 (Or.inr ⟨(hw _ (List.mem_of_getElem? (i := 7) rfl)), (hw _ (List.mem_of_getElem? (i := 35) rfl))⟩)
  obtain ⟨b1, eb1⟩ := arr_v n12
  have F1 := Fld.start ((fld_at e101).symm.trans eb1)
  obtain ⟨k1, v1, A1, G1⟩ := own_bytes hfit eb1 n12 n13 (by decide)
  have H1 : ∀ i : Nat, (i : Int) < (2 : Int32).toInt → v1.getD i (.int 0) = .int (nth4 (-2) (-1) (0) (0) i) := by
    intro i hi
    have kz : (2 : Int32).toInt = 2 := by decide
    rcases i with _ | _ | i
    · exact G1 0 _ n14
    · exact G1 1 _ n25
    · exfalso; omega
  obtain ⟨f2, e102⟩ := exa_v n15
  have S2 := Sta.start e102 (Or.inr ⟨(hw _ (List.mem_of_getElem? (i := 7) rfl)), (hw _ (List.mem_of_getElem? (i := 37) rfl))⟩)
  obtain ⟨b2, eb2⟩ := arr_v n16
  have F2 := Fld.start ((fld_at e102).symm.trans eb2)
  obtain ⟨k2, v2, A2, G2⟩ := own_bytes hfit eb2 n16 n17 (by decide)
  have H2 : ∀ i : Nat, (i : Int) < (2 : Int32).toInt → v2.getD i (.int 0) = .int (nth4 (-1) (-2) (0) (0) i) := by
    intro i hi
    have kz : (2 : Int32).toInt = 2 := by decide
    rcases i with _ | _ | i
    · exact G2 0 _ n18
    · exact G2 1 _ n19
    · exfalso; omega
  obtain ⟨f3, e103⟩ := exa_v n8
  have S3 := Sta.start e103 (Or.inr ⟨(hw _ (List.mem_of_getElem? (i := 7) rfl)), (hw _ (List.mem_of_getElem? (i := 33) rfl))⟩)
  obtain ⟨b3, eb3⟩ := arr_v n9
  have F3 := Fld.start ((fld_at e103).symm.trans eb3)
  obtain ⟨k3, v3, A3, G3⟩ := own_bytes hfit eb3 n9 n10 (by decide)
  have H3 : ∀ i : Nat, (i : Int) < (0 : Int32).toInt → v3.getD i (.int 0) = .int (nth4 (0) (0) (0) (0) i) := by
    intro i hi
    have kz : (0 : Int32).toInt = 0 := by decide
    rcases i with i
    · exfalso; omega
  obtain ⟨f4, e104⟩ := exa_v n5
  have S4 := Sta.start e104 (Or.inr ⟨(hw _ (List.mem_of_getElem? (i := 7) rfl)), (hw _ (List.mem_of_getElem? (i := 31) rfl))⟩)
  obtain ⟨b4, eb4⟩ := arr_v n6
  have F4 := Fld.start ((fld_at e104).symm.trans eb4)
  obtain ⟨k4, v4, A4, G4⟩ := own_bytes hfit eb4 n6 n7 (by decide)
  have H4 : ∀ i : Nat, (i : Int) < (0 : Int32).toInt → v4.getD i (.int 0) = .int (nth4 (0) (0) (0) (0) i) := by
    intro i hi
    have kz : (0 : Int32).toInt = 0 := by decide
    rcases i with i
    · exfalso; omega
  obtain ⟨f5, e105⟩ := exa_v n20
  have S5 := Sta.start e105 (Or.inr ⟨(hw _ (List.mem_of_getElem? (i := 7) rfl)), (hw _ (List.mem_of_getElem? (i := 39) rfl))⟩)
  obtain ⟨b5, eb5⟩ := arr_v n21
  have F5 := Fld.start ((fld_at e105).symm.trans eb5)
  obtain ⟨k5, v5, A5, G5⟩ := own_bytes hfit eb5 n21 n22 (by decide)
  have H5 : ∀ i : Nat, (i : Int) < (0 : Int32).toInt → v5.getD i (.int 0) = .int (nth4 (0) (0) (0) (0) i) := by
    intro i hi
    have kz : (0 : Int32).toInt = 0 := by decide
    rcases i with i
    · exfalso; omega
  obtain ⟨n, o, h1, h2, h3, _, L, rfl, ⟨rfl, N⟩, hq⟩ := rm0 l s _ hw i0 i1 i2 i3 i4 i5 f0 b0 k0 v0 f1 b1 k1 v1 f2 b2 k2 v2 f3 b3 k3 v3 f4 b4 k4 v4 f5 b5 k5 v5 s.heap s.heap.size (Nat.le_refl _) (Old.start s) S0 (Exa.start e100 n1) F0 A0 H0 S1 (Exa.start e101 n11) F1 A1 H1 S2 (Exa.start e102 n15) F2 A2 H2 S3 (Exa.start e103 n8) F3 A3 H3 S4 (Exa.start e104 n5) F4 A4 H4 S5 (Exa.start e105 n20) F5 A5 H5 p e ha hc hk s m _ below hf ((Spec.applies_iff_loose hf).mp happ).1 ⟨rfl, State.Warmed39.refl s, rfl⟩ trivial
  exact ⟨n, _, h1, h2, h3, hpost _ _ _ _ _ _ ⟨Cond.after_iff.mpr rfl, Cond.after_iff.mpr (eq_i res_at (Term.int_eval (1)) rfl), trivial⟩ ⟨hq.1, hq.2.1, (hq.2.2.sift fun y hy => Or.inr (N y hy)).mono (by decide) (by decide)⟩⟩
theorem main_1_1 : Claimed_1_1 := comes_1 fun _ _ _ _ _ _ h hF => ⟨h.1, hF⟩
theorem main_1_2 : Claimed_1_2 := comes_1 fun _ _ _ _ _ _ h hF => ⟨h.2.1, hF⟩
end Jvm.Pilot.@@N@@
namespace Jvm.Pilot.@@N@@
open Jvm Jvm.ClassFile Sem Op Lib Jvm.Free Jvm.Stand Jvm.Pilot.@@N@@.Jvm.D
/-! MADE BY PROGRAM (witnessworld.py) out of the Statement's table words and the real class files: 15 classes; the members and pool entries that the words name. The judged class is class 1, her method 1. -/
namespace start1
open Jvm.ClassFile
def u (s : String) : CpInfo := .utf8 (stringToUtf16 s)
/-- a pool by its gaps: so many unusable entries, then the entry; so many at the end -/
def gap : Nat → List CpInfo → List CpInfo
  | 0, r => r
  | n + 1, r => .unusable :: gap n r
def poolList (es : List (Nat × CpInfo)) (last : Nat) : List CpInfo := es.foldr (fun e r => gap e.1 (e.2 :: r)) (gap last [])
def pool (es : List (Nat × CpInfo)) (last : Nat) : Array CpInfo := ⟨poolList es last⟩
def fileOf (pool : Array CpInfo) (this : Nat) (attrs : Array Attribute := #[]) (ms : Array MethodInfo := #[]) (fl : Nat := 33) (sup : Nat := 0) (ifs : Array Nat := #[]) (fds : Array FieldInfo := #[]) : ClassFile where
  minorVersion := 0
  majorVersion := 65
  constantPool := pool
  accessFlags := fl
  thisClass := this
  superClass := sup
  interfaces := ifs
  fields := fds
  methods := ms
  attributes := attrs
def plain (name : String) (sup : Option ClassId) : Class where
  name := name
  kind := .ordinary
  loader := none
  accessFlags := 33
  super := sup
  interfaces := #[]
  cf := none
  fields := #[]
  methods := #[]
  instanceTypes := #[]
  staticTypes := #[]
  resolved := #[]
  callSites := []
  init := .initialized
  statics := none
  mirror := none

def pool0 : Array CpInfo := pool [(5, u "<init>"), (0, u "()V"), (1, .class_ 10), (1, u "java/lang/Object")] 113

def k0m0 : Method := { name := "<init>", desc := "()V", sig := { parameters := [], returnType := none }, accessFlags := 1, code := none }
/-- java/lang/Object -/
def k0 : Class := { plain "java/lang/Object" none with
  accessFlags := 33
  interfaces := #[]
  cf := some (fileOf pool0 8 #[] #[{ accessFlags := 1, nameIndex := 5, descriptorIndex := 6, attributes := #[] }] 33 0 #[] #[])
  fields := #[]
  methods := #[k0m0]
  instanceTypes := #[]
  staticTypes := #[]
  resolved := Array.replicate 124 none
  statics := none }

def pool1 : Array CpInfo := pool [(2, .class_ 4), (1, u "java/lang/Object"), (0, u "<init>"), (0, u "()V"), (0, .integer 2147483647), (0, .methodref 9 10), (0, .class_ 11), (0, .nameAndType 12 13), (0, u "com/example/shapelint/shapelint/io/XmlEncodingFamilyByteOrderMarkLengthPinLaw"), (0, u "pick"), (0, u "(I)Lcom/example/shapelint/shapelint/io/XmlEncodingFamily;"), (0, .methodref 15 16), (0, .class_ 17), (0, .nameAndType 18 19), (0, u "com/example/shapelint/shapelint/io/XmlEncodingFamily"), (0, u "byteOrderMarkLength"), (0, u "([B)I"), (0, .fieldref 15 21), (0, .nameAndType 22 23), (0, u "ASCII_COMPATIBLE"), (0, u "Lcom/example/shapelint/shapelint/io/XmlEncodingFamily;"), (0, .fieldref 15 25), (0, .nameAndType 26 23), (0, u "UTF_16_BIG_ENDIAN"), (0, .fieldref 15 28), (0, .nameAndType 29 23), (0, u "UTF_16_LITTLE_ENDIAN"), (0, .fieldref 15 31), (0, .nameAndType 32 23), (0, u "UTF_32_BIG_ENDIAN"), (0, .fieldref 15 34), (0, .nameAndType 35 23), (0, u "UTF_32_LITTLE_ENDIAN"), (0, .fieldref 15 37), (0, .nameAndType 38 23), (0, u "EBCDIC"), (2, u "law"), (0, u "(IIIIII)Z")] 5

def k1m0 : Method := { name := "<init>", desc := "()V", sig := { parameters := [], returnType := none }, accessFlags := 1, code := none }
def k1c1 : Code := { maxStack := 3, maxLocals := 15, code := code, exceptionTable := #[], attributes := #[] }
def k1m1 : Method := { name := "law", desc := "(IIIIII)Z", sig := { parameters := [.int, .int, .int, .int, .int, .int], returnType := some .boolean }, accessFlags := 9, code := some k1c1 }
def k1c2 : Code := { maxStack := 2, maxLocals := 1, code := method_3_code, exceptionTable := #[], attributes := #[] }
def k1m2 : Method := { name := "pick", desc := "(I)Lcom/example/shapelint/shapelint/io/XmlEncodingFamily;", sig := { parameters := [.int], returnType := some (.object "com/example/shapelint/shapelint/io/XmlEncodingFamily") }, accessFlags := 10, code := some k1c2 }
/-- com/example/shapelint/shapelint/io/XmlEncodingFamilyByteOrderMarkLengthPinLaw -/
def k1 : Class := { plain "com/example/shapelint/shapelint/io/XmlEncodingFamilyByteOrderMarkLengthPinLaw" (some 0) with
  accessFlags := 49
  interfaces := #[]
  cf := some (fileOf pool1 9 #[] #[{ accessFlags := 1, nameIndex := 5, descriptorIndex := 6, attributes := #[] }, { accessFlags := 9, nameIndex := 41, descriptorIndex := 42, attributes := #[] }, { accessFlags := 10, nameIndex := 12, descriptorIndex := 13, attributes := #[] }] 49 2 #[] #[])
  fields := #[]
  methods := #[k1m0, k1m1, k1m2]
  instanceTypes := #[]
  staticTypes := #[]
  resolved := Array.replicate 48 none
  statics := none }

def pool2 : Array CpInfo := pool [(1, .class_ 2), (0, u "java/lang/constant/Constable"), (0, .class_ 4), (0, u "java/lang/Object")] 6

/-- java/lang/constant/Constable -/
def k2 : Class := { plain "java/lang/constant/Constable" (some 0) with
  accessFlags := 1537
  interfaces := #[]
  cf := some (fileOf pool2 1 #[] #[] 1537 3 #[] #[])
  fields := #[]
  methods := #[]
  instanceTypes := #[]
  staticTypes := #[]
  resolved := Array.replicate 11 none
  statics := none }

def pool3 : Array CpInfo := pool [(1, .class_ 2), (0, u "java/lang/Comparable"), (0, .class_ 4), (0, u "java/lang/Object")] 7

/-- java/lang/Comparable -/
def k3 : Class := { plain "java/lang/Comparable" (some 0) with
  accessFlags := 1537
  interfaces := #[]
  cf := some (fileOf pool3 1 #[] #[] 1537 3 #[] #[])
  fields := #[]
  methods := #[]
  instanceTypes := #[]
  staticTypes := #[]
  resolved := Array.replicate 12 none
  statics := none }

def pool4 : Array CpInfo := pool [(1, .class_ 2), (0, u "java/io/Serializable"), (0, .class_ 4), (0, u "java/lang/Object")] 2

/-- java/io/Serializable -/
def k4 : Class := { plain "java/io/Serializable" (some 0) with
  accessFlags := 1537
  interfaces := #[]
  cf := some (fileOf pool4 1 #[] #[] 1537 3 #[] #[])
  fields := #[]
  methods := #[]
  instanceTypes := #[]
  staticTypes := #[]
  resolved := Array.replicate 7 none
  statics := none }

def pool5 : Array CpInfo := pool [(2, .class_ 4), (1, u "java/lang/Enum"), (0, u "name"), (0, u "Ljava/lang/String;"), (2, u "ordinal"), (0, u "I"), (1, .class_ 14), (1, u "java/lang/Object"), (4, u "hash"), (86, .class_ 108), (1, u "java/lang/Enum$EnumDesc"), (2, .class_ 112), (0, u "java/lang/constant/Constable"), (0, .class_ 114), (0, u "java/lang/Comparable"), (0, .class_ 116), (0, u "java/io/Serializable")] 87

/-- java/lang/Enum -/
def k5 : Class := { plain "java/lang/Enum" (some 0) with
  accessFlags := 1057
  interfaces := #[2, 3, 4]
  cf := some (fileOf pool5 2 #[.nestMembers #[106]] #[] 1057 12 #[111, 113, 115] #[{ accessFlags := 18, nameIndex := 5, descriptorIndex := 6, attributes := #[] }, { accessFlags := 18, nameIndex := 9, descriptorIndex := 10, attributes := #[] }, { accessFlags := 2, nameIndex := 19, descriptorIndex := 10, attributes := #[] }])
  fields := #[{ name := "name", type := (.object "java/lang/String"), accessFlags := 18, slot := 0, constantValue := 0 }, { name := "ordinal", type := .int, accessFlags := 18, slot := 1, constantValue := 0 }, { name := "hash", type := .int, accessFlags := 2, slot := 2, constantValue := 0 }]
  methods := #[]
  instanceTypes := #[(.object "java/lang/String"), .int, .int]
  staticTypes := #[]
  resolved := Array.replicate 204 none
  statics := none }

def pool6 : Array CpInfo := pool [(1, .class_ 2), (0, u "com/example/shapelint/shapelint/io/XmlEncodingFamily"), (2, u "ASCII_COMPATIBLE"), (0, u "Lcom/example/shapelint/shapelint/io/XmlEncodingFamily;"), (2, u "UTF_16_BIG_ENDIAN"), (2, u "UTF_16_LITTLE_ENDIAN"), (2, u "UTF_32_BIG_ENDIAN"), (2, u "UTF_32_LITTLE_ENDIAN"), (2, u "EBCDIC"), (2, u "$VALUES"), (0, u "[Lcom/example/shapelint/shapelint/io/XmlEncodingFamily;"), (6, .class_ 34), (1, u "java/lang/Enum"), (8, u "_unitLength"), (0, u "I"), (2, u "_littleEndian"), (0, u "Z"), (0, .fieldref 1 50), (0, .nameAndType 51 52), (0, u "_byteOrderMark"), (0, u "[B"), (2, u "_signature"), (4, .methodref 1 61), (0, .nameAndType 62 63), (0, u "startsWith"), (0, u "([B[B)Z"), (0, .methodref 65 66), (0, .class_ 67), (0, .nameAndType 68 69), (0, u "java/util/Arrays"), (0, u "equals"), (0, u "([BII[BII)Z"), (12, .class_ 83), (0, u "com/example/shapelint/shapelint/io/XmlEncodingFamily$1"), (5, u "SIGNATURE_LENGTH"), (14, u "byteOrderMarkLength"), (0, u "([B)I"), (10, .class_ 117), (0, u "com/example/shapelint/shapelint/io/XmlEncodingFamily$CodePage037")] 3

def k6c0 : Code := { maxStack := 2, maxLocals := 2, code := prog_14_method_6_code, exceptionTable := #[], attributes := #[] }
def k6m0 : Method := { name := "byteOrderMarkLength", desc := "([B)I", sig := { parameters := [(.array .byte)], returnType := some .int }, accessFlags := 0, code := some k6c0 }
def k6c1 : Code := { maxStack := 6, maxLocals := 2, code := prog_14_method_9_code, exceptionTable := #[], attributes := #[] }
def k6m1 : Method := { name := "startsWith", desc := "([B[B)Z", sig := { parameters := [(.array .byte), (.array .byte)], returnType := some .boolean }, accessFlags := 10, code := some k6c1 }
/-- com/example/shapelint/shapelint/io/XmlEncodingFamily -/
def k6 : Class := { plain "com/example/shapelint/shapelint/io/XmlEncodingFamily" (some 5) with
  accessFlags := 16416
  interfaces := #[]
  cf := some (fileOf pool6 1 #[.nestMembers #[116, 82]] #[{ accessFlags := 0, nameIndex := 104, descriptorIndex := 105, attributes := #[] }, { accessFlags := 10, nameIndex := 62, descriptorIndex := 63, attributes := #[] }] 16416 32 #[] #[{ accessFlags := 16409, nameIndex := 5, descriptorIndex := 6, attributes := #[] }, { accessFlags := 16409, nameIndex := 9, descriptorIndex := 6, attributes := #[] }, { accessFlags := 16409, nameIndex := 12, descriptorIndex := 6, attributes := #[] }, { accessFlags := 16409, nameIndex := 15, descriptorIndex := 6, attributes := #[] }, { accessFlags := 16409, nameIndex := 18, descriptorIndex := 6, attributes := #[] }, { accessFlags := 16409, nameIndex := 21, descriptorIndex := 6, attributes := #[] }, { accessFlags := 24, nameIndex := 89, descriptorIndex := 44, attributes := #[] }, { accessFlags := 18, nameIndex := 43, descriptorIndex := 44, attributes := #[] }, { accessFlags := 18, nameIndex := 47, descriptorIndex := 48, attributes := #[] }, { accessFlags := 18, nameIndex := 51, descriptorIndex := 52, attributes := #[] }, { accessFlags := 18, nameIndex := 55, descriptorIndex := 52, attributes := #[] }, { accessFlags := 4122, nameIndex := 24, descriptorIndex := 25, attributes := #[] }])
  fields := #[{ name := "ASCII_COMPATIBLE", type := (.object "com/example/shapelint/shapelint/io/XmlEncodingFamily"), accessFlags := 16409, slot := 0, constantValue := 0 }, { name := "UTF_16_BIG_ENDIAN", type := (.object "com/example/shapelint/shapelint/io/XmlEncodingFamily"), accessFlags := 16409, slot := 1, constantValue := 0 }, { name := "UTF_16_LITTLE_ENDIAN", type := (.object "com/example/shapelint/shapelint/io/XmlEncodingFamily"), accessFlags := 16409, slot := 2, constantValue := 0 }, { name := "UTF_32_BIG_ENDIAN", type := (.object "com/example/shapelint/shapelint/io/XmlEncodingFamily"), accessFlags := 16409, slot := 3, constantValue := 0 }, { name := "UTF_32_LITTLE_ENDIAN", type := (.object "com/example/shapelint/shapelint/io/XmlEncodingFamily"), accessFlags := 16409, slot := 4, constantValue := 0 }, { name := "EBCDIC", type := (.object "com/example/shapelint/shapelint/io/XmlEncodingFamily"), accessFlags := 16409, slot := 5, constantValue := 0 }, { name := "SIGNATURE_LENGTH", type := .int, accessFlags := 24, slot := 6, constantValue := 0 }, { name := "_unitLength", type := .int, accessFlags := 18, slot := 3, constantValue := 0 }, { name := "_littleEndian", type := .boolean, accessFlags := 18, slot := 4, constantValue := 0 }, { name := "_byteOrderMark", type := (.array .byte), accessFlags := 18, slot := 5, constantValue := 0 }, { name := "_signature", type := (.array .byte), accessFlags := 18, slot := 6, constantValue := 0 }, { name := "$VALUES", type := (.array (.object "com/example/shapelint/shapelint/io/XmlEncodingFamily")), accessFlags := 4122, slot := 7, constantValue := 0 }]
  methods := #[k6m0, k6m1]
  instanceTypes := #[(.object "java/lang/String"), .int, .int, .int, .boolean, (.array .byte), (.array .byte)]
  staticTypes := #[(.object "com/example/shapelint/shapelint/io/XmlEncodingFamily"), (.object "com/example/shapelint/shapelint/io/XmlEncodingFamily"), (.object "com/example/shapelint/shapelint/io/XmlEncodingFamily"), (.object "com/example/shapelint/shapelint/io/XmlEncodingFamily"), (.object "com/example/shapelint/shapelint/io/XmlEncodingFamily"), (.object "com/example/shapelint/shapelint/io/XmlEncodingFamily"), .int, (.array (.object "com/example/shapelint/shapelint/io/XmlEncodingFamily"))]
  resolved := Array.replicate 121 none
  statics := some 0 }

def pool7 : Array CpInfo := pool [(2, .class_ 4), (1, u "java/lang/Object"), (0, u "<init>"), (0, u "()V"), (6, .methodref 14 15), (0, .class_ 16), (0, .nameAndType 17 18), (0, u "java/util/Arrays"), (0, u "rangeCheck"), (0, u "(III)V"), (55, .class_ 76), (1, u "java/util/Arrays$NaturalOrder"), (36, .class_ 115), (1, u "java/util/Arrays$LegacyMergeSort"), (1, u "Z"), (128, .class_ 248), (1, u "jdk/internal/util/ArraysSupport"), (0, u "mismatch"), (25, .methodref 246 276), (0, .nameAndType 249 277), (0, u "([BI[BII)I"), (20, u "equals"), (76, .class_ 376), (0, u "java/util/Arrays$ArrayList"), (68, u "$assertionsDisabled"), (269, u "MIN_ARRAY_SORT_GRAN"), (0, u "I"), (2, u "INSERTIONSORT_THRESHOLD"), (111, u "([BII[BII)Z"), (143, .class_ 976), (0, u "java/util/Arrays$ArrayItr")] 52

def k7m0 : Method := { name := "<init>", desc := "()V", sig := { parameters := [], returnType := none }, accessFlags := 2, code := none }
def k7c1 : Code := { maxStack := 4, maxLocals := 3, code := jdk_65_method_30_code, exceptionTable := #[], attributes := #[] }
def k7m1 : Method := { name := "rangeCheck", desc := "(III)V", sig := { parameters := [.int, .int, .int], returnType := none }, accessFlags := 8, code := some k7c1 }
def k7c2 : Code := { maxStack := 5, maxLocals := 8, code := jdk_65_method_90_code, exceptionTable := #[], attributes := #[] }
def k7m2 : Method := { name := "equals", desc := "([BII[BII)Z", sig := { parameters := [(.array .byte), .int, .int, (.array .byte), .int, .int], returnType := some .boolean }, accessFlags := 9, code := some k7c2 }
/-- java/util/Arrays -/
def k7 : Class := { plain "java/util/Arrays" (some 0) with
  accessFlags := 49
  interfaces := #[]
  cf := some (fileOf pool7 14 #[.nestMembers #[975, 375, 113, 74]] #[{ accessFlags := 2, nameIndex := 5, descriptorIndex := 6, attributes := #[] }, { accessFlags := 8, nameIndex := 17, descriptorIndex := 18, attributes := #[] }, { accessFlags := 9, nameIndex := 298, descriptorIndex := 831, attributes := #[] }] 49 2 #[] #[{ accessFlags := 26, nameIndex := 715, descriptorIndex := 716, attributes := #[] }, { accessFlags := 26, nameIndex := 719, descriptorIndex := 716, attributes := #[] }, { accessFlags := 4120, nameIndex := 445, descriptorIndex := 117, attributes := #[] }])
  fields := #[{ name := "MIN_ARRAY_SORT_GRAN", type := .int, accessFlags := 26, slot := 0, constantValue := 0 }, { name := "INSERTIONSORT_THRESHOLD", type := .int, accessFlags := 26, slot := 1, constantValue := 0 }, { name := "$assertionsDisabled", type := .boolean, accessFlags := 4120, slot := 2, constantValue := 0 }]
  methods := #[k7m0, k7m1, k7m2]
  instanceTypes := #[]
  staticTypes := #[.int, .int, .boolean]
  resolved := Array.replicate 1029 none
  statics := none }

def pool8 : Array CpInfo := pool [(9, u "<init>"), (6, .class_ 18), (1, u "java/lang/Object"), (0, u "()V"), (1, .class_ 23), (1, u "jdk/internal/util/ArraysSupport"), (0, u "LOG2_ARRAY_LONG_INDEX_SCALE"), (0, u "I"), (2, u "U"), (0, u "Ljdk/internal/misc/Unsafe;"), (8, u "BIG_ENDIAN"), (0, u "Z"), (8, u "LOG2_BYTE_BIT_SIZE"), (4, u "LOG2_ARRAY_INT_INDEX_SCALE"), (54, u "JLA"), (0, u "Ljdk/internal/access/JavaLangAccess;"), (11, u "LOG2_ARRAY_BOOLEAN_INDEX_SCALE"), (9, u "LOG2_ARRAY_BYTE_INDEX_SCALE"), (5, u "LOG2_ARRAY_CHAR_INDEX_SCALE"), (5, u "LOG2_ARRAY_SHORT_INDEX_SCALE"), (5, u "mismatch"), (12, u "LOG2_ARRAY_FLOAT_INDEX_SCALE"), (24, u "LOG2_ARRAY_DOUBLE_INDEX_SCALE"), (89, u "T_BOOLEAN"), (2, u "T_CHAR"), (1, u "T_FLOAT"), (1, u "T_DOUBLE"), (1, u "T_BYTE"), (1, u "T_SHORT"), (1, u "T_INT"), (1, u "T_LONG"), (1, u "SOFT_MAX_ARRAY_LENGTH"), (42, u "([BI[BII)I")] 40

def k8m0 : Method := { name := "<init>", desc := "()V", sig := { parameters := [], returnType := none }, accessFlags := 2, code := none }
def k8c1 : Code := { maxStack := 8, maxLocals := 8, code := jdk_48_method_14_code, exceptionTable := #[], attributes := #[] }
def k8m1 : Method := { name := "mismatch", desc := "([BI[BII)I", sig := { parameters := [(.array .byte), .int, (.array .byte), .int, .int], returnType := some .int }, accessFlags := 9, code := some k8c1 }
/-- jdk/internal/util/ArraysSupport -/
def k8 : Class := { plain "jdk/internal/util/ArraysSupport" (some 0) with
  accessFlags := 33
  interfaces := #[]
  cf := some (fileOf pool8 21 #[] #[{ accessFlags := 2, nameIndex := 9, descriptorIndex := 19, attributes := #[] }, { accessFlags := 9, nameIndex := 149, descriptorIndex := 337, attributes := #[] }] 33 16 #[] #[{ accessFlags := 24, nameIndex := 28, descriptorIndex := 29, attributes := #[] }, { accessFlags := 26, nameIndex := 38, descriptorIndex := 39, attributes := #[] }, { accessFlags := 25, nameIndex := 121, descriptorIndex := 25, attributes := #[] }, { accessFlags := 25, nameIndex := 131, descriptorIndex := 25, attributes := #[] }, { accessFlags := 25, nameIndex := 137, descriptorIndex := 25, attributes := #[] }, { accessFlags := 25, nameIndex := 143, descriptorIndex := 25, attributes := #[] }, { accessFlags := 25, nameIndex := 53, descriptorIndex := 25, attributes := #[] }, { accessFlags := 25, nameIndex := 24, descriptorIndex := 25, attributes := #[] }, { accessFlags := 25, nameIndex := 162, descriptorIndex := 25, attributes := #[] }, { accessFlags := 25, nameIndex := 187, descriptorIndex := 25, attributes := #[] }, { accessFlags := 26, nameIndex := 48, descriptorIndex := 25, attributes := #[] }, { accessFlags := 25, nameIndex := 277, descriptorIndex := 25, attributes := #[] }, { accessFlags := 25, nameIndex := 280, descriptorIndex := 25, attributes := #[] }, { accessFlags := 25, nameIndex := 282, descriptorIndex := 25, attributes := #[] }, { accessFlags := 25, nameIndex := 284, descriptorIndex := 25, attributes := #[] }, { accessFlags := 25, nameIndex := 286, descriptorIndex := 25, attributes := #[] }, { accessFlags := 25, nameIndex := 288, descriptorIndex := 25, attributes := #[] }, { accessFlags := 25, nameIndex := 290, descriptorIndex := 25, attributes := #[] }, { accessFlags := 25, nameIndex := 292, descriptorIndex := 25, attributes := #[] }, { accessFlags := 26, nameIndex := 108, descriptorIndex := 109, attributes := #[] }, { accessFlags := 25, nameIndex := 294, descriptorIndex := 25, attributes := #[] }])
  fields := #[{ name := "U", type := (.object "jdk/internal/misc/Unsafe"), accessFlags := 24, slot := 0, constantValue := 0 }, { name := "BIG_ENDIAN", type := .boolean, accessFlags := 26, slot := 1, constantValue := 0 }, { name := "LOG2_ARRAY_BOOLEAN_INDEX_SCALE", type := .int, accessFlags := 25, slot := 2, constantValue := 0 }, { name := "LOG2_ARRAY_BYTE_INDEX_SCALE", type := .int, accessFlags := 25, slot := 3, constantValue := 0 }, { name := "LOG2_ARRAY_CHAR_INDEX_SCALE", type := .int, accessFlags := 25, slot := 4, constantValue := 0 }, { name := "LOG2_ARRAY_SHORT_INDEX_SCALE", type := .int, accessFlags := 25, slot := 5, constantValue := 0 }, { name := "LOG2_ARRAY_INT_INDEX_SCALE", type := .int, accessFlags := 25, slot := 6, constantValue := 0 }, { name := "LOG2_ARRAY_LONG_INDEX_SCALE", type := .int, accessFlags := 25, slot := 7, constantValue := 0 }, { name := "LOG2_ARRAY_FLOAT_INDEX_SCALE", type := .int, accessFlags := 25, slot := 8, constantValue := 0 }, { name := "LOG2_ARRAY_DOUBLE_INDEX_SCALE", type := .int, accessFlags := 25, slot := 9, constantValue := 0 }, { name := "LOG2_BYTE_BIT_SIZE", type := .int, accessFlags := 26, slot := 10, constantValue := 0 }, { name := "T_BOOLEAN", type := .int, accessFlags := 25, slot := 11, constantValue := 0 }, { name := "T_CHAR", type := .int, accessFlags := 25, slot := 12, constantValue := 0 }, { name := "T_FLOAT", type := .int, accessFlags := 25, slot := 13, constantValue := 0 }, { name := "T_DOUBLE", type := .int, accessFlags := 25, slot := 14, constantValue := 0 }, { name := "T_BYTE", type := .int, accessFlags := 25, slot := 15, constantValue := 0 }, { name := "T_SHORT", type := .int, accessFlags := 25, slot := 16, constantValue := 0 }, { name := "T_INT", type := .int, accessFlags := 25, slot := 17, constantValue := 0 }, { name := "T_LONG", type := .int, accessFlags := 25, slot := 18, constantValue := 0 }, { name := "JLA", type := (.object "jdk/internal/access/JavaLangAccess"), accessFlags := 26, slot := 19, constantValue := 0 }, { name := "SOFT_MAX_ARRAY_LENGTH", type := .int, accessFlags := 25, slot := 20, constantValue := 0 }]
  methods := #[k8m0, k8m1]
  instanceTypes := #[]
  staticTypes := #[(.object "jdk/internal/misc/Unsafe"), .boolean, .int, .int, .int, .int, .int, .int, .int, .int, .int, .int, .int, .int, .int, .int, .int, .int, .int, (.object "jdk/internal/access/JavaLangAccess"), .int]
  resolved := Array.replicate 378 none
  statics := none }

def pool9 : Array CpInfo := pool [(2, .class_ 4), (1, u "com/example/shapelint/shapelint/io/XmlEncodingFamily"), (14, .class_ 20), (0, u "com/example/shapelint/shapelint/io/XmlEncodingFamily$1")] 11

/-- com/example/shapelint/shapelint/io/XmlEncodingFamily$1 -/
def k9 : Class := { plain "com/example/shapelint/shapelint/io/XmlEncodingFamily$1" (some 6) with
  accessFlags := 16432
  interfaces := #[]
  cf := some (fileOf pool9 19 #[.nestHost 2] #[] 16432 2 #[] #[])
  fields := #[]
  methods := #[]
  instanceTypes := #[(.object "java/lang/String"), .int, .int, .int, .boolean, (.array .byte), (.array .byte)]
  staticTypes := #[]
  resolved := Array.replicate 32 none
  statics := none }

def pool10 : Array CpInfo := pool [(1, u "java/lang/Cloneable"), (0, .class_ 1), (0, u "java/lang/Object"), (0, .class_ 3)] 3

/-- java/lang/Cloneable -/
def k10 : Class := { plain "java/lang/Cloneable" (some 0) with
  accessFlags := 1537
  interfaces := #[]
  cf := some (fileOf pool10 2 #[] #[] 1537 4 #[] #[])
  fields := #[]
  methods := #[]
  instanceTypes := #[]
  staticTypes := #[]
  resolved := Array.replicate 8 none
  statics := none }

/-- the primitive byte -/
def k11 : Class := { plain "byte" none with kind := .primitive 'B', accessFlags := 0x411 }
/-- [B -/
def k12 : Class := { plain "[B" (some 0) with kind := .array 11 .byte, interfaces := #[10, 4], accessFlags := 1041 }

/-- the primitive int -/
def k13 : Class := { plain "int" none with kind := .primitive 'I', accessFlags := 0x411 }
/-- [I -/
def k14 : Class := { plain "[I" (some 0) with kind := .array 13 .int, interfaces := #[10, 4], accessFlags := 1041 }

def heap : Heap := #[{ cls := 6, slots := #[.ref 1, .ref 2, .ref 3, .ref 4, .ref 5, .ref 6, .int 0, .null], vm := .statics 6 },
  { cls := 6, slots := #[.null, .int 0, .int 0, .int 1, .int 0, .ref 7, .null], vm := .none },
  { cls := 6, slots := #[.null, .int 1, .int 0, .int 1, .int 0, .ref 8, .null], vm := .none },
  { cls := 6, slots := #[.null, .int 2, .int 0, .int 1, .int 0, .ref 9, .null], vm := .none },
  { cls := 6, slots := #[.null, .int 3, .int 0, .int 1, .int 0, .ref 10, .null], vm := .none },
  { cls := 6, slots := #[.null, .int 4, .int 0, .int 1, .int 0, .ref 11, .null], vm := .none },
  { cls := 9, slots := #[.null, .int 5, .int 0, .int 1, .int 0, .ref 12, .null], vm := .none },
  { cls := 12, slots := #[.int (-17), .int (-69), .int (-65)], vm := .none },
  { cls := 12, slots := #[.int (-2), .int (-1)], vm := .none },
  { cls := 12, slots := #[.int (-1), .int (-2)], vm := .none },
  { cls := 12, slots := #[], vm := .none },
  { cls := 12, slots := #[], vm := .none },
  { cls := 12, slots := #[], vm := .none }]
def classes : Array Class := #[k0, k1, k2, k3, k4, k5, k6, k7, k8, k9, k10, k11, k12, k13, k14]
def interned : List (Array UInt16 × Addr) := []
def slotsUsed : Nat := 57
def theMethod : MethodId := ⟨1, 1⟩
def args0 : Array Value := #[.int 5, .int 6, .int 7, .int 8, .int 9, .int 3]
def aboutOver (below : List Frame) : State where
  vm := { classes := classes, interned := interned.toArray }
  heap := heap
  slotsUsed := slotsUsed
  threads := #[{ frames := .invoking theMethod args0 :: below }]
def below0 : List Frame := [.native { method := ⟨0, 0⟩, args := #[] }]
def about1 : State := aboutOver below0
def p0 : Program := .bare "" "" ""
def e0 : Env := launch0.env 0 0 0
theorem w_frames : about1.frames = Frame.invoking theMethod args0 :: below0 := rfl
set_option maxRecDepth 65536 in
theorem w_args : argsFit about1.vm theMethod args0 = true := by decide +kernel
set_option maxRecDepth 65536 in
theorem w_heap : heapFits about1 = true := by decide +kernel
set_option maxRecDepth 65536 in
theorem w_runnable : about1.curStatus? = some .runnable := by decide +kernel
set_option maxRecDepth 65536 in
theorem w_alone : about1.alone = true := by decide +kernel
set_option maxRecDepth 65536 in
theorem w_named : about1.methodNamed? x = some theMethod := by decide +kernel
set_option maxRecDepth 65536 in
theorem w_hears : about1.hears theMethod below0 = true := by decide +kernel
set_option maxRecDepth 65536 in
theorem w_ripe : about1.ripe theMethod args0 below0 = true := by decide +kernel
theorem w_running : about1.status = .running := rfl
set_option maxRecDepth 65536 in
theorem w_room : about1.hasRoom e0.platform room_1 = true :=
  launch0.hasRoom_least _ room_1 (by decide +kernel) (by decide +kernel) (by decide +kernel) (by decide +kernel) (by decide +kernel) (by decide +kernel)
theorem allAtoms_all (ts : List Jvm.Cond) (a : Array Jvm.Value) (st : Jvm.State) : (allAtoms ts).before a st = ts.all (fun c => c.before a st) := by
  induction ts with
  | nil => rfl
  | cons c t ih =>
    show (Jvm.Cond.and c (allAtoms t)).before a st = _
    rw [Jvm.Cond.before_and, ih, List.all_cons]
def words1 : List Jvm.Cond := Jvm.Cond.code x code maxLocals ret :: tables_1
/-- a 'code' word, met by the world's own term for the bytes: nothing is compared byte by byte -/
theorem code_word {y : MethodName} {bytes : ByteArray} {mx : Nat} {rt : Option FieldType} {a : Array Value} {s : State} {m : MethodId} {meth : Method} {c : Code} (h1 : s.methodNamed? y = some m) (h2 : s.vm.method? m = some meth) (h3 : meth.code = some c) (h4 : c.code = bytes)
    (h5 : (c.maxLocals == mx && c.exceptionTable.isEmpty && decide (c.maxStack ≤ mostOperands) && decide (meth.sig.returnType = rt) && !meth.locks && decide (parseMethodDescriptor y.desc = some meth.sig)) = true) : (Jvm.Cond.code y bytes mx rt).before a s = true := by
  simp only [Bool.and_eq_true, beq_iff_eq, Bool.not_eq_true', decide_eq_true_eq] at h5
  obtain ⟨⟨⟨⟨⟨g1, g2⟩, g3⟩, g4⟩, g5⟩, g6⟩ := h5
  simp [Cond.before, Cond.holds, Cond.value, h1, h2, h3, h4, g1, g2, g3, g4, g5, g6]
def isCode : Jvm.Cond → Bool
  | .code _ _ _ _ => true
  | _ => false
theorem all_split {L : List Jvm.Cond} {P : Jvm.Cond → Bool} (h1 : L.all (fun c => isCode c || P c) = true) (h2 : ∀ c ∈ L.filter isCode, P c = true) : L.all P = true := by
  refine List.all_eq_true.mpr fun c hc => ?_
  have h := List.all_eq_true.mp h1 c hc
  rcases Bool.eq_false_or_eq_true (isCode c) with hi | hi
  · exact h2 c (List.mem_filter.mpr ⟨hc, hi⟩)
  · simpa [hi] using h
set_option maxRecDepth 65536 in
theorem w_c0 : (Jvm.Cond.code x code maxLocals ret).before args0 about1 = true := code_word (m := ⟨1, 1⟩) (meth := k1m1) (c := k1c1) (by decide +kernel) rfl rfl rfl (by decide +kernel)
set_option maxRecDepth 65536 in
theorem w_c1 : (Jvm.Cond.code ({ cls := "com/example/shapelint/shapelint/io/XmlEncodingFamilyByteOrderMarkLengthPinLaw", name := "pick", desc := "(I)Lcom/example/shapelint/shapelint/io/XmlEncodingFamily;" } : Jvm.MethodName) method_3_code (1 : Nat) (Option.some (Jvm.ClassFile.FieldType.object "com/example/shapelint/shapelint/io/XmlEncodingFamily"))).before args0 about1 = true := code_word (m := ⟨1, 2⟩) (meth := k1m2) (c := k1c2) (by decide +kernel) rfl rfl rfl (by decide +kernel)
set_option maxRecDepth 65536 in
theorem w_c2 : (Jvm.Cond.code ({ cls := "com/example/shapelint/shapelint/io/XmlEncodingFamily", name := "byteOrderMarkLength", desc := "([B)I" } : Jvm.MethodName) prog_14_method_6_code (2 : Nat) (Option.some Jvm.ClassFile.FieldType.int)).before args0 about1 = true := code_word (m := ⟨6, 0⟩) (meth := k6m0) (c := k6c0) (by decide +kernel) rfl rfl rfl (by decide +kernel)
set_option maxRecDepth 65536 in
theorem w_c3 : (Jvm.Cond.code ({ cls := "com/example/shapelint/shapelint/io/XmlEncodingFamily", name := "startsWith", desc := "([B[B)Z" } : Jvm.MethodName) prog_14_method_9_code (2 : Nat) (Option.some Jvm.ClassFile.FieldType.boolean)).before args0 about1 = true := code_word (m := ⟨6, 1⟩) (meth := k6m1) (c := k6c1) (by decide +kernel) rfl rfl rfl (by decide +kernel)
set_option maxRecDepth 65536 in
theorem w_c4 : (Jvm.Cond.code ({ cls := "java/util/Arrays", name := "equals", desc := "([BII[BII)Z" } : Jvm.MethodName) jdk_65_method_90_code (8 : Nat) (Option.some Jvm.ClassFile.FieldType.boolean)).before args0 about1 = true := code_word (m := ⟨7, 2⟩) (meth := k7m2) (c := k7c2) (by decide +kernel) rfl rfl rfl (by decide +kernel)
set_option maxRecDepth 65536 in
theorem w_c5 : (Jvm.Cond.code ({ cls := "java/util/Arrays", name := "rangeCheck", desc := "(III)V" } : Jvm.MethodName) jdk_65_method_30_code (3 : Nat) (Option.none : Option Jvm.ClassFile.FieldType)).before args0 about1 = true := code_word (m := ⟨7, 1⟩) (meth := k7m1) (c := k7c1) (by decide +kernel) rfl rfl rfl (by decide +kernel)
set_option maxRecDepth 65536 in
theorem w_c6 : (Jvm.Cond.code ({ cls := "jdk/internal/util/ArraysSupport", name := "mismatch", desc := "([BI[BII)I" } : Jvm.MethodName) jdk_48_method_14_code (8 : Nat) (Option.some Jvm.ClassFile.FieldType.int)).before args0 about1 = true := code_word (m := ⟨8, 1⟩) (meth := k8m1) (c := k8c1) (by decide +kernel) rfl rfl rfl (by decide +kernel)
def codes1 : List Jvm.Cond := [Jvm.Cond.code x code maxLocals ret, Jvm.Cond.code ({ cls := "com/example/shapelint/shapelint/io/XmlEncodingFamilyByteOrderMarkLengthPinLaw", name := "pick", desc := "(I)Lcom/example/shapelint/shapelint/io/XmlEncodingFamily;" } : Jvm.MethodName) method_3_code (1 : Nat) (Option.some (Jvm.ClassFile.FieldType.object "com/example/shapelint/shapelint/io/XmlEncodingFamily")), Jvm.Cond.code ({ cls := "com/example/shapelint/shapelint/io/XmlEncodingFamily", name := "byteOrderMarkLength", desc := "([B)I" } : Jvm.MethodName) prog_14_method_6_code (2 : Nat) (Option.some Jvm.ClassFile.FieldType.int), Jvm.Cond.code ({ cls := "com/example/shapelint/shapelint/io/XmlEncodingFamily", name := "startsWith", desc := "([B[B)Z" } : Jvm.MethodName) prog_14_method_9_code (2 : Nat) (Option.some Jvm.ClassFile.FieldType.boolean), Jvm.Cond.code ({ cls := "java/util/Arrays", name := "equals", desc := "([BII[BII)Z" } : Jvm.MethodName) jdk_65_method_90_code (8 : Nat) (Option.some Jvm.ClassFile.FieldType.boolean), Jvm.Cond.code ({ cls := "java/util/Arrays", name := "rangeCheck", desc := "(III)V" } : Jvm.MethodName) jdk_65_method_30_code (3 : Nat) (Option.none : Option Jvm.ClassFile.FieldType), Jvm.Cond.code ({ cls := "jdk/internal/util/ArraysSupport", name := "mismatch", desc := "([BI[BII)I" } : Jvm.MethodName) jdk_48_method_14_code (8 : Nat) (Option.some Jvm.ClassFile.FieldType.int)]
set_option maxRecDepth 65536 in
theorem codes_eq : words1.filter isCode = codes1 := rfl
theorem w_codes : ∀ c ∈ words1.filter isCode, c.before args0 about1 = true := by
  rw [codes_eq]
  intro c hc
  simp only [codes1, List.mem_cons, List.not_mem_nil, or_false] at hc
  rcases hc with rfl | rfl | rfl | rfl | rfl | rfl | rfl
  · exact w_c0
  · exact w_c1
  · exact w_c2
  · exact w_c3
  · exact w_c4
  · exact w_c5
  · exact w_c6
set_option maxRecDepth 65536 in
theorem w_t1 : (words1.take 24).all (fun c => isCode c || c.before args0 about1) = true := by decide +kernel
set_option maxRecDepth 65536 in
theorem w_t2 : (words1.drop 24).all (fun c => isCode c || c.before args0 about1) = true := by decide +kernel
theorem w_tables : (allAtoms (Jvm.Cond.code x code maxLocals ret :: tables_1)).before args0 about1 = true := by
  rw [allAtoms_all]
  show words1.all (fun c => c.before args0 about1) = true
  refine all_split ?_ w_codes
  rw [← List.take_append_drop 24 words1, List.all_append, w_t1, w_t2]
  rfl
set_option maxRecDepth 65536 in
theorem w_case : (Jvm.Cond.and given_1 narrow_1).before args0 about1 = true := by decide +kernel
theorem w_applies : (headSpec (Jvm.Cond.code x code maxLocals ret :: tables_1) room_1).applies x e0.platform about1 = true :=
  (Spec.applies_iff w_frames).mpr ⟨w_running, w_runnable, w_alone, w_named, w_hears, w_ripe, w_room, w_tables⟩
theorem atStart : AtStart classFile x code maxLocals ret World_1 tables_1 room_1 Calls_1 rest_1 Pre_1 launch0 p0 e0 about1 theMethod args0 below0 :=
  ⟨lists_1, trivial, launch0.admits_env _ _ _, launch0.least_env, fairChoices_fair.cas, fairChoices_fair.clock, w_frames, w_args, w_heap, w_applies, trivial, trivial, w_case⟩
end start1
theorem witness_1 : WitnessClaimed_1 := ⟨start1.p0, start1.e0, start1.about1, start1.theMethod, start1.args0, start1.below0, start1.atStart⟩
end Jvm.Pilot.@@N@@
