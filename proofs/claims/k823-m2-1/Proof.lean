import JvmDerived
import JvmDerived.Pilot.@@N@@Statement
import JvmDerived.Pilot.@@N@@Code
set_option linter.unusedVariables false
set_option linter.unusedSimpArgs false
namespace Jvm.OwnK
open Jvm Sem ClassFile Op Lib Jvm.Stand Jvm.Free Jvm.LawKit Jvm.RoadKit
section A
variable {tabs : List Jvm.Cond} {a0 : Array Value} {Z : State} {own nm : String} {code : ByteArray} {ml : Nat} {ret : Option FieldType} {p : Program} {l : Launch} {e : Env} {R : Room} {s : State} {m : MethodId} {args : Array Value} {below : List Frame} {meth : Method} {c : Code} {n0 : Nat} {T : State} {h : Heap} {k n : Nat} {Q : Option Value → Heap → Prop} {G : Outcome → State → List Loc → Prop} {pc : Nat} {ls : Array Slot} {st : List Value}
/-- what stands fast through a method's walk -/
def Cx (tabs : List Jvm.Cond) (a0 : Array Value) (Z : State) (own nm : String) (code : ByteArray) (ml : Nat) (ret : Option FieldType) (p : Program) (s : State) (m : MethodId) (meth : Method) (c : Code) : Prop :=
  p.tables.exec = Jvm.exec ∧ Z.Warmed39 s.vm ∧ c.code = code ∧ c.maxLocals = ml ∧ s.vm.findClass own = some m.cls ∧ meth.sig.returnType = ret ∧ meth.locks = false ∧ meth.name = nm ∧ ∀ d ∈ tabs, d.before a0 Z = true
/-- where the walk stands: the heap h, k cells and n slots made so far, nothing below n0 written -/
def St (p : Program) (l : Launch) (e : Env) (R : Room) (s : State) (m : MethodId) (args : Array Value) (below : List Frame) (meth : Method) (c : Code) (n0 : Nat) (T : State) (h : Heap) (k n : Nat) : Prop :=
  ∃ locs, Stand p l e R s m args below meth c T locs k n ∧ T.heap = h ∧ Fr n0 locs ∧ n0 ≤ s.heap.size
/-- from this frame the method ends, and returns what Q says -/
def Run (p : Program) (e : Env) (below : List Frame) (n0 : Nat) (Q : Option Value → Heap → Prop) (G : Outcome → State → List Loc → Prop) (m : MethodId) (T : State) (pc : Nat) (ls : Array Slot) (st : List Value) : Prop :=
  ∃ s₂ o, Steps p.tables e below (T.setTop (mkF m pc ls st)) s₂ ∧ s₂.status = .running ∧ Ended s₂ below o ∧ ∃ v L, o = .returned v ∧ (Q v s₂.heap ∧ Fr n0 L) ∧ G o s₂ L
theorem Run.step {T' : State} {pc' : Nat} {ls' : Array Slot} {st' : List Value} (f : ∀ t, Steps p.tables e below (T'.setTop (mkF m pc' ls' st')) t → Steps p.tables e below (T.setTop (mkF m pc ls st)) t) (r : Run p e below n0 Q G m T' pc' ls' st') : Run p e below n0 Q G m T pc ls st := by
  obtain ⟨s₂, o, h1, h2⟩ := r
  exact ⟨s₂, o, f _ h1, h2⟩
theorem Run.steps {T' : State} {pc' : Nat} {ls' : Array Slot} {st' : List Value} (f : Steps p.tables e below (T.setTop (mkF m pc ls st)) (T'.setTop (mkF m pc' ls' st'))) (r : Run p e below n0 Q G m T' pc' ls' st') : Run p e below n0 Q G m T pc ls st := Run.step (fun _ q => f.trans q) r
theorem Run.cast {st' : List Value} (q : st = st') (r : Run p e below n0 Q G m T pc ls st') : Run p e below n0 Q G m T pc ls st := q ▸ r
theorem St.at' (X : St p l e R s m args below meth c n0 T h k n) : Jvm.At T m c below := by obtain ⟨_, X, -⟩ := X; exact X.here
theorem St.sz (X : St p l e R s m args below meth c n0 T h k n) : n0 ≤ h.size := by
  obtain ⟨_, X, rfl, -, q⟩ := X
  exact Nat.le_trans q X.same.2.1
theorem Cx.d {r : Except DecodeError (Instr × Nat)} (C : Cx tabs a0 Z own nm code ml ret p s m meth c) (q : decode code pc = r) : decode c.code pc = r := hb C.2.2.1 q
theorem Cx.w {d : Jvm.Cond} (C : Cx tabs a0 Z own nm code ml ret p s m meth c) (q : d ∈ tabs) : d.before a0 Z = true := C.2.2.2.2.2.2.2.2 d q
theorem s_iloadN (pc' : Nat) (C : Cx tabs a0 Z own nm code ml ret p s m meth c) (X : St p l e R s m args below meth c n0 T h k n) {i : Fin 4} {v : Int32} (hd : decode code pc = .ok (.iload_n i, 1)) (hl : ls[i.val]? = some (.val (.int v))) (r : Run p e below n0 Q G m T pc' ls (.int v :: st)) (hp : pc + 1 = pc' := by rfl) : Run p e below n0 Q G m T pc ls st := by
  subst hp
  exact Run.step (fun t q => XS.iloadN X.at' C.1 rfl (C.d hd) hl q) r
theorem s_iload (pc' : Nat) (C : Cx tabs a0 Z own nm code ml ret p s m meth c) (X : St p l e R s m args below meth c n0 T h k n) {i : Nat} {v : Int32} (hd : decode code pc = .ok (.iload i, 2)) (hl : ls[i]? = some (.val (.int v))) (r : Run p e below n0 Q G m T pc' ls (.int v :: st)) (hp : pc + 2 = pc' := by rfl) : Run p e below n0 Q G m T pc ls st := by
  subst hp
  exact Run.step (fun t q => XS.iload X.at' C.1 rfl (C.d hd) hl q) r
theorem s_aloadN (pc' : Nat) (C : Cx tabs a0 Z own nm code ml ret p s m meth c) (X : St p l e R s m args below meth c n0 T h k n) {i : Fin 4} {v : Value} (hd : decode code pc = .ok (.aload_n i, 1)) (hl : ls[i.val]? = some (.val v)) (hv : v.isRef = true) (r : Run p e below n0 Q G m T pc' ls (v :: st)) (hp : pc + 1 = pc' := by rfl) : Run p e below n0 Q G m T pc ls st := by
  subst hp
  exact Run.step (fun t q => XS.aloadN X.at' C.1 rfl (C.d hd) hl hv q) r
theorem s_aload (pc' : Nat) (C : Cx tabs a0 Z own nm code ml ret p s m meth c) (X : St p l e R s m args below meth c n0 T h k n) {i : Nat} {v : Value} (hd : decode code pc = .ok (.aload i, 2)) (hl : ls[i]? = some (.val v)) (hv : v.isRef = true) (r : Run p e below n0 Q G m T pc' ls (v :: st)) (hp : pc + 2 = pc' := by rfl) : Run p e below n0 Q G m T pc ls st := by
  subst hp
  exact Run.step (fun t q => XS.aload X.at' C.1 rfl (C.d hd) hl hv q) r
theorem s_istoreN (pc' : Nat) (C : Cx tabs a0 Z own nm code ml ret p s m meth c) (X : St p l e R s m args below meth c n0 T h k n) {i : Fin 4} {v : Int32} {l' : Array Slot} (hd : decode code pc = .ok (.istore_n i, 1)) (hl : storeLocals ls i.val (.int v) = some l') (r : Run p e below n0 Q G m T pc' l' st) (hp : pc + 1 = pc' := by rfl) : Run p e below n0 Q G m T pc ls (.int v :: st) := by
  subst hp
  exact Run.step (fun t q => XS.istoreN X.at' C.1 rfl (C.d hd) rfl hl q) r
theorem s_istore (pc' : Nat) (C : Cx tabs a0 Z own nm code ml ret p s m meth c) (X : St p l e R s m args below meth c n0 T h k n) {i : Nat} {v : Int32} {l' : Array Slot} (hd : decode code pc = .ok (.istore i, 2)) (hl : storeLocals ls i (.int v) = some l') (r : Run p e below n0 Q G m T pc' l' st) (hp : pc + 2 = pc' := by rfl) : Run p e below n0 Q G m T pc ls (.int v :: st) := by
  subst hp
  exact Run.step (fun t q => XS.istore X.at' C.1 rfl (C.d hd) rfl hl q) r
theorem s_astore (pc' : Nat) (C : Cx tabs a0 Z own nm code ml ret p s m meth c) (X : St p l e R s m args below meth c n0 T h k n) {i : Nat} {v : Value} {l' : Array Slot} (hd : decode code pc = .ok (.astore i, 2)) (hv : v.isRef = true) (hl : storeLocals ls i v = some l') (r : Run p e below n0 Q G m T pc' l' st) (hp : pc + 2 = pc' := by rfl) : Run p e below n0 Q G m T pc ls (v :: st) := by
  subst hp
  exact Run.step (fun t q => XS.astore X.at' C.1 rfl (C.d hd) rfl hv hl q) r
theorem s_iconst (pc' : Nat) (C : Cx tabs a0 Z own nm code ml ret p s m meth c) (X : St p l e R s m args below meth c n0 T h k n) {i : Int} {z : Int32} (hd : decode code pc = .ok (.iconst i, 1)) (hz : Int32.ofInt i = z) (r : Run p e below n0 Q G m T pc' ls (.int z :: st)) (hp : pc + 1 = pc' := by rfl) : Run p e below n0 Q G m T pc ls st := by
  subst hp
  exact Run.step (fun t q => XS.iconst X.at' C.1 rfl (C.d hd) (by rw [hz]; exact q)) r
theorem s_bipush (pc' : Nat) (C : Cx tabs a0 Z own nm code ml ret p s m meth c) (X : St p l e R s m args below meth c n0 T h k n) {i : Int} {z : Int32} (hd : decode code pc = .ok (.bipush i, 2)) (hz : (Int8.ofInt i).toInt32 = z) (r : Run p e below n0 Q G m T pc' ls (.int z :: st)) (hp : pc + 2 = pc' := by rfl) : Run p e below n0 Q G m T pc ls st := by
  subst hp
  exact Run.step (fun t q => XS.bipush X.at' C.1 rfl (C.d hd) (by rw [hz]; exact q)) r
theorem s_sipush (pc' : Nat) (C : Cx tabs a0 Z own nm code ml ret p s m meth c) (X : St p l e R s m args below meth c n0 T h k n) {i : Int} {z : Int32} (hd : decode code pc = .ok (.sipush i, 3)) (hz : (Int16.ofInt i).toInt32 = z) (r : Run p e below n0 Q G m T pc' ls (.int z :: st)) (hp : pc + 3 = pc' := by rfl) : Run p e below n0 Q G m T pc ls st := by
  subst hp
  exact Run.step (fun t q => XS.sipush X.at' C.1 rfl (C.d hd) (by rw [hz]; exact q)) r
theorem s_iadd (pc' : Nat) (C : Cx tabs a0 Z own nm code ml ret p s m meth c) (X : St p l e R s m args below meth c n0 T h k n) {x y : Int32} (hd : decode code pc = .ok (.iadd, 1)) (r : Run p e below n0 Q G m T pc' ls (.int (x + y) :: st)) (hp : pc + 1 = pc' := by rfl) : Run p e below n0 Q G m T pc ls (.int y :: .int x :: st) := by
  subst hp
  exact Run.step (fun t q => XS.iadd X.at' C.1 rfl (C.d hd) rfl q) r
theorem s_iand (pc' : Nat) (C : Cx tabs a0 Z own nm code ml ret p s m meth c) (X : St p l e R s m args below meth c n0 T h k n) {x y : Int32} (hd : decode code pc = .ok (.iand, 1)) (r : Run p e below n0 Q G m T pc' ls (.int (x &&& y) :: st)) (hp : pc + 1 = pc' := by rfl) : Run p e below n0 Q G m T pc ls (.int y :: .int x :: st) := by
  subst hp
  exact Run.step (fun t q => XS.iand X.at' C.1 rfl (C.d hd) rfl q) r
theorem s_iushr (pc' : Nat) (C : Cx tabs a0 Z own nm code ml ret p s m meth c) (X : St p l e R s m args below meth c n0 T h k n) {x y : Int32} (hd : decode code pc = .ok (.iushr, 1)) (r : Run p e below n0 Q G m T pc' ls (.int ((x.toUInt32 >>> (y &&& 31).toUInt32).toInt32) :: st)) (hp : pc + 1 = pc' := by rfl) : Run p e below n0 Q G m T pc ls (.int y :: .int x :: st) := by
  subst hp
  exact Run.step (fun t q => XT.iushr X.at' C.1 rfl (C.d hd) rfl q) r
theorem s_irem (pc' : Nat) (C : Cx tabs a0 Z own nm code ml ret p s m meth c) (X : St p l e R s m args below meth c n0 T h k n) {x y : Int32} (hd : decode code pc = .ok (.irem, 1)) (hy : y ≠ 0) (r : Run p e below n0 Q G m T pc' ls (.int (x % y) :: st)) (hp : pc + 1 = pc' := by rfl) : Run p e below n0 Q G m T pc ls (.int y :: .int x :: st) := by
  subst hp
  exact Run.step (fun t q => XS.irem X.at' C.1 rfl (C.d hd) rfl hy (by rw [show x - x / y * y = x % y from irem_eq_mod x y]; exact q)) r
theorem s_dup (pc' : Nat) (C : Cx tabs a0 Z own nm code ml ret p s m meth c) (X : St p l e R s m args below meth c n0 T h k n) {v : Value} (hd : decode code pc = .ok (.dup, 1)) (hc : v.category = 1) (r : Run p e below n0 Q G m T pc' ls (v :: v :: st)) (hp : pc + 1 = pc' := by rfl) : Run p e below n0 Q G m T pc ls (v :: st) := by
  subst hp
  exact Run.step (fun t q => XS.dup X.at' C.1 rfl (C.d hd) rfl hc q) r
theorem s_goto (pc' : Nat) (C : Cx tabs a0 Z own nm code ml ret p s m meth c) (X : St p l e R s m args below meth c n0 T h k n) {o : Int} (hd : decode code pc = .ok (.goto o, 3)) (r : Run p e below n0 Q G m T pc' ls st) (hp : 0 ≤ (pc : Int) + o ∧ ((pc : Int) + o).toNat = pc' := by decide) : Run p e below n0 Q G m T pc ls st := by
  exact Run.step (fun t q => XS.goto X.at' C.1 rfl rfl (C.d hd) hp.1 hp.2 q) r
theorem s_icmp_le (pY pN : Nat) (C : Cx tabs a0 Z own nm code ml ret p s m meth c) (X : St p l e R s m args below meth c n0 T h k n) {x y : Int32} {o : Int} (hd : decode code pc = .ok (.if_icmp .le o, 3)) (ry : ¬ y < x → Run p e below n0 Q G m T pY ls st) (rn : y < x → Run p e below n0 Q G m T pN ls st) (hp : 0 ≤ (pc : Int) + o ∧ ((pc : Int) + o).toNat = pY ∧ pc + 3 = pN := by decide) : Run p e below n0 Q G m T pc ls (.int y :: .int x :: st) := by
  by_cases g : y < x
  · obtain rfl := hp.2.2
    exact Run.step (fun t q => XS.icmpNo X.at' C.1 rfl (C.d hd) rfl (tlt g).2.2.2 q) (rn g)
  · exact Run.step (fun t q => XS.icmpYes X.at' C.1 rfl rfl (C.d hd) rfl (flt g).2.2.2 hp.1 hp.2.1 q) (ry g)
theorem s_if_le (pY pN : Nat) (C : Cx tabs a0 Z own nm code ml ret p s m meth c) (X : St p l e R s m args below meth c n0 T h k n) {x : Int32} {o : Int} (hd : decode code pc = .ok (.ifCond .le o, 3)) (ry : ¬ (0 : Int32) < x → Run p e below n0 Q G m T pY ls st) (rn : (0 : Int32) < x → Run p e below n0 Q G m T pN ls st) (hp : 0 ≤ (pc : Int) + o ∧ ((pc : Int) + o).toNat = pY ∧ pc + 3 = pN := by decide) : Run p e below n0 Q G m T pc ls (.int x :: st) := by
  by_cases g : (0 : Int32) < x
  · obtain rfl := hp.2.2
    exact Run.step (fun t q => XS.ifNo X.at' C.1 rfl (C.d hd) rfl ((if0 _ _).trans (tlt g).2.2.2) q) (rn g)
  · exact Run.step (fun t q => XS.ifYes X.at' C.1 rfl rfl (C.d hd) rfl ((if0 _ _).trans (flt g).2.2.2) hp.1 hp.2.1 q) (ry g)
theorem s_if_eq (pY pN : Nat) (C : Cx tabs a0 Z own nm code ml ret p s m meth c) (X : St p l e R s m args below meth c n0 T h k n) {x : Int32} {o : Int} (hd : decode code pc = .ok (.ifCond .eq o, 3)) (ry : x = (0 : Int32) → Run p e below n0 Q G m T pY ls st) (rn : ¬ x = (0 : Int32) → Run p e below n0 Q G m T pN ls st) (hp : 0 ≤ (pc : Int) + o ∧ ((pc : Int) + o).toNat = pY ∧ pc + 3 = pN := by decide) : Run p e below n0 Q G m T pc ls (.int x :: st) := by
  by_cases g : x = (0 : Int32)
  · exact Run.step (fun t q => XS.ifYes X.at' C.1 rfl rfl (C.d hd) rfl ((if0 _ _).trans (teq g).1) hp.1 hp.2.1 q) (ry g)
  · obtain rfl := hp.2.2
    exact Run.step (fun t q => XS.ifNo X.at' C.1 rfl (C.d hd) rfl ((if0 _ _).trans (feq g).1) q) (rn g)
theorem s_icmp_ne (pY pN : Nat) (C : Cx tabs a0 Z own nm code ml ret p s m meth c) (X : St p l e R s m args below meth c n0 T h k n) {x y : Int32} {o : Int} (hd : decode code pc = .ok (.if_icmp .ne o, 3)) (ry : ¬ x = y → Run p e below n0 Q G m T pY ls st) (rn : x = y → Run p e below n0 Q G m T pN ls st) (hp : 0 ≤ (pc : Int) + o ∧ ((pc : Int) + o).toNat = pY ∧ pc + 3 = pN := by decide) : Run p e below n0 Q G m T pc ls (.int y :: .int x :: st) := by
  by_cases g : x = y
  · obtain rfl := hp.2.2
    exact Run.step (fun t q => XS.icmpNo X.at' C.1 rfl (C.d hd) rfl (teq g).2 q) (rn g)
  · exact Run.step (fun t q => XS.icmpYes X.at' C.1 rfl rfl (C.d hd) rfl (feq g).2 hp.1 hp.2.1 q) (ry g)
theorem s_if_ne (pY pN : Nat) (C : Cx tabs a0 Z own nm code ml ret p s m meth c) (X : St p l e R s m args below meth c n0 T h k n) {x : Int32} {o : Int} (hd : decode code pc = .ok (.ifCond .ne o, 3)) (ry : ¬ x = (0 : Int32) → Run p e below n0 Q G m T pY ls st) (rn : x = (0 : Int32) → Run p e below n0 Q G m T pN ls st) (hp : 0 ≤ (pc : Int) + o ∧ ((pc : Int) + o).toNat = pY ∧ pc + 3 = pN := by decide) : Run p e below n0 Q G m T pc ls (.int x :: st) := by
  by_cases g : x = (0 : Int32)
  · obtain rfl := hp.2.2
    exact Run.step (fun t q => XS.ifNo X.at' C.1 rfl (C.d hd) rfl ((if0 _ _).trans (teq g).2) q) (rn g)
  · exact Run.step (fun t q => XS.ifYes X.at' C.1 rfl rfl (C.d hd) rfl ((if0 _ _).trans (feq g).2) hp.1 hp.2.1 q) (ry g)
theorem s_ldcInt (pc' : Nat) (C : Cx tabs a0 Z own nm code ml ret p s m meth c) (X : St p l e R s m args below meth c n0 T h k n) {idx : Nat} {z : Int32} (hd : decode code pc = .ok (.ldc idx, 2)) (w : Jvm.Cond.constant own idx z ∈ tabs) (r : Run p e below n0 Q G m T pc' ls (.int z :: st)) (hp : pc + 2 = pc' := by rfl) : Run p e below n0 Q G m T pc ls st := by
  subst hp
  obtain ⟨_, Y, -⟩ := X
  exact Run.step (Y.ldcInt C.1 C.2.2.2.2.1 (mvT C.2.1 (C.w w)) (g := mkF m pc ls st) rfl (C.d hd)) r
theorem FE_mono {kc ks : Nat} (hk : k ≤ kc) (hn : n ≤ ks) : ∀ (v : Option Value) (t : State) (L : List Loc), FrameEnd s (.returned v) t L k n → FrameEnd s (.returned v) t L kc ks := fun v t L h => ⟨h.1, h.2.1, h.2.2.mono hk hn⟩
theorem Run.done (C : Cx tabs a0 Z own nm code ml ret p s m meth c) (X : St p l e R s m args below meth c n0 T h k n) {v : Option Value} (hv : ret = none → v = none) (hG : ∀ (v : Option Value) (t : State) (L : List Loc), FrameEnd s (.returned v) t L k n → G (.returned v) t L) (q : Q v h) (f : ∀ locs fs, Stand p l e R s m args below meth c T locs k n → (∀ (f : JFrame) (acts : List Action), f.method = m → f.locked = none → f.entered = [] → (doReturn e (T.setTop f) acts v).1 = T.setFrames fs) → Steps p.tables e below (T.setTop (mkF m pc ls st)) (T.setFrames fs)) : Run p e below n0 Q G m T pc ls st := by
  obtain ⟨locs, Y, rfl, N, -⟩ := X
  obtain ⟨fs, hr, hrun, hended, hW, hsame⟩ := Y.leave (v := v) (by rw [C.2.2.2.2.2.1]; exact hv) C.2.2.2.2.2.2.1
  exact ⟨_, _, f locs fs Y hr, hrun, hended, _, _, rfl, ⟨q, N⟩, hG _ _ _ ⟨⟨_, rfl⟩, hW, hsame⟩⟩
theorem s_return (C : Cx tabs a0 Z own nm code ml ret p s m meth c) (X : St p l e R s m args below meth c n0 T h k n) (hd : decode code pc = .ok (.return_, 1)) (hr : ret = none) (q : Q none h) (hG : ∀ (v : Option Value) (t : State) (L : List Loc), FrameEnd s (.returned v) t L k n → G (.returned v) t L := by exact FE_mono (by decide) (by decide)) : Run p e below n0 Q G m T pc ls [] := by
  subst hr
  exact Run.done C X (fun _ => rfl) hG q (fun locs fs Y hr => Y.returnOut C.1 C.2.2.2.2.2.1 (C.d hd) hr)
theorem s_ireturn (C : Cx tabs a0 Z own nm code ml ret p s m meth c) (X : St p l e R s m args below meth c n0 T h k n) {z : Int32} (hd : decode code pc = .ok (.ireturn, 1)) (hr : ret = some .int) (q : Q (some (.int z)) h) (hG : ∀ (v : Option Value) (t : State) (L : List Loc), FrameEnd s (.returned v) t L k n → G (.returned v) t L := by exact FE_mono (by decide) (by decide)) : Run p e below n0 Q G m T pc ls (.int z :: st) := by
  subst hr
  refine Run.done C X (fun w => by cases w) hG q (fun locs fs Y hr => ?_)
  exact retOut Y C.1 C.2.2.2.2.2.1 (t := .int) rfl (Or.inl ⟨rfl, Or.inl rfl, _, rfl⟩) (C.d hd) hr
theorem s_nreturn (C : Cx tabs a0 Z own nm code ml ret p s m meth c) (X : St p l e R s m args below meth c n0 T h k n) {z z' : Int32} {t : FieldType} (hd : decode code pc = .ok (.ireturn, 1)) (hr : ret = some t) (ht : t = .boolean ∨ t = .byte ∨ t = .char ∨ t = .short) (hz : nar t z = z') (q : Q (some (.int z')) h) (hG : ∀ (v : Option Value) (t : State) (L : List Loc), FrameEnd s (.returned v) t L k n → G (.returned v) t L := by exact FE_mono (by decide) (by decide)) : Run p e below n0 Q G m T pc ls (.int z :: st) := by
  subst hr hz
  refine Run.done C X (fun w => by cases w) hG q (fun locs fs Y hr => ?_)
  exact retN Y C.1 C.2.2.2.2.2.1 ht (C.d hd) hr
theorem s_getfield (pc' : Nat) (C : Cx tabs a0 Z own nm code ml ret p s m meth c) (X : St p l e R s m args below meth c n0 T h k n) {R0 O fn d host : String} {idx : Nat} {a : Addr} {v : Value} (hd : decode code pc = .ok (.getfield idx, 3)) (w : Jvm.Cond.fieldLink own idx R0 fn d ∈ tabs ∨ Jvm.Cond.fieldLinkNest own idx R0 fn d host ∈ tabs) (via : Via Z R0 O fn d) (F : Fld Z h a O fn d v) (r : ∀ T', St p l e R s m args below meth c n0 T' h k n → Run p e below n0 Q G m T' pc' ls (v :: st)) (hp : pc + 3 = pc' := by rfl) : Run p e below n0 Q G m T pc ls (.ref a :: st) := by
  subst hp
  obtain ⟨locs, Y, eT, N, q⟩ := X
  obtain ⟨T', Y', e', f⟩ := getF (host := host) Y C.1 C.2.1 C.2.2.2.2.1 (w.imp C.w C.w) via eT F (g := mkF m pc ls (.ref a :: st)) rfl rfl (C.d hd)
  exact Run.step f (r T' ⟨locs, Y', e', N, q⟩)
theorem s_putfield (pc' : Nat) (C : Cx tabs a0 Z own nm code ml ret p s m meth c) (X : St p l e R s m args below meth c n0 T h k n) {R0 O fn d host K : String} {idx kk : Nat} {ty : FieldType} {a : Addr} {v old : Value} (hd : decode code pc = .ok (.putfield idx, 3)) (w : Jvm.Cond.fieldLink own idx R0 fn d ∈ tabs ∨ Jvm.Cond.fieldLinkNest own idx R0 fn d host ∈ tabs) (via : Via Z R0 O fn d) (F : Fld Z h a O fn d old) (E : Exa Z h a K) (L : Jvm.Cond.lays K O fn d ∈ tabs ∨ (Jvm.Cond.laysFinal K O fn d ∈ tabs ∧ own = O ∧ nm = "<init>")) (wi : Jvm.Cond.instantiable K kk ∈ tabs) (hty : parseFieldDescriptor d = some ty) (hn : narrow ty v = v) (hf : fits ty v = true) (ge : n0 ≤ a)
    (r : ∀ T' h', St p l e R s m args below meth c n0 T' h' k n → Wr h h' a (RoadKit.slotOf Z O fn d) v → Run p e below n0 Q G m T' pc' ls st) (hp : pc + 3 = pc' := by rfl) : Run p e below n0 Q G m T pc ls (v :: .ref a :: st) := by
  subst hp
  obtain ⟨locs, Y, eT, N, q⟩ := X
  obtain ⟨T', h', Y', e', W, f⟩ := putF (host := host) Y C.1 C.2.1 C.2.2.2.2.1 (w.imp C.w C.w) via eT F E (L.imp C.w fun z => ⟨C.w z.1, z.2.1, C.2.2.2.2.2.2.2.1.trans z.2.2⟩) (C.w wi) hty hn hf (g := mkF m pc ls (v :: .ref a :: st)) rfl rfl (C.d hd)
  exact Run.step f (r T' h' ⟨_, Y', e', Fr.snoc Y' N ge, q⟩ W)
theorem s_new (pc' : Nat) (C : Cx tabs a0 Z own nm code ml ret p s m meth c) (X : St p l e R s m args below meth c n0 T h k n) {K : String} {idx nn : Nat} (hd : decode code pc = .ok (.new idx, 3)) (w1 : Jvm.Cond.classLink own idx K ∈ tabs) (w2 : Jvm.Cond.instantiable K nn ∈ tabs) (w3 : Jvm.Cond.initialized K ∈ tabs)
    (r : ∀ T' h' b, h.size = b → St p l e R s m args below meth c n0 T' h' (k + 1) (n + nn) → Ext h h' → Exa Z h' b K → (∀ {O fn d : String} {ty : FieldType}, Laid Z a0 K O fn d → parseFieldDescriptor d = some ty → Fld Z h' b O fn d (defaultValue ty)) → n0 ≤ b → Run p e below n0 Q G m T' pc' ls (.ref b :: st)) (hp : pc + 3 = pc' := by rfl) (hc : k + 1 ≤ R.cells ∧ n + nn ≤ R.slots := by decide) : Run p e below n0 Q G m T pc ls st := by
  subst hp
  have hz := X.sz
  obtain ⟨locs, Y, eT, N, q⟩ := X
  obtain ⟨T', h', Y', e', E, A, D, -, f⟩ := newO Y C.1 C.2.1 C.2.2.2.2.1 (C.w w1) (C.w w2) (C.w w3) eT (g := mkF m pc ls st) rfl (C.d hd) hc.1 hc.2
  exact Run.step f (r T' h' _ rfl ⟨locs, Y', e', N, q⟩ E A D hz)
theorem s_objInit (pc' : Nat) (C : Cx tabs a0 Z own nm code ml ret p s m meth c) (X : St p l e R s m args below meth c n0 T h k n) {idx W : Nat} {a : Addr} (hd : decode code pc = .ok (.invokespecial idx, 3)) (w1 : Jvm.Cond.methodLink own idx Lib.objectInit ∈ tabs) (w2 : Jvm.Cond.instanceMethod Lib.objectInit ∈ tabs) (w3 : Jvm.Cond.code Lib.objectInit ⟨#[0xb1]⟩ 1 none ∈ tabs) (hsz : ls.size = ml) (hW : (st.map fun v => v.category).sum = W) (hf : 1 ≤ R.frames ∧ W + 12 ≤ R.locals)
    (r : ∀ T', St p l e R s m args below meth c n0 T' h k n → Run p e below n0 Q G m T' pc' ls st) (hp : pc + 3 = pc' := by rfl) : Run p e below n0 Q G m T pc ls (.ref a :: st) := by
  subst hp
  obtain ⟨locs, Y, eT, N, q⟩ := X
  obtain ⟨T', Y', e', f⟩ := initO Y C.1 C.2.1 C.2.2.2.2.1 (C.w w1) (C.w w2) (C.w w3) eT (g := mkF m pc ls (.ref a :: st)) rfl (hsz.trans C.2.2.2.1.symm) rfl (C.d hd) hf.1 (W := W) (by show 2 * 0 + _ ≤ _; rw [hW]; omega) hf.2
  exact Run.step f (r T' ⟨locs, Y', e', N, q⟩)
theorem s_newarray (pc' : Nat) (cap : Nat) (C : Cx tabs a0 Z own nm code ml ret p s m meth c) (X : St p l e R s m args below meth c n0 T h k n) {aty : ArrayType} {z : Int32} (hd : decode code pc = .ok (.newarray aty, 2)) (w : Jvm.Cond.arrayClass (newarray.typeOf aty) ∈ tabs) (hz : ¬ z < 0) (hcap : z.toNatClampNeg ≤ cap)
    (r : ∀ T' h' b kA, h.size = b → St p l e R s m args below meth c n0 T' h' (k + 1) (n + cap) → Ext h h' → Arv Z h' b kA (newarray.typeOf aty) z [] (defaultValue (newarray.typeOf aty)) → n0 ≤ b → Run p e below n0 Q G m T' pc' ls (.ref b :: st)) (hp : pc + 2 = pc' := by rfl) (hc : cap * 8 ≤ 536870912 ∧ k + 1 ≤ R.cells ∧ n + cap ≤ R.slots := by decide) : Run p e below n0 Q G m T pc ls (.int z :: st) := by
  subst hp
  have hs := X.sz
  obtain ⟨locs, Y, eT, N, q⟩ := X
  obtain ⟨T', h', kA, Y', e', E, A, f⟩ := newP Y C.1 C.2.1 (C.w w) eT (g := mkF m pc ls (.int z :: st)) rfl (C.d hd) rfl hz hcap hc.1 hc.2.1 hc.2.2
  exact Run.step f (r T' h' _ kA rfl ⟨locs, Y', e', N, q⟩ E (Arv.new A hz) hs)
theorem s_iastore (pc' : Nat) (i : Nat) (C : Cx tabs a0 Z own nm code ml ret p s m meth c) (X : St p l e R s m args below meth c n0 T h k n) {a : Addr} {kA : ClassId} {z j : Int32} {x : Int32} {vs : List Value} {dv : Value} (hd : decode code pc = .ok (.iastore, 1)) (F : Arv Z h a kA .int z vs dv) (ge : n0 ≤ a) (hj : ¬ j < 0 ∧ j < z) (hi : j.toNatClampNeg = i) (hl : i < vs.length)
    (r : ∀ T' h', St p l e R s m args below meth c n0 T' h' k n → Wr h h' a j.toNatClampNeg (.int x) → Arv Z h' a kA .int z (vs.set i (.int x)) dv → Run p e below n0 Q G m T' pc' ls st) (hp : pc + 1 = pc' := by rfl) : Run p e below n0 Q G m T pc ls (.int x :: .int j :: .ref a :: st) := by
  subst hp
  obtain ⟨locs, Y, eT, N, q⟩ := X
  obtain ⟨cl, A, q1, S, q3, H, G⟩ := F
  obtain ⟨T', h', Y', e', W, f⟩ := stI Y C.1 C.2.1 eT A (j := j) (inb_of S hj) (g := mkF m pc ls (.int x :: .int j :: .ref a :: st)) rfl rfl (C.d hd)
  exact Run.step f (r T' h' ⟨_, Y', e', Fr.snoc Y' N ge, q⟩ W (Arv.set A q1 S q3 H G (rfl) W i hi hl))
theorem s_iaload (pc' : Nat) (C : Cx tabs a0 Z own nm code ml ret p s m meth c) (X : St p l e R s m args below meth c n0 T h k n) {a : Addr} {kA : ClassId} {z j : Int32} {v : Value} {vs : List Value} {dv : Value} (hd : decode code pc = .ok (.iaload, 1)) (F : Arv Z h a kA .int z vs dv) (hj : ¬ j < 0 ∧ j < z) (hv : vs.getD j.toNatClampNeg dv = v)
    (r : Run p e below n0 Q G m T pc' ls (v :: st)) (hp : pc + 1 = pc' := by rfl) : Run p e below n0 Q G m T pc ls (.int j :: .ref a :: st) := by
  subst hp
  obtain ⟨locs, Y, eT, N, q⟩ := X
  obtain ⟨cl, A, q1, S, q3, H, G⟩ := F
  exact Run.step (fun t q => Y.iaload C.1 (j := j) (v := v) (by rw [eT]; exact A.1) (State.isArrayOf_alike C.2.1.alike A.2.1) A.2.2 (inb_of S hj) (H.at (inb_of S hj) hv) (g := mkF m pc ls (.int j :: .ref a :: st)) rfl rfl (C.d hd) t q) r
theorem s_aaload (pc' : Nat) (C : Cx tabs a0 Z own nm code ml ret p s m meth c) (X : St p l e R s m args below meth c n0 T h k n) {a : Addr} {kA : ClassId} {z j : Int32} {v : Value} {ty : FieldType} {vs : List Value} {dv : Value} (hd : decode code pc = .ok (.aaload, 1)) (F : Arv Z h a kA ty z vs dv) (ht : ty.isReference = true) (hj : ¬ j < 0 ∧ j < z) (hv : vs.getD j.toNatClampNeg dv = v)
    (r : Run p e below n0 Q G m T pc' ls (v :: st)) (hp : pc + 1 = pc' := by rfl) : Run p e below n0 Q G m T pc ls (.int j :: .ref a :: st) := by
  subst hp
  obtain ⟨locs, Y, eT, N, q⟩ := X
  obtain ⟨cl, A, q1, S, q3, H, G⟩ := F
  exact Run.step (fun t q => Y.aaload C.1 (j := j) (v := v) (by rw [eT]; exact A.1) (State.isArrayOf_alike C.2.1.alike A.2.1) ht A.2.2 (inb_of S hj) (H.at (inb_of S hj) hv) (g := mkF m pc ls (.int j :: .ref a :: st)) rfl rfl (C.d hd) t q) r
theorem s_arraylength (pc' : Nat) (C : Cx tabs a0 Z own nm code ml ret p s m meth c) (X : St p l e R s m args below meth c n0 T h k n) {a : Addr} {kA : ClassId} {z : Int32} {ty : FieldType} {vs : List Value} {dv : Value} (hd : decode code pc = .ok (.arraylength, 1)) (F : Arv Z h a kA ty z vs dv)
    (r : Run p e below n0 Q G m T pc' ls (.int z :: st)) (hp : pc + 1 = pc' := by rfl) : Run p e below n0 Q G m T pc ls (.ref a :: st) := by
  subst hp
  obtain ⟨locs, Y, eT, N, q⟩ := X
  obtain ⟨cl, A, q1, S, q3, H, G⟩ := F
  rw [← len_of S q3] at r
  exact Run.step (fun t q => Y.arraylength C.1 (by rw [eT]; exact A.1) (State.isArrayOf_alike C.2.1.alike A.2.1) (g := mkF m pc ls (.ref a :: st)) rfl rfl (C.d hd) t q) r
theorem s_newarrayE (pc' : Nat) (cap : Nat) (ad : String) (C : Cx tabs a0 Z own nm code ml ret p s m meth c) (X : St p l e R s m args below meth c n0 T h k n) {aty : ArrayType} {z : Int32} (hd : decode code pc = .ok (.newarray aty, 2)) (w : Jvm.Cond.arrayClass (newarray.typeOf aty) ∈ tabs) (hz : ¬ z < 0) (hcap : z.toNatClampNeg ≤ cap) (had : "[" ++ (newarray.typeOf aty).toString = ad)
    (r : ∀ T' h' b kA, h.size = b → St p l e R s m args below meth c n0 T' h' (k + 1) (n + cap) → Ext h h' → Arv Z h' b kA (newarray.typeOf aty) z [] (defaultValue (newarray.typeOf aty)) → Exa Z h' b ad → n0 ≤ b → Run p e below n0 Q G m T' pc' ls (.ref b :: st)) (hp : pc + 2 = pc' := by rfl) (hc : cap * 8 ≤ 536870912 ∧ k + 1 ≤ R.cells ∧ n + cap ≤ R.slots := by decide) : Run p e below n0 Q G m T pc ls (.int z :: st) := by
  subst hp
  have hs := X.sz
  obtain ⟨locs, Y, eT, N, q⟩ := X
  obtain ⟨T', h', kA, Y', e', E, A, EA, f⟩ := newPE Y C.1 C.2.1 (C.w w) eT (g := mkF m pc ls (.int z :: st)) rfl (C.d hd) rfl hz hcap hc.1 hc.2.1 hc.2.2 had
  exact Run.step f (r T' h' _ kA rfl ⟨locs, Y', e', N, q⟩ E (Arv.new A hz) EA hs)
theorem s_anewarrayA (pc' : Nat) (cap : Nat) (ad : String) (C : Cx tabs a0 Z own nm code ml ret p s m meth c) (X : St p l e R s m args below meth c n0 T h k n) {K : String} {ty : FieldType} {idx : Nat} {z : Int32} (hd : decode code pc = .ok (.anewarray idx, 3)) (hC : (FieldType.array ty).toString = K) (w1 : Jvm.Cond.classLink own idx K ∈ tabs) (w2 : Jvm.Cond.arrayOver (.array ty) ∈ tabs) (hz : ¬ z < 0) (hcap : z.toNatClampNeg ≤ cap) (had : "[" ++ K = ad)
    (r : ∀ T' h' b kA, h.size = b → St p l e R s m args below meth c n0 T' h' (k + 1) (n + cap) → Ext h h' → Arv Z h' b kA (.array ty) z [] .null → Exa Z h' b ad → OvrA Z kA ty K → n0 ≤ b → Run p e below n0 Q G m T' pc' ls (.ref b :: st)) (hp : pc + 3 = pc' := by rfl) (hc : cap * 8 ≤ 536870912 ∧ k + 1 ≤ R.cells ∧ n + cap ≤ R.slots := by decide) : Run p e below n0 Q G m T pc ls (.int z :: st) := by
  subst hp
  have hs := X.sz
  obtain ⟨locs, Y, eT, N, q⟩ := X
  obtain ⟨T', h', kA, Y', e', E, A, EA, O, f⟩ := newRA Y C.1 C.2.1 C.2.2.2.2.1 hC (C.w w1) (C.w w2) eT (g := mkF m pc ls (.int z :: st)) rfl (C.d hd) rfl hz hcap hc.1 hc.2.1 hc.2.2 had
  exact Run.step f (r T' h' _ kA rfl ⟨locs, Y', e', N, q⟩ E (Arv.new A hz) EA O hs)
theorem s_anewarray (pc' : Nat) (cap : Nat) (ad : String) (C : Cx tabs a0 Z own nm code ml ret p s m meth c) (X : St p l e R s m args below meth c n0 T h k n) {K : String} {idx : Nat} {z : Int32} (hd : decode code pc = .ok (.anewarray idx, 3)) (w1 : Jvm.Cond.classLink own idx K ∈ tabs) (w2 : Jvm.Cond.arrayOver (.object K) ∈ tabs) (hz : ¬ z < 0) (hcap : z.toNatClampNeg ≤ cap) (had : "[" ++ (FieldType.object K).toString = ad)
    (r : ∀ T' h' b kA, h.size = b → St p l e R s m args below meth c n0 T' h' (k + 1) (n + cap) → Ext h h' → Arv Z h' b kA (.object K) z [] .null → Exa Z h' b ad → Ovr Z kA K → n0 ≤ b → Run p e below n0 Q G m T' pc' ls (.ref b :: st)) (hp : pc + 3 = pc' := by rfl) (hc : cap * 8 ≤ 536870912 ∧ k + 1 ≤ R.cells ∧ n + cap ≤ R.slots := by decide) : Run p e below n0 Q G m T pc ls (.int z :: st) := by
  subst hp
  have hs := X.sz
  obtain ⟨locs, Y, eT, N, q⟩ := X
  obtain ⟨T', h', kA, Y', e', E, A, EA, O, f⟩ := newRE Y C.1 C.2.1 C.2.2.2.2.1 (C.w w1) (C.w w2) eT (g := mkF m pc ls (.int z :: st)) rfl (C.d hd) rfl hz hcap hc.1 hc.2.1 hc.2.2 had
  exact Run.step f (r T' h' _ kA rfl ⟨locs, Y', e', N, q⟩ E (Arv.new A hz) EA O hs)
theorem s_aastore (pc' : Nat) (i : Nat) (C : Cx tabs a0 Z own nm code ml ret p s m meth c) (X : St p l e R s m args below meth c n0 T h k n) {a : Addr} {kA : ClassId} {ty : FieldType} {z j : Int32} {v : Value} {vs : List Value} {dv : Value} (hd : decode code pc = .ok (.aastore, 1)) (F : Arv Z h a kA ty z vs dv) (ht : ty.isReference = true) (hf : fits ty v = true) (hS : ∀ cl, Arr Z h a cl ty → cl.cls = kA → Sto Z h a v) (ge : n0 ≤ a) (hj : ¬ j < 0 ∧ j < z) (hi : j.toNatClampNeg = i) (hl : i < vs.length)
    (r : ∀ T' h', St p l e R s m args below meth c n0 T' h' k n → Wr h h' a j.toNatClampNeg v → Arv Z h' a kA ty z (vs.set i v) dv → Run p e below n0 Q G m T' pc' ls st) (hp : pc + 1 = pc' := by rfl) : Run p e below n0 Q G m T pc ls (v :: .int j :: .ref a :: st) := by
  subst hp
  obtain ⟨locs, Y, eT, N, q⟩ := X
  obtain ⟨cl, A, q1, S, q3, H, G⟩ := F
  obtain ⟨T', h', Y', e', W, f⟩ := RoadKit.stR Y C.1 C.2.1 eT A (j := j) (inb_of S hj) ht (hS cl A q1) (g := mkF m pc ls (v :: .int j :: .ref a :: st)) rfl rfl (C.d hd)
  exact Run.step f (r T' h' ⟨_, Y', e', Fr.snoc Y' N ge, q⟩ W (Arv.set A q1 S q3 H G hf W i hi hl))
/-- a method's contract at given arguments and a given heap -/
def Met (l : Launch) (Z : State) (y : MethodName) (bytes : ByteArray) (ml : Nat) (ret : Option FieldType) (rm : Room) (ws : List Jvm.Cond) (as : Array Value) (h : Heap) (n0 : Nat) (Q : Option Value → Heap → Prop) : Prop :=
  MetFree l y (head1 (Jvm.Cond.code y bytes ml ret :: ws) rm) (fun a U => a = as ∧ Z.Warmed39 U.vm ∧ U.heap = h) (fun _ _ _ _ _ => True) (fun _ U o U' => ∃ v L, o = .returned v ∧ (Q v U'.heap ∧ Fr n0 L) ∧ FrameEnd U o U' L rm.cells rm.slots)
theorem Met.mk {y : MethodName} {rm : Room} {ws : List Jvm.Cond} {as : Array Value} {ls0 : Array Slot} (hpl : plainFor y = true) (hw : ∀ d ∈ tabs, d.before a0 Z = true) (hn : n0 ≤ h.size) (hef : ∀ m, entryFrame m as ml = mkF m 0 ls0 [])
    (body : ∀ p e s m below meth c T, Cx tabs a0 Z y.cls y.name code ml ret p s m meth c → St p l e rm s m as below meth c n0 T h 0 0 → Run p e below n0 Q (fun o t L => FrameEnd s o t L rm.cells rm.slots) m T 0 ls0 []) : Met l Z y code ml ret rm ws as h n0 Q := by
  refine MetFree.of_bodySF hpl hisR ?_
  intro p e s m args below meth c s₁ Bd hml0 hP hK
  obtain ⟨rfl, hZ, rfl⟩ := hP
  have X0 : Stand p l e rm s m args below meth c s₁ [] 0 0 := Stand.of_body Bd
  have e0 : s₁.heap = s.heap := by rw [Bd.state]; rfl
  have r := body p e s m below meth c s₁ ⟨Bd.exec, hZ, Bd.bytes, hml0, findClass_of_methodNamed Bd.named, Bd.returns, Bd.notSynchronized, (name_of_methodNamed Bd.named Bd.method).1, hw⟩ ⟨[], X0, e0, Fr.nil n0, hn⟩
  obtain ⟨s₂, o, h1, h2⟩ := r
  exact ⟨s₂, o, castTop (hef m) h1, h2⟩
theorem s_callC (pc' : Nat) (argsL rest : List Value) (W : Nat) (C : Cx tabs a0 Z own nm code ml ret p s m meth c) (X : St p l e R s m args below meth c n0 T h k n) {idx : Nat} {y : MethodName} {bytes : ByteArray} {maxL : Nat} {rm : Room} {stk : List Value} {Q1 : Option Value → Heap → Prop} {a : Addr} (hd : decode code pc = .ok (.invokespecial idx, 3)) (hi : y.name = "<init>") (w1 : Jvm.Cond.methodLink own idx y ∈ tabs) (w2 : Jvm.Cond.instanceMethod y ∈ tabs) (w3 : Jvm.Cond.initialized y.cls ∈ tabs) (w4 : Jvm.Cond.code y bytes maxL none ∈ tabs)
    (M : Met l Z y bytes maxL none rm [] (.ref a :: argsL).toArray h n0 Q1) (hlen : ∀ sig, parseMethodDescriptor y.desc = some sig → argsL.length = sig.parameters.length) (hs : stk = argsL.reverse ++ .ref a :: rest) (hsz : ls.size = ml) (hW : (rest.map fun v => v.category).sum = W)
    (r : ∀ T' v h', St p l e R s m args below meth c n0 T' h' (k + rm.cells) (n + rm.slots) → Q1 v h' → Run p e below n0 Q G m T' pc' ls (v.toList ++ rest)) (hp : pc + 3 = pc' := by rfl) (hr : rm.frames + 1 ≤ R.frames ∧ W + (maxL + 11) + rm.locals ≤ R.locals ∧ k + rm.cells ≤ R.cells ∧ n + rm.slots ≤ R.slots := by decide) (hy : y.cls ≠ "java/lang/invoke/MethodHandle" ∧ y.cls ≠ "java/lang/invoke/VarHandle" := by decide) : Run p e below n0 Q G m T pc ls stk := by
  subst hp hs
  obtain ⟨locs, Y, eT, N, q⟩ := X
  obtain ⟨v, _, ⟨T1, L1, k1, n1⟩, -, Y', ⟨Lc, hQ, l1, y1, z1⟩, f⟩ := Y.specialBack C.1 (y := y) hi C.2.2.2.2.1 (mvT C.2.1 (C.w w1)) (mvT C.2.1 (C.w w2)) (mvT C.2.1 (C.w w4)) hy (backOf (W := W) (Q := fun v h L => Q1 v h ∧ Fr n0 L) M C.2.1 (C.w w4) (C.w w3) hr.1 hr.2.1) (g := mkF m pc ls (argsL.reverse ++ .ref a :: rest)) rfl (hsz.trans C.2.2.2.1.symm) (Steps.refl _) (a := a) (argsL := argsL) (rest := rest) hlen rfl (by show 2 * 0 + _ ≤ _; rw [hW]; omega) (C.d hd) (fun _ _ => ⟨rfl, eT, hr.2.2.1, hr.2.2.2⟩)
  dsimp only [Pt.U, Pt.locs, Pt.cells, Pt.slots] at Y' l1 y1 z1 f hQ
  subst l1 y1 z1
  exact Run.steps f (r T1 v _ ⟨_, Y', rfl, Fr.app N hQ.2, q⟩ hQ.1)
theorem s_callV (pc' : Nat) (argsL rest : List Value) (W : Nat) (C : Cx tabs a0 Z own nm code ml ret p s m meth c) (X : St p l e R s m args below meth c n0 T h k n) {idx : Nat} {y : MethodName} {bytes : ByteArray} {maxL : Nat} {rt : Option FieldType} {rm : Room} {stk : List Value} {Q1 : Option Value → Heap → Prop} {y0 : MethodName} {K : String} {a : Addr} (hd : decode code pc = .ok (.invokevirtual idx, 3)) (w1 : Jvm.Cond.methodLink own idx y0 ∈ tabs) (w2 : Jvm.Cond.declares y0 ∈ tabs) (hnf : NotFace s y0) (w5 : Jvm.Cond.selects K y0 y ∈ tabs) (w6 : Jvm.Cond.instanceMethod y ∈ tabs) (w3 : Jvm.Cond.initialized y.cls ∈ tabs) (w4 : Jvm.Cond.code y bytes maxL rt ∈ tabs)
    (E : Exa Z h a K) (M : Met l Z y bytes maxL rt rm [] (.ref a :: argsL).toArray h n0 Q1) (hlen : ∀ sig, parseMethodDescriptor y0.desc = some sig → argsL.length = sig.parameters.length) (hs : stk = argsL.reverse ++ .ref a :: rest) (hsz : ls.size = ml) (hW : (rest.map fun v => v.category).sum = W)
    (r : ∀ T' v h', St p l e R s m args below meth c n0 T' h' (k + rm.cells) (n + rm.slots) → Q1 v h' → Run p e below n0 Q G m T' pc' ls (v.toList ++ rest)) (hp : pc + 3 = pc' := by rfl) (hr : rm.frames + 1 ≤ R.frames ∧ W + (maxL + 11) + rm.locals ≤ R.locals ∧ k + rm.cells ≤ R.cells ∧ n + rm.slots ≤ R.slots := by decide) (hy : y0.cls ≠ "java/lang/invoke/MethodHandle" ∧ y0.cls ≠ "java/lang/invoke/VarHandle" := by decide) : Run p e below n0 Q G m T pc ls stk := by
  subst hp hs
  obtain ⟨locs, Y, eT, N, q⟩ := X
  obtain ⟨cq, kq, qa, qb, qc⟩ := isOf C.2.1 eT E
  obtain ⟨v, _, ⟨T1, L1, k1, n1⟩, -, Y', ⟨Lc, hQ, l1, y1, z1⟩, f⟩ := Y.virtualBack C.1 (y := y0) (z := y) C.2.2.2.2.1 (mvT C.2.1 (C.w w1)) (mvT C.2.1 (C.w w2)) hnf (mvT C.2.1 (C.w w5)) (mvT C.2.1 (C.w w6)) hy (backOf (W := W) (Q := fun v h L => Q1 v h ∧ Fr n0 L) M C.2.1 (C.w w4) (C.w w3) hr.1 hr.2.1) qa qc (g := mkF m pc ls (argsL.reverse ++ .ref a :: rest)) rfl (hsz.trans C.2.2.2.1.symm) (Steps.refl _) (argsL := argsL) (rest := rest) hlen rfl (by show 2 * 0 + _ ≤ _; rw [hW]; omega) (C.d hd) (fun _ _ => ⟨rfl, eT, hr.2.2.1, hr.2.2.2⟩)
  dsimp only [Pt.U, Pt.locs, Pt.cells, Pt.slots] at Y' l1 y1 z1 f hQ
  subst l1 y1 z1
  exact Run.steps f (r T1 v _ ⟨_, Y', rfl, Fr.app N hQ.2, q⟩ hQ.1)
end A
end Jvm.OwnK
namespace Jvm.Pilot.@@N@@
open Jvm Jvm.ClassFile Sem Op Lib Jvm.Free Jvm.Stand Jvm.LawKit Jvm.RoadKit Bundle Jvm.OwnK Jvm.Pilot.@@N@@.Jvm.D
theorem pn_com_example_eventloom_eventloom_verification_IntBlockList : plainName "com/example/eventloom/eventloom/verification/IntBlockList" = true := by first | (simp [plainName, overriddenIn]; done) | decide +kernel
theorem d1_0 : decode prog_118_method_1_code 0 = .ok (.aload_n 0, 1) := by decide +kernel
theorem d1_1 : decode prog_118_method_1_code 1 = .ok (.invokespecial 3, 3) := by decide +kernel
theorem d1_4 : decode prog_118_method_1_code 4 = .ok (.aload_n 0, 1) := by decide +kernel
theorem d1_5 : decode prog_118_method_1_code 5 = .ok (.iconst 1, 1) := by decide +kernel
theorem kc_iconst_1 : Int32.ofInt 1 = (1 : Int32) := by decide +kernel
theorem d1_6 : decode prog_118_method_1_code 6 = .ok (.anewarray 9, 3) := by decide +kernel
theorem d1_9 : decode prog_118_method_1_code 9 = .ok (.putfield 11, 3) := by decide +kernel
theorem d1_12 : decode prog_118_method_1_code 12 = .ok (.return_, 1) := by decide +kernel
theorem d3_0 : decode prog_118_method_2_code 0 = .ok (.aload_n 0, 1) := by decide +kernel
theorem d3_1 : decode prog_118_method_2_code 1 = .ok (.getfield 15, 3) := by decide +kernel
theorem d3_4 : decode prog_118_method_2_code 4 = .ok (.ireturn, 1) := by decide +kernel
theorem d4_0 : decode prog_118_method_4_code 0 = .ok (.aload_n 0, 1) := by decide +kernel
theorem d4_1 : decode prog_118_method_4_code 1 = .ok (.getfield 15, 3) := by decide +kernel
theorem d4_4 : decode prog_118_method_4_code 4 = .ok (.ldc 21, 2) := by decide +kernel
theorem d4_6 : decode prog_118_method_4_code 6 = .ok (.if_icmp .ne 13, 3) := by decide +kernel
theorem d4_19 : decode prog_118_method_4_code 19 = .ok (.aload_n 0, 1) := by decide +kernel
theorem d4_20 : decode prog_118_method_4_code 20 = .ok (.getfield 15, 3) := by decide +kernel
theorem d4_23 : decode prog_118_method_4_code 23 = .ok (.bipush 10, 2) := by decide +kernel
theorem kc_bipush_10 : (Int8.ofInt 10).toInt32 = (10 : Int32) := by decide +kernel
theorem d4_25 : decode prog_118_method_4_code 25 = .ok (.iushr, 1) := by decide +kernel
theorem kf_0 : (((0 : Int32)).toUInt32 >>> ((10 : Int32) &&& 31).toUInt32).toInt32 = (0 : Int32) := by decide +kernel
theorem d4_26 : decode prog_118_method_4_code 26 = .ok (.istore_n 2, 1) := by decide +kernel
theorem d4_27 : decode prog_118_method_4_code 27 = .ok (.aload_n 0, 1) := by decide +kernel
theorem d4_28 : decode prog_118_method_4_code 28 = .ok (.getfield 15, 3) := by decide +kernel
theorem d4_31 : decode prog_118_method_4_code 31 = .ok (.sipush 1023, 3) := by decide +kernel
theorem kc_sipush_1023 : (Int16.ofInt 1023).toInt32 = (1023 : Int32) := by decide +kernel
theorem d4_34 : decode prog_118_method_4_code 34 = .ok (.iand, 1) := by decide +kernel
theorem kf_1 : ((0 : Int32) &&& (1023 : Int32)) = (0 : Int32) := by decide +kernel
theorem d4_35 : decode prog_118_method_4_code 35 = .ok (.ifCond .ne 49, 3) := by decide +kernel
theorem d4_38 : decode prog_118_method_4_code 38 = .ok (.iload_n 2, 1) := by decide +kernel
theorem d4_39 : decode prog_118_method_4_code 39 = .ok (.aload_n 0, 1) := by decide +kernel
theorem d4_40 : decode prog_118_method_4_code 40 = .ok (.getfield 11, 3) := by decide +kernel
theorem d4_43 : decode prog_118_method_4_code 43 = .ok (.arraylength, 1) := by decide +kernel
theorem d4_44 : decode prog_118_method_4_code 44 = .ok (.if_icmp .ne 29, 3) := by decide +kernel
theorem d4_73 : decode prog_118_method_4_code 73 = .ok (.aload_n 0, 1) := by decide +kernel
theorem d4_74 : decode prog_118_method_4_code 74 = .ok (.getfield 11, 3) := by decide +kernel
theorem d4_77 : decode prog_118_method_4_code 77 = .ok (.iload_n 2, 1) := by decide +kernel
theorem d4_78 : decode prog_118_method_4_code 78 = .ok (.sipush 1024, 3) := by decide +kernel
theorem kc_sipush_1024 : (Int16.ofInt 1024).toInt32 = (1024 : Int32) := by decide +kernel
theorem d4_81 : decode prog_118_method_4_code 81 = .ok (.newarray .int, 2) := by decide +kernel
theorem d4_83 : decode prog_118_method_4_code 83 = .ok (.aastore, 1) := by decide +kernel
theorem d4_84 : decode prog_118_method_4_code 84 = .ok (.aload_n 0, 1) := by decide +kernel
theorem d4_85 : decode prog_118_method_4_code 85 = .ok (.getfield 11, 3) := by decide +kernel
theorem d4_88 : decode prog_118_method_4_code 88 = .ok (.iload_n 2, 1) := by decide +kernel
theorem d4_89 : decode prog_118_method_4_code 89 = .ok (.aaload, 1) := by decide +kernel
theorem d4_90 : decode prog_118_method_4_code 90 = .ok (.aload_n 0, 1) := by decide +kernel
theorem d4_91 : decode prog_118_method_4_code 91 = .ok (.getfield 15, 3) := by decide +kernel
theorem d4_94 : decode prog_118_method_4_code 94 = .ok (.sipush 1023, 3) := by decide +kernel
theorem d4_97 : decode prog_118_method_4_code 97 = .ok (.iand, 1) := by decide +kernel
theorem d4_98 : decode prog_118_method_4_code 98 = .ok (.iload_n 1, 1) := by decide +kernel
theorem d4_99 : decode prog_118_method_4_code 99 = .ok (.iastore, 1) := by decide +kernel
theorem d4_100 : decode prog_118_method_4_code 100 = .ok (.aload_n 0, 1) := by decide +kernel
theorem d4_101 : decode prog_118_method_4_code 101 = .ok (.dup, 1) := by decide +kernel
theorem d4_102 : decode prog_118_method_4_code 102 = .ok (.getfield 15, 3) := by decide +kernel
theorem d4_105 : decode prog_118_method_4_code 105 = .ok (.iconst 1, 1) := by decide +kernel
theorem d4_106 : decode prog_118_method_4_code 106 = .ok (.iadd, 1) := by decide +kernel
theorem kf_2 : ((0 : Int32) + (1 : Int32)) = (1 : Int32) := by decide +kernel
theorem d4_107 : decode prog_118_method_4_code 107 = .ok (.putfield 15, 3) := by decide +kernel
theorem d4_110 : decode prog_118_method_4_code 110 = .ok (.return_, 1) := by decide +kernel
theorem kf_3 : (((1 : Int32)).toUInt32 >>> ((10 : Int32) &&& 31).toUInt32).toInt32 = (0 : Int32) := by decide +kernel
theorem kf_4 : ((1 : Int32) &&& (1023 : Int32)) = (1 : Int32) := by decide +kernel
theorem kf_5 : ((1 : Int32) + (1 : Int32)) = (2 : Int32) := by decide +kernel
theorem kf_6 : (((2 : Int32)).toUInt32 >>> ((10 : Int32) &&& 31).toUInt32).toInt32 = (0 : Int32) := by decide +kernel
theorem kf_7 : ((2 : Int32) &&& (1023 : Int32)) = (2 : Int32) := by decide +kernel
theorem kf_8 : ((2 : Int32) + (1 : Int32)) = (3 : Int32) := by decide +kernel
theorem kf_9 : (((3 : Int32)).toUInt32 >>> ((10 : Int32) &&& 31).toUInt32).toInt32 = (0 : Int32) := by decide +kernel
theorem kf_10 : ((3 : Int32) &&& (1023 : Int32)) = (3 : Int32) := by decide +kernel
theorem kf_11 : ((3 : Int32) + (1 : Int32)) = (4 : Int32) := by decide +kernel
theorem d5_0 : decode prog_118_method_3_code 0 = .ok (.aload_n 0, 1) := by decide +kernel
theorem d5_1 : decode prog_118_method_3_code 1 = .ok (.getfield 11, 3) := by decide +kernel
theorem d5_4 : decode prog_118_method_3_code 4 = .ok (.iload_n 1, 1) := by decide +kernel
theorem d5_5 : decode prog_118_method_3_code 5 = .ok (.bipush 10, 2) := by decide +kernel
theorem d5_7 : decode prog_118_method_3_code 7 = .ok (.iushr, 1) := by decide +kernel
theorem d5_8 : decode prog_118_method_3_code 8 = .ok (.aaload, 1) := by decide +kernel
theorem d5_9 : decode prog_118_method_3_code 9 = .ok (.iload_n 1, 1) := by decide +kernel
theorem d5_10 : decode prog_118_method_3_code 10 = .ok (.sipush 1023, 3) := by decide +kernel
theorem d5_13 : decode prog_118_method_3_code 13 = .ok (.iand, 1) := by decide +kernel
theorem d5_14 : decode prog_118_method_3_code 14 = .ok (.iaload, 1) := by decide +kernel
theorem d5_15 : decode prog_118_method_3_code 15 = .ok (.ireturn, 1) := by decide +kernel
theorem pn_com_example_eventloom_eventloom_verification_IntBlockListGetPinLaw : plainName "com/example/eventloom/eventloom/verification/IntBlockListGetPinLaw" = true := by first | (simp [plainName, overriddenIn]; done) | decide +kernel
theorem kc_iconst_5 : Int32.ofInt 5 = (5 : Int32) := by decide +kernel
theorem pd___V : parseMethodDescriptor "()V" = some ⟨[], none⟩ := by decide +kernel
theorem kc_iconst_2 : Int32.ofInt 2 = (2 : Int32) := by decide +kernel
theorem kc_iconst_3 : Int32.ofInt 3 = (3 : Int32) := by decide +kernel
theorem pd___I : parseMethodDescriptor "()I" = some ⟨[], some .int⟩ := by decide +kernel
theorem pd__I_V : parseMethodDescriptor "(I)V" = some ⟨[.int], none⟩ := by decide +kernel
theorem kc_iconst_0 : Int32.ofInt 0 = (0 : Int32) := by decide +kernel
theorem pd__I_I : parseMethodDescriptor "(I)I" = some ⟨[.int], some .int⟩ := by decide +kernel
theorem own_5 (x : Int32) : (x &&& 2147483647) % 5 = 0 ∨ (x &&& 2147483647) % 5 = 1 ∨ (x &&& 2147483647) % 5 = 2 ∨ (x &&& 2147483647) % 5 = 3 ∨ (x &&& 2147483647) % 5 = 4 := by
  have h := (c_and x 2147483647 (by decide)).1
  have q := (c_iremV (x &&& 2147483647) 5).1 h (by decide)
  have k0 : (0 : Int32).toInt = 0 := by decide
  have k1 : (1 : Int32).toInt = 1 := by decide
  have k2 : (2 : Int32).toInt = 2 := by decide
  have k3 : (3 : Int32).toInt = 3 := by decide
  have k4 : (4 : Int32).toInt = 4 := by decide
  have k5 : (5 : Int32).toInt = 5 := by decide
  simp only [← Int32.toInt_inj]
  omega
set_option maxRecDepth 65536 in
set_option maxHeartbeats 40000000 in
theorem rm_init (l : Launch) (Z : State) (a0 : Array Value) (hw : ∀ d ∈ tables_1, d.before a0 Z = true) (o : Addr) (h0 : Heap) (n0 : Nat) (Z0 : n0 ≤ h0.size) (F_o_blocks : Fld Z h0 o "com/example/eventloom/eventloom/verification/IntBlockList" "blocks" "[[I" .null) (F_o_size : Fld Z h0 o "com/example/eventloom/eventloom/verification/IntBlockList" "size" "I" (.int 0)) (E_o : Exa Z h0 o "com/example/eventloom/eventloom/verification/IntBlockList") (g_o : n0 ≤ o) :
    Met l Z (⟨"com/example/eventloom/eventloom/verification/IntBlockList", "<init>", "()V"⟩ : MethodName) prog_118_method_1_code 1 none { frames := 1, cells := 1, slots := 1, locals := 12 } [] #[(.ref o)] h0 n0 (fun v h => v = none ∧ ∃ a k_a, Fld Z h o "com/example/eventloom/eventloom/verification/IntBlockList" "blocks" "[[I" (.ref a) ∧ Fld Z h o "com/example/eventloom/eventloom/verification/IntBlockList" "size" "I" (.int 0) ∧ Exa Z h o "com/example/eventloom/eventloom/verification/IntBlockList" ∧ Arv Z h a k_a (.array .int) 1 [.null] .null ∧ OvrA Z k_a .int "[I" ∧ n0 ≤ a ∧ o ≠ a) := by
  refine Met.mk (tabs := tables_1) (a0 := a0) (ls0 := #[.val (.ref o)]) (plainFor_of_name pn_com_example_eventloom_eventloom_verification_IntBlockList) hw Z0 (fun m => by first | (simp [entryFrame, mkF, argsToLocals, Value.category]; done) | rfl) ?_
  intro p e s m below meth c T C X
  refine s_aloadN 1 C X d1_0 rfl rfl ?_
  refine s_objInit 4 C X d1_1 (List.mem_of_getElem? (i := 7) rfl) (List.mem_of_getElem? (i := 8) rfl) (List.mem_of_getElem? (i := 9) rfl) rfl (W := 0) rfl (by decide) (fun T X => ?_)
  refine s_aloadN 5 C X d1_4 rfl rfl ?_
  refine s_iconst 6 C X d1_5 kc_iconst_1 ?_
  refine s_anewarrayA 9 1 "[[I" C X d1_6 (ty := .int) rfl (List.mem_of_getElem? (i := 10) rfl) (List.mem_of_getElem? (i := 11) rfl) (by decide) (by decide) rfl (fun T _ o1 k_o1 hb_o1 X E A_o1 E_o1 O_o1 g_o1 => ?_)
  have ne_o_o1 : o ≠ o1 := Nat.ne_of_lt (Nat.lt_of_lt_of_le F_o_blocks.lt (Nat.le_of_eq hb_o1))
  have F_o_blocks := F_o_blocks.ext E
  have F_o_size := F_o_size.ext E
  have E_o := E_o.ext E
  have A_o1 : Arv Z _ o1 k_o1 (.array .int) (1 : Int32) [.null] .null := A_o1.pad (pad_rep [] _ 1)
  refine s_putfield 12 C X (host := "") d1_9 (Or.inl (List.mem_of_getElem? (i := 12) rfl)) Via.refl F_o_blocks E_o (Or.inl (List.mem_of_getElem? (i := 13) rfl)) (List.mem_of_getElem? (i := 2) rfl) (ty := (.array (.array .int))) (by decide) rfl rfl g_o (fun T _ X W => ?_)
  have F_o_blocks := F_o_blocks.same W
  have F_o_size := F_o_size.other W (Or.inr (slot_ne (Or.inl (hw _ (List.mem_of_getElem? (i := 20) rfl))) (Or.inl (hw _ (List.mem_of_getElem? (i := 13) rfl))) (by decide) (t := .int) (t' := (.array (.array .int))) (by decide) (by decide)))
  have E_o := E_o.wr W
  have E_o1 := E_o1.wr W
  have A_o1 := A_o1.other W (Ne.symm ne_o_o1)
  refine s_return C X d1_12 rfl ?_
  exact ⟨rfl, _, _, F_o_blocks, F_o_size, E_o, A_o1, O_o1, g_o1, ne_o_o1⟩
set_option maxRecDepth 65536 in
set_option maxHeartbeats 40000000 in
theorem rm_size (l : Launch) (Z : State) (a0 : Array Value) (hw : ∀ d ∈ tables_1, d.before a0 Z = true) (o a : Addr) (z : Int32) (h0 : Heap) (n0 : Nat) (Z0 : n0 ≤ h0.size) (F_o_size : Fld Z h0 o "com/example/eventloom/eventloom/verification/IntBlockList" "size" "I" (.int z)) :
    Met l Z (⟨"com/example/eventloom/eventloom/verification/IntBlockList", "size", "()I"⟩ : MethodName) prog_118_method_2_code 1 (some .int) { frames := 0, cells := 0, slots := 0, locals := 0 } [] #[(.ref o)] h0 n0 (fun v h => v = some (.int z) ∧ h = h0) := by
  refine Met.mk (tabs := tables_1) (a0 := a0) (ls0 := #[.val (.ref o)]) (plainFor_of_name pn_com_example_eventloom_eventloom_verification_IntBlockList) hw Z0 (fun m => by first | (simp [entryFrame, mkF, argsToLocals, Value.category]; done) | rfl) ?_
  intro p e s m below meth c T C X
  refine s_aloadN 1 C X d3_0 rfl rfl ?_
  refine s_getfield 4 C X (host := "") d3_1 (Or.inl (List.mem_of_getElem? (i := 19) rfl)) Via.refl F_o_size (fun T X => ?_)
  refine s_ireturn C X d3_4 rfl ?_
  exact ⟨rfl, rfl⟩
set_option maxRecDepth 65536 in
set_option maxHeartbeats 40000000 in
theorem rm_add0 (l : Launch) (Z : State) (a0 : Array Value) (hw : ∀ d ∈ tables_1, d.before a0 Z = true) (o a : Addr) (x : Int32) (k_a : ClassId) (h0 : Heap) (n0 : Nat) (Z0 : n0 ≤ h0.size) (F_o_blocks : Fld Z h0 o "com/example/eventloom/eventloom/verification/IntBlockList" "blocks" "[[I" (.ref a)) (F_o_size : Fld Z h0 o "com/example/eventloom/eventloom/verification/IntBlockList" "size" "I" (.int 0)) (E_o : Exa Z h0 o "com/example/eventloom/eventloom/verification/IntBlockList") (A_a : Arv Z h0 a k_a (.array .int) 1 [.null] .null) (O_a : OvrA Z k_a .int "[I") (g_o : n0 ≤ o) (g_a : n0 ≤ a) (ne_o_a : o ≠ a) :
    Met l Z (⟨"com/example/eventloom/eventloom/verification/IntBlockList", "add", "(I)V"⟩ : MethodName) prog_118_method_4_code 3 none { frames := 0, cells := 1, slots := 1024, locals := 0 } [] #[(.ref o), (.int x)] h0 n0 (fun v h => v = none ∧ ∃ b k_b, Fld Z h o "com/example/eventloom/eventloom/verification/IntBlockList" "blocks" "[[I" (.ref a) ∧ Fld Z h o "com/example/eventloom/eventloom/verification/IntBlockList" "size" "I" (.int 1) ∧ Exa Z h o "com/example/eventloom/eventloom/verification/IntBlockList" ∧ Arv Z h a k_a (.array .int) 1 [(.ref b)] .null ∧ Arv Z h b k_b .int 1024 [(.int x), (.int 0), (.int 0), (.int 0)] (.int 0) ∧ n0 ≤ b ∧ o ≠ b ∧ a ≠ b) := by
  refine Met.mk (tabs := tables_1) (a0 := a0) (ls0 := #[.val (.ref o), .val (.int x), .unset]) (plainFor_of_name pn_com_example_eventloom_eventloom_verification_IntBlockList) hw Z0 (fun m => by first | (simp [entryFrame, mkF, argsToLocals, Value.category]; done) | rfl) ?_
  intro p e s m below meth c T C X
  refine s_aloadN 1 C X d4_0 rfl rfl ?_
  refine s_getfield 4 C X (host := "") d4_1 (Or.inl (List.mem_of_getElem? (i := 19) rfl)) Via.refl F_o_size (fun T X => ?_)
  refine s_ldcInt 6 C X d4_4 (List.mem_of_getElem? (i := 26) rfl) ?_
  refine s_icmp_ne 19 9 C X d4_6 (fun _ => ?_) (fun c => absurd c (by decide))
  refine s_aloadN 20 C X d4_19 rfl rfl ?_
  refine s_getfield 23 C X (host := "") d4_20 (Or.inl (List.mem_of_getElem? (i := 19) rfl)) Via.refl F_o_size (fun T X => ?_)
  refine s_bipush 25 C X d4_23 kc_bipush_10 ?_
  refine s_iushr 26 C X d4_25 ?_
  refine Run.cast (st' := [(.int (0 : Int32))]) (by rw [kf_0]) ?_
  refine s_istoreN 27 C X (l' := #[.val (.ref o), .val (.int x), .val (.int (0 : Int32))]) d4_26 rfl ?_
  refine s_aloadN 28 C X d4_27 rfl rfl ?_
  refine s_getfield 31 C X (host := "") d4_28 (Or.inl (List.mem_of_getElem? (i := 19) rfl)) Via.refl F_o_size (fun T X => ?_)
  refine s_sipush 34 C X d4_31 kc_sipush_1023 ?_
  refine s_iand 35 C X d4_34 ?_
  refine Run.cast (st' := [(.int (0 : Int32))]) (by rw [kf_1]) ?_
  refine s_if_ne 84 38 C X d4_35 (fun c => absurd (by decide : (0 : Int32) = (0 : Int32)) c) (fun _ => ?_)
  refine s_iloadN 39 C X d4_38 rfl ?_
  refine s_aloadN 40 C X d4_39 rfl rfl ?_
  refine s_getfield 43 C X (host := "") d4_40 (Or.inl (List.mem_of_getElem? (i := 12) rfl)) Via.refl F_o_blocks (fun T X => ?_)
  refine s_arraylength 44 C X d4_43 A_a ?_
  refine s_icmp_ne 73 47 C X d4_44 (fun _ => ?_) (fun c => absurd c (by decide))
  refine s_aloadN 74 C X d4_73 rfl rfl ?_
  refine s_getfield 77 C X (host := "") d4_74 (Or.inl (List.mem_of_getElem? (i := 12) rfl)) Via.refl F_o_blocks (fun T X => ?_)
  refine s_iloadN 78 C X d4_77 rfl ?_
  refine s_sipush 81 C X d4_78 kc_sipush_1024 ?_
  refine s_newarrayE 83 1024 "[I" C X d4_81 (List.mem_of_getElem? (i := 27) rfl) (by decide) (by decide) rfl (fun T _ o1 k_o1 hb_o1 X E A_o1 E_o1 g_o1 => ?_)
  have ne_o_o1 : o ≠ o1 := Nat.ne_of_lt (Nat.lt_of_lt_of_le F_o_blocks.lt (Nat.le_of_eq hb_o1))
  have ne_a_o1 : a ≠ o1 := Nat.ne_of_lt (Nat.lt_of_lt_of_le A_a.lt (Nat.le_of_eq hb_o1))
  have F_o_blocks := F_o_blocks.ext E
  have F_o_size := F_o_size.ext E
  have E_o := E_o.ext E
  have A_a := A_a.ext E
  have A_o1 : Arv Z _ o1 k_o1 .int (1024 : Int32) [(.int (0 : Int32)), (.int (0 : Int32)), (.int (0 : Int32)), (.int (0 : Int32))] (.int (0 : Int32)) := A_o1.pad (pad_rep [] _ 4)
  refine s_aastore 84 0 C X d4_83 A_a rfl rfl (fun _ A q => Sto.ofVA A q O_a (Ins.self E_o1)) g_a ⟨by decide, by decide⟩ rfl (Nat.le_of_ble_eq_true rfl) (fun T _ X W A_a => ?_)
  have A_a : Arv Z _ a k_a (.array .int) (1 : Int32) [(.ref o1)] .null := A_a
  have F_o_blocks := F_o_blocks.other W (Or.inl ne_o_a)
  have F_o_size := F_o_size.other W (Or.inl ne_o_a)
  have E_o := E_o.wr W
  have E_o1 := E_o1.wr W
  have A_o1 := A_o1.other W (Ne.symm ne_a_o1)
  refine s_aloadN 85 C X d4_84 rfl rfl ?_
  refine s_getfield 88 C X (host := "") d4_85 (Or.inl (List.mem_of_getElem? (i := 12) rfl)) Via.refl F_o_blocks (fun T X => ?_)
  refine s_iloadN 89 C X d4_88 rfl ?_
  refine s_aaload 90 C X d4_89 A_a rfl ⟨by decide, by decide⟩ (v := (.ref o1)) rfl ?_
  refine s_aloadN 91 C X d4_90 rfl rfl ?_
  refine s_getfield 94 C X (host := "") d4_91 (Or.inl (List.mem_of_getElem? (i := 19) rfl)) Via.refl F_o_size (fun T X => ?_)
  refine s_sipush 97 C X d4_94 kc_sipush_1023 ?_
  refine s_iand 98 C X d4_97 ?_
  refine Run.cast (st' := [(.int (0 : Int32)), (.ref o1)]) (by rw [kf_1]) ?_
  refine s_iloadN 99 C X d4_98 rfl ?_
  refine s_iastore 100 0 C X d4_99 A_o1 g_o1 ⟨by decide, by decide⟩ rfl (Nat.le_of_ble_eq_true rfl) (fun T _ X W A_o1 => ?_)
  have A_o1 : Arv Z _ o1 k_o1 .int (1024 : Int32) [(.int x), (.int (0 : Int32)), (.int (0 : Int32)), (.int (0 : Int32))] (.int (0 : Int32)) := A_o1
  have F_o_blocks := F_o_blocks.other W (Or.inl ne_o_o1)
  have F_o_size := F_o_size.other W (Or.inl ne_o_o1)
  have E_o := E_o.wr W
  have A_a := A_a.other W ne_a_o1
  have E_o1 := E_o1.wr W
  refine s_aloadN 101 C X d4_100 rfl rfl ?_
  refine s_dup 102 C X d4_101 rfl ?_
  refine s_getfield 105 C X (host := "") d4_102 (Or.inl (List.mem_of_getElem? (i := 19) rfl)) Via.refl F_o_size (fun T X => ?_)
  refine s_iconst 106 C X d4_105 kc_iconst_1 ?_
  refine s_iadd 107 C X d4_106 ?_
  refine Run.cast (st' := [(.int (1 : Int32)), (.ref o)]) (by rw [kf_2]) ?_
  refine s_putfield 110 C X (host := "") d4_107 (Or.inl (List.mem_of_getElem? (i := 19) rfl)) Via.refl F_o_size E_o (Or.inl (List.mem_of_getElem? (i := 20) rfl)) (List.mem_of_getElem? (i := 2) rfl) (ty := .int) (by decide) rfl rfl g_o (fun T _ X W => ?_)
  have F_o_blocks := F_o_blocks.other W (Or.inr (slot_ne (Or.inl (hw _ (List.mem_of_getElem? (i := 13) rfl))) (Or.inl (hw _ (List.mem_of_getElem? (i := 20) rfl))) (by decide) (t := (.array (.array .int))) (t' := .int) (by decide) (by decide)))
  have F_o_size := F_o_size.same W
  have E_o := E_o.wr W
  have A_a := A_a.other W (Ne.symm ne_o_a)
  have E_o1 := E_o1.wr W
  have A_o1 := A_o1.other W (Ne.symm ne_o_o1)
  refine s_return C X d4_110 rfl ?_
  exact ⟨rfl, _, _, F_o_blocks, F_o_size, E_o, A_a, A_o1, g_o1, ne_o_o1, ne_a_o1⟩
set_option maxRecDepth 65536 in
set_option maxHeartbeats 40000000 in
theorem rm_add1 (l : Launch) (Z : State) (a0 : Array Value) (hw : ∀ d ∈ tables_1, d.before a0 Z = true) (o a b : Addr) (x c0 c1 c2 c3 : Int32) (k_a k_b : ClassId) (h0 : Heap) (n0 : Nat) (Z0 : n0 ≤ h0.size) (F_o_blocks : Fld Z h0 o "com/example/eventloom/eventloom/verification/IntBlockList" "blocks" "[[I" (.ref a)) (F_o_size : Fld Z h0 o "com/example/eventloom/eventloom/verification/IntBlockList" "size" "I" (.int 1)) (E_o : Exa Z h0 o "com/example/eventloom/eventloom/verification/IntBlockList") (A_a : Arv Z h0 a k_a (.array .int) 1 [(.ref b)] .null) (A_b : Arv Z h0 b k_b .int 1024 [(.int c0), (.int c1), (.int c2), (.int c3)] (.int 0)) (g_o : n0 ≤ o) (g_a : n0 ≤ a) (g_b : n0 ≤ b) (ne_o_a : o ≠ a) (ne_o_b : o ≠ b) (ne_a_b : a ≠ b) :
    Met l Z (⟨"com/example/eventloom/eventloom/verification/IntBlockList", "add", "(I)V"⟩ : MethodName) prog_118_method_4_code 3 none { frames := 0, cells := 0, slots := 0, locals := 0 } [] #[(.ref o), (.int x)] h0 n0 (fun v h => v = none ∧ Fld Z h o "com/example/eventloom/eventloom/verification/IntBlockList" "blocks" "[[I" (.ref a) ∧ Fld Z h o "com/example/eventloom/eventloom/verification/IntBlockList" "size" "I" (.int 2) ∧ Exa Z h o "com/example/eventloom/eventloom/verification/IntBlockList" ∧ Arv Z h a k_a (.array .int) 1 [(.ref b)] .null ∧ Arv Z h b k_b .int 1024 [(.int c0), (.int x), (.int c2), (.int c3)] (.int 0)) := by
  refine Met.mk (tabs := tables_1) (a0 := a0) (ls0 := #[.val (.ref o), .val (.int x), .unset]) (plainFor_of_name pn_com_example_eventloom_eventloom_verification_IntBlockList) hw Z0 (fun m => by first | (simp [entryFrame, mkF, argsToLocals, Value.category]; done) | rfl) ?_
  intro p e s m below meth c T C X
  refine s_aloadN 1 C X d4_0 rfl rfl ?_
  refine s_getfield 4 C X (host := "") d4_1 (Or.inl (List.mem_of_getElem? (i := 19) rfl)) Via.refl F_o_size (fun T X => ?_)
  refine s_ldcInt 6 C X d4_4 (List.mem_of_getElem? (i := 26) rfl) ?_
  refine s_icmp_ne 19 9 C X d4_6 (fun _ => ?_) (fun c => absurd c (by decide))
  refine s_aloadN 20 C X d4_19 rfl rfl ?_
  refine s_getfield 23 C X (host := "") d4_20 (Or.inl (List.mem_of_getElem? (i := 19) rfl)) Via.refl F_o_size (fun T X => ?_)
  refine s_bipush 25 C X d4_23 kc_bipush_10 ?_
  refine s_iushr 26 C X d4_25 ?_
  refine Run.cast (st' := [(.int (0 : Int32))]) (by rw [kf_3]) ?_
  refine s_istoreN 27 C X (l' := #[.val (.ref o), .val (.int x), .val (.int (0 : Int32))]) d4_26 rfl ?_
  refine s_aloadN 28 C X d4_27 rfl rfl ?_
  refine s_getfield 31 C X (host := "") d4_28 (Or.inl (List.mem_of_getElem? (i := 19) rfl)) Via.refl F_o_size (fun T X => ?_)
  refine s_sipush 34 C X d4_31 kc_sipush_1023 ?_
  refine s_iand 35 C X d4_34 ?_
  refine Run.cast (st' := [(.int (1 : Int32))]) (by rw [kf_4]) ?_
  refine s_if_ne 84 38 C X d4_35 (fun _ => ?_) (fun c => absurd c (by decide))
  refine s_aloadN 85 C X d4_84 rfl rfl ?_
  refine s_getfield 88 C X (host := "") d4_85 (Or.inl (List.mem_of_getElem? (i := 12) rfl)) Via.refl F_o_blocks (fun T X => ?_)
  refine s_iloadN 89 C X d4_88 rfl ?_
  refine s_aaload 90 C X d4_89 A_a rfl ⟨by decide, by decide⟩ (v := (.ref b)) rfl ?_
  refine s_aloadN 91 C X d4_90 rfl rfl ?_
  refine s_getfield 94 C X (host := "") d4_91 (Or.inl (List.mem_of_getElem? (i := 19) rfl)) Via.refl F_o_size (fun T X => ?_)
  refine s_sipush 97 C X d4_94 kc_sipush_1023 ?_
  refine s_iand 98 C X d4_97 ?_
  refine Run.cast (st' := [(.int (1 : Int32)), (.ref b)]) (by rw [kf_4]) ?_
  refine s_iloadN 99 C X d4_98 rfl ?_
  refine s_iastore 100 1 C X d4_99 A_b g_b ⟨by decide, by decide⟩ rfl (Nat.le_of_ble_eq_true rfl) (fun T _ X W A_b => ?_)
  have A_b : Arv Z _ b k_b .int (1024 : Int32) [(.int c0), (.int x), (.int c2), (.int c3)] (.int (0 : Int32)) := A_b
  have F_o_blocks := F_o_blocks.other W (Or.inl ne_o_b)
  have F_o_size := F_o_size.other W (Or.inl ne_o_b)
  have E_o := E_o.wr W
  have A_a := A_a.other W ne_a_b
  refine s_aloadN 101 C X d4_100 rfl rfl ?_
  refine s_dup 102 C X d4_101 rfl ?_
  refine s_getfield 105 C X (host := "") d4_102 (Or.inl (List.mem_of_getElem? (i := 19) rfl)) Via.refl F_o_size (fun T X => ?_)
  refine s_iconst 106 C X d4_105 kc_iconst_1 ?_
  refine s_iadd 107 C X d4_106 ?_
  refine Run.cast (st' := [(.int (2 : Int32)), (.ref o)]) (by rw [kf_5]) ?_
  refine s_putfield 110 C X (host := "") d4_107 (Or.inl (List.mem_of_getElem? (i := 19) rfl)) Via.refl F_o_size E_o (Or.inl (List.mem_of_getElem? (i := 20) rfl)) (List.mem_of_getElem? (i := 2) rfl) (ty := .int) (by decide) rfl rfl g_o (fun T _ X W => ?_)
  have F_o_blocks := F_o_blocks.other W (Or.inr (slot_ne (Or.inl (hw _ (List.mem_of_getElem? (i := 13) rfl))) (Or.inl (hw _ (List.mem_of_getElem? (i := 20) rfl))) (by decide) (t := (.array (.array .int))) (t' := .int) (by decide) (by decide)))
  have F_o_size := F_o_size.same W
  have E_o := E_o.wr W
  have A_a := A_a.other W (Ne.symm ne_o_a)
  have A_b := A_b.other W (Ne.symm ne_o_b)
  refine s_return C X d4_110 rfl ?_
  exact ⟨rfl, F_o_blocks, F_o_size, E_o, A_a, A_b⟩
set_option maxRecDepth 65536 in
set_option maxHeartbeats 40000000 in
theorem rm_add2 (l : Launch) (Z : State) (a0 : Array Value) (hw : ∀ d ∈ tables_1, d.before a0 Z = true) (o a b : Addr) (x c0 c1 c2 c3 : Int32) (k_a k_b : ClassId) (h0 : Heap) (n0 : Nat) (Z0 : n0 ≤ h0.size) (F_o_blocks : Fld Z h0 o "com/example/eventloom/eventloom/verification/IntBlockList" "blocks" "[[I" (.ref a)) (F_o_size : Fld Z h0 o "com/example/eventloom/eventloom/verification/IntBlockList" "size" "I" (.int 2)) (E_o : Exa Z h0 o "com/example/eventloom/eventloom/verification/IntBlockList") (A_a : Arv Z h0 a k_a (.array .int) 1 [(.ref b)] .null) (A_b : Arv Z h0 b k_b .int 1024 [(.int c0), (.int c1), (.int c2), (.int c3)] (.int 0)) (g_o : n0 ≤ o) (g_a : n0 ≤ a) (g_b : n0 ≤ b) (ne_o_a : o ≠ a) (ne_o_b : o ≠ b) (ne_a_b : a ≠ b) :
    Met l Z (⟨"com/example/eventloom/eventloom/verification/IntBlockList", "add", "(I)V"⟩ : MethodName) prog_118_method_4_code 3 none { frames := 0, cells := 0, slots := 0, locals := 0 } [] #[(.ref o), (.int x)] h0 n0 (fun v h => v = none ∧ Fld Z h o "com/example/eventloom/eventloom/verification/IntBlockList" "blocks" "[[I" (.ref a) ∧ Fld Z h o "com/example/eventloom/eventloom/verification/IntBlockList" "size" "I" (.int 3) ∧ Exa Z h o "com/example/eventloom/eventloom/verification/IntBlockList" ∧ Arv Z h a k_a (.array .int) 1 [(.ref b)] .null ∧ Arv Z h b k_b .int 1024 [(.int c0), (.int c1), (.int x), (.int c3)] (.int 0)) := by
  refine Met.mk (tabs := tables_1) (a0 := a0) (ls0 := #[.val (.ref o), .val (.int x), .unset]) (plainFor_of_name pn_com_example_eventloom_eventloom_verification_IntBlockList) hw Z0 (fun m => by first | (simp [entryFrame, mkF, argsToLocals, Value.category]; done) | rfl) ?_
  intro p e s m below meth c T C X
  refine s_aloadN 1 C X d4_0 rfl rfl ?_
  refine s_getfield 4 C X (host := "") d4_1 (Or.inl (List.mem_of_getElem? (i := 19) rfl)) Via.refl F_o_size (fun T X => ?_)
  refine s_ldcInt 6 C X d4_4 (List.mem_of_getElem? (i := 26) rfl) ?_
  refine s_icmp_ne 19 9 C X d4_6 (fun _ => ?_) (fun c => absurd c (by decide))
  refine s_aloadN 20 C X d4_19 rfl rfl ?_
  refine s_getfield 23 C X (host := "") d4_20 (Or.inl (List.mem_of_getElem? (i := 19) rfl)) Via.refl F_o_size (fun T X => ?_)
  refine s_bipush 25 C X d4_23 kc_bipush_10 ?_
  refine s_iushr 26 C X d4_25 ?_
  refine Run.cast (st' := [(.int (0 : Int32))]) (by rw [kf_6]) ?_
  refine s_istoreN 27 C X (l' := #[.val (.ref o), .val (.int x), .val (.int (0 : Int32))]) d4_26 rfl ?_
  refine s_aloadN 28 C X d4_27 rfl rfl ?_
  refine s_getfield 31 C X (host := "") d4_28 (Or.inl (List.mem_of_getElem? (i := 19) rfl)) Via.refl F_o_size (fun T X => ?_)
  refine s_sipush 34 C X d4_31 kc_sipush_1023 ?_
  refine s_iand 35 C X d4_34 ?_
  refine Run.cast (st' := [(.int (2 : Int32))]) (by rw [kf_7]) ?_
  refine s_if_ne 84 38 C X d4_35 (fun _ => ?_) (fun c => absurd c (by decide))
  refine s_aloadN 85 C X d4_84 rfl rfl ?_
  refine s_getfield 88 C X (host := "") d4_85 (Or.inl (List.mem_of_getElem? (i := 12) rfl)) Via.refl F_o_blocks (fun T X => ?_)
  refine s_iloadN 89 C X d4_88 rfl ?_
  refine s_aaload 90 C X d4_89 A_a rfl ⟨by decide, by decide⟩ (v := (.ref b)) rfl ?_
  refine s_aloadN 91 C X d4_90 rfl rfl ?_
  refine s_getfield 94 C X (host := "") d4_91 (Or.inl (List.mem_of_getElem? (i := 19) rfl)) Via.refl F_o_size (fun T X => ?_)
  refine s_sipush 97 C X d4_94 kc_sipush_1023 ?_
  refine s_iand 98 C X d4_97 ?_
  refine Run.cast (st' := [(.int (2 : Int32)), (.ref b)]) (by rw [kf_7]) ?_
  refine s_iloadN 99 C X d4_98 rfl ?_
  refine s_iastore 100 2 C X d4_99 A_b g_b ⟨by decide, by decide⟩ rfl (Nat.le_of_ble_eq_true rfl) (fun T _ X W A_b => ?_)
  have A_b : Arv Z _ b k_b .int (1024 : Int32) [(.int c0), (.int c1), (.int x), (.int c3)] (.int (0 : Int32)) := A_b
  have F_o_blocks := F_o_blocks.other W (Or.inl ne_o_b)
  have F_o_size := F_o_size.other W (Or.inl ne_o_b)
  have E_o := E_o.wr W
  have A_a := A_a.other W ne_a_b
  refine s_aloadN 101 C X d4_100 rfl rfl ?_
  refine s_dup 102 C X d4_101 rfl ?_
  refine s_getfield 105 C X (host := "") d4_102 (Or.inl (List.mem_of_getElem? (i := 19) rfl)) Via.refl F_o_size (fun T X => ?_)
  refine s_iconst 106 C X d4_105 kc_iconst_1 ?_
  refine s_iadd 107 C X d4_106 ?_
  refine Run.cast (st' := [(.int (3 : Int32)), (.ref o)]) (by rw [kf_8]) ?_
  refine s_putfield 110 C X (host := "") d4_107 (Or.inl (List.mem_of_getElem? (i := 19) rfl)) Via.refl F_o_size E_o (Or.inl (List.mem_of_getElem? (i := 20) rfl)) (List.mem_of_getElem? (i := 2) rfl) (ty := .int) (by decide) rfl rfl g_o (fun T _ X W => ?_)
  have F_o_blocks := F_o_blocks.other W (Or.inr (slot_ne (Or.inl (hw _ (List.mem_of_getElem? (i := 13) rfl))) (Or.inl (hw _ (List.mem_of_getElem? (i := 20) rfl))) (by decide) (t := (.array (.array .int))) (t' := .int) (by decide) (by decide)))
  have F_o_size := F_o_size.same W
  have E_o := E_o.wr W
  have A_a := A_a.other W (Ne.symm ne_o_a)
  have A_b := A_b.other W (Ne.symm ne_o_b)
  refine s_return C X d4_110 rfl ?_
  exact ⟨rfl, F_o_blocks, F_o_size, E_o, A_a, A_b⟩
set_option maxRecDepth 65536 in
set_option maxHeartbeats 40000000 in
theorem rm_add3 (l : Launch) (Z : State) (a0 : Array Value) (hw : ∀ d ∈ tables_1, d.before a0 Z = true) (o a b : Addr) (x c0 c1 c2 c3 : Int32) (k_a k_b : ClassId) (h0 : Heap) (n0 : Nat) (Z0 : n0 ≤ h0.size) (F_o_blocks : Fld Z h0 o "com/example/eventloom/eventloom/verification/IntBlockList" "blocks" "[[I" (.ref a)) (F_o_size : Fld Z h0 o "com/example/eventloom/eventloom/verification/IntBlockList" "size" "I" (.int 3)) (E_o : Exa Z h0 o "com/example/eventloom/eventloom/verification/IntBlockList") (A_a : Arv Z h0 a k_a (.array .int) 1 [(.ref b)] .null) (A_b : Arv Z h0 b k_b .int 1024 [(.int c0), (.int c1), (.int c2), (.int c3)] (.int 0)) (g_o : n0 ≤ o) (g_a : n0 ≤ a) (g_b : n0 ≤ b) (ne_o_a : o ≠ a) (ne_o_b : o ≠ b) (ne_a_b : a ≠ b) :
    Met l Z (⟨"com/example/eventloom/eventloom/verification/IntBlockList", "add", "(I)V"⟩ : MethodName) prog_118_method_4_code 3 none { frames := 0, cells := 0, slots := 0, locals := 0 } [] #[(.ref o), (.int x)] h0 n0 (fun v h => v = none ∧ Fld Z h o "com/example/eventloom/eventloom/verification/IntBlockList" "blocks" "[[I" (.ref a) ∧ Fld Z h o "com/example/eventloom/eventloom/verification/IntBlockList" "size" "I" (.int 4) ∧ Exa Z h o "com/example/eventloom/eventloom/verification/IntBlockList" ∧ Arv Z h a k_a (.array .int) 1 [(.ref b)] .null ∧ Arv Z h b k_b .int 1024 [(.int c0), (.int c1), (.int c2), (.int x)] (.int 0)) := by
  refine Met.mk (tabs := tables_1) (a0 := a0) (ls0 := #[.val (.ref o), .val (.int x), .unset]) (plainFor_of_name pn_com_example_eventloom_eventloom_verification_IntBlockList) hw Z0 (fun m => by first | (simp [entryFrame, mkF, argsToLocals, Value.category]; done) | rfl) ?_
  intro p e s m below meth c T C X
  refine s_aloadN 1 C X d4_0 rfl rfl ?_
  refine s_getfield 4 C X (host := "") d4_1 (Or.inl (List.mem_of_getElem? (i := 19) rfl)) Via.refl F_o_size (fun T X => ?_)
  refine s_ldcInt 6 C X d4_4 (List.mem_of_getElem? (i := 26) rfl) ?_
  refine s_icmp_ne 19 9 C X d4_6 (fun _ => ?_) (fun c => absurd c (by decide))
  refine s_aloadN 20 C X d4_19 rfl rfl ?_
  refine s_getfield 23 C X (host := "") d4_20 (Or.inl (List.mem_of_getElem? (i := 19) rfl)) Via.refl F_o_size (fun T X => ?_)
  refine s_bipush 25 C X d4_23 kc_bipush_10 ?_
  refine s_iushr 26 C X d4_25 ?_
  refine Run.cast (st' := [(.int (0 : Int32))]) (by rw [kf_9]) ?_
  refine s_istoreN 27 C X (l' := #[.val (.ref o), .val (.int x), .val (.int (0 : Int32))]) d4_26 rfl ?_
  refine s_aloadN 28 C X d4_27 rfl rfl ?_
  refine s_getfield 31 C X (host := "") d4_28 (Or.inl (List.mem_of_getElem? (i := 19) rfl)) Via.refl F_o_size (fun T X => ?_)
  refine s_sipush 34 C X d4_31 kc_sipush_1023 ?_
  refine s_iand 35 C X d4_34 ?_
  refine Run.cast (st' := [(.int (3 : Int32))]) (by rw [kf_10]) ?_
  refine s_if_ne 84 38 C X d4_35 (fun _ => ?_) (fun c => absurd c (by decide))
  refine s_aloadN 85 C X d4_84 rfl rfl ?_
  refine s_getfield 88 C X (host := "") d4_85 (Or.inl (List.mem_of_getElem? (i := 12) rfl)) Via.refl F_o_blocks (fun T X => ?_)
  refine s_iloadN 89 C X d4_88 rfl ?_
  refine s_aaload 90 C X d4_89 A_a rfl ⟨by decide, by decide⟩ (v := (.ref b)) rfl ?_
  refine s_aloadN 91 C X d4_90 rfl rfl ?_
  refine s_getfield 94 C X (host := "") d4_91 (Or.inl (List.mem_of_getElem? (i := 19) rfl)) Via.refl F_o_size (fun T X => ?_)
  refine s_sipush 97 C X d4_94 kc_sipush_1023 ?_
  refine s_iand 98 C X d4_97 ?_
  refine Run.cast (st' := [(.int (3 : Int32)), (.ref b)]) (by rw [kf_10]) ?_
  refine s_iloadN 99 C X d4_98 rfl ?_
  refine s_iastore 100 3 C X d4_99 A_b g_b ⟨by decide, by decide⟩ rfl (Nat.le_of_ble_eq_true rfl) (fun T _ X W A_b => ?_)
  have A_b : Arv Z _ b k_b .int (1024 : Int32) [(.int c0), (.int c1), (.int c2), (.int x)] (.int (0 : Int32)) := A_b
  have F_o_blocks := F_o_blocks.other W (Or.inl ne_o_b)
  have F_o_size := F_o_size.other W (Or.inl ne_o_b)
  have E_o := E_o.wr W
  have A_a := A_a.other W ne_a_b
  refine s_aloadN 101 C X d4_100 rfl rfl ?_
  refine s_dup 102 C X d4_101 rfl ?_
  refine s_getfield 105 C X (host := "") d4_102 (Or.inl (List.mem_of_getElem? (i := 19) rfl)) Via.refl F_o_size (fun T X => ?_)
  refine s_iconst 106 C X d4_105 kc_iconst_1 ?_
  refine s_iadd 107 C X d4_106 ?_
  refine Run.cast (st' := [(.int (4 : Int32)), (.ref o)]) (by rw [kf_11]) ?_
  refine s_putfield 110 C X (host := "") d4_107 (Or.inl (List.mem_of_getElem? (i := 19) rfl)) Via.refl F_o_size E_o (Or.inl (List.mem_of_getElem? (i := 20) rfl)) (List.mem_of_getElem? (i := 2) rfl) (ty := .int) (by decide) rfl rfl g_o (fun T _ X W => ?_)
  have F_o_blocks := F_o_blocks.other W (Or.inr (slot_ne (Or.inl (hw _ (List.mem_of_getElem? (i := 13) rfl))) (Or.inl (hw _ (List.mem_of_getElem? (i := 20) rfl))) (by decide) (t := (.array (.array .int))) (t' := .int) (by decide) (by decide)))
  have F_o_size := F_o_size.same W
  have E_o := E_o.wr W
  have A_a := A_a.other W (Ne.symm ne_o_a)
  have A_b := A_b.other W (Ne.symm ne_o_b)
  refine s_return C X d4_110 rfl ?_
  exact ⟨rfl, F_o_blocks, F_o_size, E_o, A_a, A_b⟩
set_option maxRecDepth 65536 in
set_option maxHeartbeats 40000000 in
theorem rm_get0 (l : Launch) (Z : State) (a0 : Array Value) (hw : ∀ d ∈ tables_1, d.before a0 Z = true) (o a b : Addr) (c0 c1 c2 c3 : Int32) (k_a k_b : ClassId) (h0 : Heap) (n0 : Nat) (Z0 : n0 ≤ h0.size) (F_o_blocks : Fld Z h0 o "com/example/eventloom/eventloom/verification/IntBlockList" "blocks" "[[I" (.ref a)) (A_a : Arv Z h0 a k_a (.array .int) 1 [(.ref b)] .null) (A_b : Arv Z h0 b k_b .int 1024 [(.int c0), (.int c1), (.int c2), (.int c3)] (.int 0)) :
    Met l Z (⟨"com/example/eventloom/eventloom/verification/IntBlockList", "get", "(I)I"⟩ : MethodName) prog_118_method_3_code 2 (some .int) { frames := 0, cells := 0, slots := 0, locals := 0 } [] #[(.ref o), (.int (0 : Int32))] h0 n0 (fun v h => v = some (.int c0) ∧ h = h0) := by
  refine Met.mk (tabs := tables_1) (a0 := a0) (ls0 := #[.val (.ref o), .val (.int (0 : Int32))]) (plainFor_of_name pn_com_example_eventloom_eventloom_verification_IntBlockList) hw Z0 (fun m => by first | (simp [entryFrame, mkF, argsToLocals, Value.category]; done) | rfl) ?_
  intro p e s m below meth c T C X
  refine s_aloadN 1 C X d5_0 rfl rfl ?_
  refine s_getfield 4 C X (host := "") d5_1 (Or.inl (List.mem_of_getElem? (i := 12) rfl)) Via.refl F_o_blocks (fun T X => ?_)
  refine s_iloadN 5 C X d5_4 rfl ?_
  refine s_bipush 7 C X d5_5 kc_bipush_10 ?_
  refine s_iushr 8 C X d5_7 ?_
  refine Run.cast (st' := [(.int (0 : Int32)), (.ref a)]) (by rw [kf_0]) ?_
  refine s_aaload 9 C X d5_8 A_a rfl ⟨by decide, by decide⟩ (v := (.ref b)) rfl ?_
  refine s_iloadN 10 C X d5_9 rfl ?_
  refine s_sipush 13 C X d5_10 kc_sipush_1023 ?_
  refine s_iand 14 C X d5_13 ?_
  refine Run.cast (st' := [(.int (0 : Int32)), (.ref b)]) (by rw [kf_1]) ?_
  refine s_iaload 15 C X d5_14 A_b ⟨by decide, by decide⟩ (v := (.int c0)) rfl ?_
  refine s_ireturn C X d5_15 rfl ?_
  exact ⟨rfl, rfl⟩
set_option maxRecDepth 65536 in
set_option maxHeartbeats 40000000 in
theorem rm_get1 (l : Launch) (Z : State) (a0 : Array Value) (hw : ∀ d ∈ tables_1, d.before a0 Z = true) (o a b : Addr) (c0 c1 c2 c3 : Int32) (k_a k_b : ClassId) (h0 : Heap) (n0 : Nat) (Z0 : n0 ≤ h0.size) (F_o_blocks : Fld Z h0 o "com/example/eventloom/eventloom/verification/IntBlockList" "blocks" "[[I" (.ref a)) (A_a : Arv Z h0 a k_a (.array .int) 1 [(.ref b)] .null) (A_b : Arv Z h0 b k_b .int 1024 [(.int c0), (.int c1), (.int c2), (.int c3)] (.int 0)) :
    Met l Z (⟨"com/example/eventloom/eventloom/verification/IntBlockList", "get", "(I)I"⟩ : MethodName) prog_118_method_3_code 2 (some .int) { frames := 0, cells := 0, slots := 0, locals := 0 } [] #[(.ref o), (.int (1 : Int32))] h0 n0 (fun v h => v = some (.int c1) ∧ h = h0) := by
  refine Met.mk (tabs := tables_1) (a0 := a0) (ls0 := #[.val (.ref o), .val (.int (1 : Int32))]) (plainFor_of_name pn_com_example_eventloom_eventloom_verification_IntBlockList) hw Z0 (fun m => by first | (simp [entryFrame, mkF, argsToLocals, Value.category]; done) | rfl) ?_
  intro p e s m below meth c T C X
  refine s_aloadN 1 C X d5_0 rfl rfl ?_
  refine s_getfield 4 C X (host := "") d5_1 (Or.inl (List.mem_of_getElem? (i := 12) rfl)) Via.refl F_o_blocks (fun T X => ?_)
  refine s_iloadN 5 C X d5_4 rfl ?_
  refine s_bipush 7 C X d5_5 kc_bipush_10 ?_
  refine s_iushr 8 C X d5_7 ?_
  refine Run.cast (st' := [(.int (0 : Int32)), (.ref a)]) (by rw [kf_3]) ?_
  refine s_aaload 9 C X d5_8 A_a rfl ⟨by decide, by decide⟩ (v := (.ref b)) rfl ?_
  refine s_iloadN 10 C X d5_9 rfl ?_
  refine s_sipush 13 C X d5_10 kc_sipush_1023 ?_
  refine s_iand 14 C X d5_13 ?_
  refine Run.cast (st' := [(.int (1 : Int32)), (.ref b)]) (by rw [kf_4]) ?_
  refine s_iaload 15 C X d5_14 A_b ⟨by decide, by decide⟩ (v := (.int c1)) rfl ?_
  refine s_ireturn C X d5_15 rfl ?_
  exact ⟨rfl, rfl⟩
set_option maxRecDepth 65536 in
set_option maxHeartbeats 40000000 in
theorem rm_get2 (l : Launch) (Z : State) (a0 : Array Value) (hw : ∀ d ∈ tables_1, d.before a0 Z = true) (o a b : Addr) (c0 c1 c2 c3 : Int32) (k_a k_b : ClassId) (h0 : Heap) (n0 : Nat) (Z0 : n0 ≤ h0.size) (F_o_blocks : Fld Z h0 o "com/example/eventloom/eventloom/verification/IntBlockList" "blocks" "[[I" (.ref a)) (A_a : Arv Z h0 a k_a (.array .int) 1 [(.ref b)] .null) (A_b : Arv Z h0 b k_b .int 1024 [(.int c0), (.int c1), (.int c2), (.int c3)] (.int 0)) :
    Met l Z (⟨"com/example/eventloom/eventloom/verification/IntBlockList", "get", "(I)I"⟩ : MethodName) prog_118_method_3_code 2 (some .int) { frames := 0, cells := 0, slots := 0, locals := 0 } [] #[(.ref o), (.int (2 : Int32))] h0 n0 (fun v h => v = some (.int c2) ∧ h = h0) := by
  refine Met.mk (tabs := tables_1) (a0 := a0) (ls0 := #[.val (.ref o), .val (.int (2 : Int32))]) (plainFor_of_name pn_com_example_eventloom_eventloom_verification_IntBlockList) hw Z0 (fun m => by first | (simp [entryFrame, mkF, argsToLocals, Value.category]; done) | rfl) ?_
  intro p e s m below meth c T C X
  refine s_aloadN 1 C X d5_0 rfl rfl ?_
  refine s_getfield 4 C X (host := "") d5_1 (Or.inl (List.mem_of_getElem? (i := 12) rfl)) Via.refl F_o_blocks (fun T X => ?_)
  refine s_iloadN 5 C X d5_4 rfl ?_
  refine s_bipush 7 C X d5_5 kc_bipush_10 ?_
  refine s_iushr 8 C X d5_7 ?_
  refine Run.cast (st' := [(.int (0 : Int32)), (.ref a)]) (by rw [kf_6]) ?_
  refine s_aaload 9 C X d5_8 A_a rfl ⟨by decide, by decide⟩ (v := (.ref b)) rfl ?_
  refine s_iloadN 10 C X d5_9 rfl ?_
  refine s_sipush 13 C X d5_10 kc_sipush_1023 ?_
  refine s_iand 14 C X d5_13 ?_
  refine Run.cast (st' := [(.int (2 : Int32)), (.ref b)]) (by rw [kf_7]) ?_
  refine s_iaload 15 C X d5_14 A_b ⟨by decide, by decide⟩ (v := (.int c2)) rfl ?_
  refine s_ireturn C X d5_15 rfl ?_
  exact ⟨rfl, rfl⟩
set_option maxRecDepth 65536 in
set_option maxHeartbeats 40000000 in
theorem rm_get3 (l : Launch) (Z : State) (a0 : Array Value) (hw : ∀ d ∈ tables_1, d.before a0 Z = true) (o a b : Addr) (c0 c1 c2 c3 : Int32) (k_a k_b : ClassId) (h0 : Heap) (n0 : Nat) (Z0 : n0 ≤ h0.size) (F_o_blocks : Fld Z h0 o "com/example/eventloom/eventloom/verification/IntBlockList" "blocks" "[[I" (.ref a)) (A_a : Arv Z h0 a k_a (.array .int) 1 [(.ref b)] .null) (A_b : Arv Z h0 b k_b .int 1024 [(.int c0), (.int c1), (.int c2), (.int c3)] (.int 0)) :
    Met l Z (⟨"com/example/eventloom/eventloom/verification/IntBlockList", "get", "(I)I"⟩ : MethodName) prog_118_method_3_code 2 (some .int) { frames := 0, cells := 0, slots := 0, locals := 0 } [] #[(.ref o), (.int (3 : Int32))] h0 n0 (fun v h => v = some (.int c3) ∧ h = h0) := by
  refine Met.mk (tabs := tables_1) (a0 := a0) (ls0 := #[.val (.ref o), .val (.int (3 : Int32))]) (plainFor_of_name pn_com_example_eventloom_eventloom_verification_IntBlockList) hw Z0 (fun m => by first | (simp [entryFrame, mkF, argsToLocals, Value.category]; done) | rfl) ?_
  intro p e s m below meth c T C X
  refine s_aloadN 1 C X d5_0 rfl rfl ?_
  refine s_getfield 4 C X (host := "") d5_1 (Or.inl (List.mem_of_getElem? (i := 12) rfl)) Via.refl F_o_blocks (fun T X => ?_)
  refine s_iloadN 5 C X d5_4 rfl ?_
  refine s_bipush 7 C X d5_5 kc_bipush_10 ?_
  refine s_iushr 8 C X d5_7 ?_
  refine Run.cast (st' := [(.int (0 : Int32)), (.ref a)]) (by rw [kf_9]) ?_
  refine s_aaload 9 C X d5_8 A_a rfl ⟨by decide, by decide⟩ (v := (.ref b)) rfl ?_
  refine s_iloadN 10 C X d5_9 rfl ?_
  refine s_sipush 13 C X d5_10 kc_sipush_1023 ?_
  refine s_iand 14 C X d5_13 ?_
  refine Run.cast (st' := [(.int (3 : Int32)), (.ref b)]) (by rw [kf_10]) ?_
  refine s_iaload 15 C X d5_14 A_b ⟨by decide, by decide⟩ (v := (.int c3)) rfl ?_
  refine s_ireturn C X d5_15 rfl ?_
  exact ⟨rfl, rfl⟩
set_option maxRecDepth 65536 in
set_option maxHeartbeats 40000000 in
theorem rm0 (l : Launch) (Z : State) (a0 : Array Value) (hw : ∀ d ∈ tables_1, d.before a0 Z = true) (x0 x1 x2 x3 x4 : Int32) (h0 : Heap) (n0 : Nat) (Z0 : n0 ≤ h0.size)  :
    Met l Z x code maxLocals ret room_1 tables_1 #[(.int x0), (.int x1), (.int x2), (.int x3), (.int x4)] h0 n0 (fun v h => v = some (.int 1)) := by
  refine Met.mk (tabs := tables_1) (a0 := a0) (ls0 := #[.val (.int x0), .val (.int x1), .val (.int x2), .val (.int x3), .val (.int x4), .unset, .unset, .unset]) (plainFor_of_name pn_com_example_eventloom_eventloom_verification_IntBlockListGetPinLaw) hw Z0 (fun m => by first | (simp [entryFrame, mkF, argsToLocals, Value.category, maxLocals]; done) | rfl) ?_
  intro p e s m below meth c T C X
  refine s_iload 2 C X at_0 rfl ?_
  refine s_ldcInt 4 C X at_2 (List.mem_of_getElem? (i := 0) rfl) ?_
  refine s_iand 5 C X at_4 ?_
  refine s_iconst 6 C X at_5 kc_iconst_5 ?_
  refine s_irem 7 C X at_6 (by decide) ?_
  rcases own_5 x4 with hc | hc | hc | hc | hc
  · refine Run.cast (st' := [(.int (0 : Int32))]) (by rw [hc]) ?_
    refine s_istore 9 C X (l' := #[.val (.int x0), .val (.int x1), .val (.int x2), .val (.int x3), .val (.int x4), .val (.int (0 : Int32)), .unset, .unset]) at_7 rfl ?_
    refine s_new 12 C X at_9 (List.mem_of_getElem? (i := 1) rfl) (List.mem_of_getElem? (i := 2) rfl) (List.mem_of_getElem? (i := 3) rfl) (fun T _ o1 hb_o1 X E E_o1 D g_o1 => ?_)
    have F_o1_blocks : Fld Z _ o1 "com/example/eventloom/eventloom/verification/IntBlockList" "blocks" "[[I" .null := D (Or.inl (hw _ (List.mem_of_getElem? (i := 13) rfl))) (ty := (.array (.array .int))) (by decide)
    have F_o1_size : Fld Z _ o1 "com/example/eventloom/eventloom/verification/IntBlockList" "size" "I" (.int (0 : Int32)) := D (Or.inl (hw _ (List.mem_of_getElem? (i := 20) rfl))) (ty := .int) (by decide)
    refine s_dup 13 C X at_12 rfl ?_
    refine s_callC 16 [] [(.ref o1)] 1 C X at_13 rfl (List.mem_of_getElem? (i := 4) rfl) (List.mem_of_getElem? (i := 5) rfl) (List.mem_of_getElem? (i := 3) rfl) (List.mem_of_getElem? (i := 6) rfl) (rm_init l Z a0 hw o1 _ n0 X.sz F_o1_blocks F_o1_size E_o1 g_o1) (lenOf pd___V rfl) rfl rfl rfl (fun T v h1 X q => ?_)
    obtain ⟨rfl, a, k_a, F_blocks, F_size, E_o1, A_a, O_a, g_a, ne_o_a⟩ := q
    refine Run.cast (st' := [(.ref o1)]) rfl ?_
    refine s_astore 18 C X (l' := #[.val (.int x0), .val (.int x1), .val (.int x2), .val (.int x3), .val (.int x4), .val (.int (0 : Int32)), .val (.ref o1), .unset]) at_16 rfl rfl ?_
    refine s_iload 20 C X at_18 rfl ?_
    refine s_if_le 29 23 C X at_20 (fun _ => ?_) (fun c => absurd c (by decide))
    refine s_iload 31 C X at_29 rfl ?_
    refine s_iconst 32 C X at_31 kc_iconst_1 ?_
    refine s_icmp_le 41 35 C X at_32 (fun _ => ?_) (fun c => absurd c (by decide))
    refine s_iload 43 C X at_41 rfl ?_
    refine s_iconst 44 C X at_43 kc_iconst_2 ?_
    refine s_icmp_le 53 47 C X at_44 (fun _ => ?_) (fun c => absurd c (by decide))
    refine s_iload 55 C X at_53 rfl ?_
    refine s_iconst 56 C X at_55 kc_iconst_3 ?_
    refine s_icmp_le 65 59 C X at_56 (fun _ => ?_) (fun c => absurd c (by decide))
    refine s_aload 67 C X at_65 rfl rfl ?_
    refine s_callV 70 [] [] 0 C X at_67 (List.mem_of_getElem? (i := 14) rfl) (List.mem_of_getElem? (i := 15) rfl) (notFace_of_selects (args := #[]) (mvT C.2.1 (C.w (List.mem_of_getElem? (i := 17) rfl)))) (List.mem_of_getElem? (i := 17) rfl) (List.mem_of_getElem? (i := 16) rfl) (List.mem_of_getElem? (i := 3) rfl) (List.mem_of_getElem? (i := 18) rfl) E_o1 (rm_size l Z a0 hw o1 a 0 _ n0 X.sz F_size) (lenOf pd___I rfl) rfl rfl rfl (fun T v h2 X q => ?_)
    obtain ⟨rfl, hE⟩ := q
    rw [hE] at X
    refine Run.cast (st' := [(.int (0 : Int32))]) rfl ?_
    refine s_iload 72 C X at_70 rfl ?_
    refine s_icmp_ne 79 75 C X at_72 (fun c => absurd (by decide : (0 : Int32) = (0 : Int32)) c) (fun _ => ?_)
    refine s_iconst 76 C X at_75 kc_iconst_1 ?_
    refine s_goto 80 C X at_76 ?_
    refine s_istore 82 C X (l' := #[.val (.int x0), .val (.int x1), .val (.int x2), .val (.int x3), .val (.int x4), .val (.int (0 : Int32)), .val (.ref o1), .val (.int (1 : Int32))]) at_80 rfl ?_
    refine s_iload 84 C X at_82 rfl ?_
    refine s_if_le 109 87 C X at_84 (fun _ => ?_) (fun c => absurd c (by decide))
    refine s_iload 111 C X at_109 rfl ?_
    refine s_iconst 112 C X at_111 kc_iconst_1 ?_
    refine s_icmp_le 137 115 C X at_112 (fun _ => ?_) (fun c => absurd c (by decide))
    refine s_iload 139 C X at_137 rfl ?_
    refine s_iconst 140 C X at_139 kc_iconst_2 ?_
    refine s_icmp_le 165 143 C X at_140 (fun _ => ?_) (fun c => absurd c (by decide))
    refine s_iload 167 C X at_165 rfl ?_
    refine s_iconst 168 C X at_167 kc_iconst_3 ?_
    refine s_icmp_le 193 171 C X at_168 (fun _ => ?_) (fun c => absurd c (by decide))
    refine s_iload 195 C X at_193 rfl ?_
    refine s_nreturn C X at_195 rfl (by simp) rfl ?_
    rfl
  · refine Run.cast (st' := [(.int (1 : Int32))]) (by rw [hc]) ?_
    refine s_istore 9 C X (l' := #[.val (.int x0), .val (.int x1), .val (.int x2), .val (.int x3), .val (.int x4), .val (.int (1 : Int32)), .unset, .unset]) at_7 rfl ?_
    refine s_new 12 C X at_9 (List.mem_of_getElem? (i := 1) rfl) (List.mem_of_getElem? (i := 2) rfl) (List.mem_of_getElem? (i := 3) rfl) (fun T _ o4 hb_o4 X E E_o4 D g_o4 => ?_)
    have F_o4_blocks : Fld Z _ o4 "com/example/eventloom/eventloom/verification/IntBlockList" "blocks" "[[I" .null := D (Or.inl (hw _ (List.mem_of_getElem? (i := 13) rfl))) (ty := (.array (.array .int))) (by decide)
    have F_o4_size : Fld Z _ o4 "com/example/eventloom/eventloom/verification/IntBlockList" "size" "I" (.int (0 : Int32)) := D (Or.inl (hw _ (List.mem_of_getElem? (i := 20) rfl))) (ty := .int) (by decide)
    refine s_dup 13 C X at_12 rfl ?_
    refine s_callC 16 [] [(.ref o4)] 1 C X at_13 rfl (List.mem_of_getElem? (i := 4) rfl) (List.mem_of_getElem? (i := 5) rfl) (List.mem_of_getElem? (i := 3) rfl) (List.mem_of_getElem? (i := 6) rfl) (rm_init l Z a0 hw o4 _ n0 X.sz F_o4_blocks F_o4_size E_o4 g_o4) (lenOf pd___V rfl) rfl rfl rfl (fun T v h4 X q => ?_)
    obtain ⟨rfl, a, k_a, F_blocks, F_size, E_o4, A_a, O_a, g_a, ne_o_a⟩ := q
    refine Run.cast (st' := [(.ref o4)]) rfl ?_
    refine s_astore 18 C X (l' := #[.val (.int x0), .val (.int x1), .val (.int x2), .val (.int x3), .val (.int x4), .val (.int (1 : Int32)), .val (.ref o4), .unset]) at_16 rfl rfl ?_
    refine s_iload 20 C X at_18 rfl ?_
    refine s_if_le 29 23 C X at_20 (fun c => absurd (by decide : (0 : Int32) < (1 : Int32)) c) (fun _ => ?_)
    refine s_aload 25 C X at_23 rfl rfl ?_
    refine s_iloadN 26 C X at_25 rfl ?_
    refine s_callV 29 [(.int x0)] [] 0 C X at_26 (List.mem_of_getElem? (i := 21) rfl) (List.mem_of_getElem? (i := 22) rfl) (notFace_of_selects (args := #[]) (mvT C.2.1 (C.w (List.mem_of_getElem? (i := 24) rfl)))) (List.mem_of_getElem? (i := 24) rfl) (List.mem_of_getElem? (i := 23) rfl) (List.mem_of_getElem? (i := 3) rfl) (List.mem_of_getElem? (i := 25) rfl) E_o4 (rm_add0 l Z a0 hw o4 a x0 k_a _ n0 X.sz F_blocks F_size E_o4 A_a O_a g_o4 g_a ne_o_a) (lenOf pd__I_V rfl) rfl rfl rfl (fun T v h5 X q => ?_)
    obtain ⟨rfl, bb, k_b, F_blocks, F_size, E_o4, A_a, A_b, g_b, ne_o_b, ne_a_b⟩ := q
    refine Run.cast (st' := []) rfl ?_
    refine s_iload 31 C X at_29 rfl ?_
    refine s_iconst 32 C X at_31 kc_iconst_1 ?_
    refine s_icmp_le 41 35 C X at_32 (fun _ => ?_) (fun c => absurd c (by decide))
    refine s_iload 43 C X at_41 rfl ?_
    refine s_iconst 44 C X at_43 kc_iconst_2 ?_
    refine s_icmp_le 53 47 C X at_44 (fun _ => ?_) (fun c => absurd c (by decide))
    refine s_iload 55 C X at_53 rfl ?_
    refine s_iconst 56 C X at_55 kc_iconst_3 ?_
    refine s_icmp_le 65 59 C X at_56 (fun _ => ?_) (fun c => absurd c (by decide))
    refine s_aload 67 C X at_65 rfl rfl ?_
    refine s_callV 70 [] [] 0 C X at_67 (List.mem_of_getElem? (i := 14) rfl) (List.mem_of_getElem? (i := 15) rfl) (notFace_of_selects (args := #[]) (mvT C.2.1 (C.w (List.mem_of_getElem? (i := 17) rfl)))) (List.mem_of_getElem? (i := 17) rfl) (List.mem_of_getElem? (i := 16) rfl) (List.mem_of_getElem? (i := 3) rfl) (List.mem_of_getElem? (i := 18) rfl) E_o4 (rm_size l Z a0 hw o4 a 1 _ n0 X.sz F_size) (lenOf pd___I rfl) rfl rfl rfl (fun T v h6 X q => ?_)
    obtain ⟨rfl, hE⟩ := q
    rw [hE] at X
    refine Run.cast (st' := [(.int (1 : Int32))]) rfl ?_
    refine s_iload 72 C X at_70 rfl ?_
    refine s_icmp_ne 79 75 C X at_72 (fun c => absurd (by decide : (1 : Int32) = (1 : Int32)) c) (fun _ => ?_)
    refine s_iconst 76 C X at_75 kc_iconst_1 ?_
    refine s_goto 80 C X at_76 ?_
    refine s_istore 82 C X (l' := #[.val (.int x0), .val (.int x1), .val (.int x2), .val (.int x3), .val (.int x4), .val (.int (1 : Int32)), .val (.ref o4), .val (.int (1 : Int32))]) at_80 rfl ?_
    refine s_iload 84 C X at_82 rfl ?_
    refine s_if_le 109 87 C X at_84 (fun c => absurd (by decide : (0 : Int32) < (1 : Int32)) c) (fun _ => ?_)
    refine s_iload 89 C X at_87 rfl ?_
    refine s_if_eq 106 92 C X at_89 (fun c => absurd c (by decide)) (fun _ => ?_)
    refine s_aload 94 C X at_92 rfl rfl ?_
    refine s_iconst 95 C X at_94 kc_iconst_0 ?_
    refine s_callV 98 [(.int (0 : Int32))] [] 0 C X at_95 (List.mem_of_getElem? (i := 29) rfl) (List.mem_of_getElem? (i := 30) rfl) (notFace_of_selects (args := #[]) (mvT C.2.1 (C.w (List.mem_of_getElem? (i := 32) rfl)))) (List.mem_of_getElem? (i := 32) rfl) (List.mem_of_getElem? (i := 31) rfl) (List.mem_of_getElem? (i := 3) rfl) (List.mem_of_getElem? (i := 33) rfl) E_o4 (rm_get0 l Z a0 hw o4 a bb x0 0 0 0 k_a k_b _ n0 X.sz F_blocks A_a A_b) (lenOf pd__I_I rfl) rfl rfl rfl (fun T v h7 X q => ?_)
    obtain ⟨rfl, hE⟩ := q
    rw [hE] at X
    refine Run.cast (st' := [(.int x0)]) rfl ?_
    refine s_iloadN 99 C X at_98 rfl ?_
    refine s_icmp_ne 106 102 C X at_99 (fun c => absurd rfl c) (fun _ => ?_)
    refine s_iconst 103 C X at_102 kc_iconst_1 ?_
    refine s_goto 107 C X at_103 ?_
    refine s_istore 109 C X (l' := #[.val (.int x0), .val (.int x1), .val (.int x2), .val (.int x3), .val (.int x4), .val (.int (1 : Int32)), .val (.ref o4), .val (.int (1 : Int32))]) at_107 rfl ?_
    refine s_iload 111 C X at_109 rfl ?_
    refine s_iconst 112 C X at_111 kc_iconst_1 ?_
    refine s_icmp_le 137 115 C X at_112 (fun _ => ?_) (fun c => absurd c (by decide))
    refine s_iload 139 C X at_137 rfl ?_
    refine s_iconst 140 C X at_139 kc_iconst_2 ?_
    refine s_icmp_le 165 143 C X at_140 (fun _ => ?_) (fun c => absurd c (by decide))
    refine s_iload 167 C X at_165 rfl ?_
    refine s_iconst 168 C X at_167 kc_iconst_3 ?_
    refine s_icmp_le 193 171 C X at_168 (fun _ => ?_) (fun c => absurd c (by decide))
    refine s_iload 195 C X at_193 rfl ?_
    refine s_nreturn C X at_195 rfl (by simp) rfl ?_
    rfl
  · refine Run.cast (st' := [(.int (2 : Int32))]) (by rw [hc]) ?_
    refine s_istore 9 C X (l' := #[.val (.int x0), .val (.int x1), .val (.int x2), .val (.int x3), .val (.int x4), .val (.int (2 : Int32)), .unset, .unset]) at_7 rfl ?_
    refine s_new 12 C X at_9 (List.mem_of_getElem? (i := 1) rfl) (List.mem_of_getElem? (i := 2) rfl) (List.mem_of_getElem? (i := 3) rfl) (fun T _ o9 hb_o9 X E E_o9 D g_o9 => ?_)
    have F_o9_blocks : Fld Z _ o9 "com/example/eventloom/eventloom/verification/IntBlockList" "blocks" "[[I" .null := D (Or.inl (hw _ (List.mem_of_getElem? (i := 13) rfl))) (ty := (.array (.array .int))) (by decide)
    have F_o9_size : Fld Z _ o9 "com/example/eventloom/eventloom/verification/IntBlockList" "size" "I" (.int (0 : Int32)) := D (Or.inl (hw _ (List.mem_of_getElem? (i := 20) rfl))) (ty := .int) (by decide)
    refine s_dup 13 C X at_12 rfl ?_
    refine s_callC 16 [] [(.ref o9)] 1 C X at_13 rfl (List.mem_of_getElem? (i := 4) rfl) (List.mem_of_getElem? (i := 5) rfl) (List.mem_of_getElem? (i := 3) rfl) (List.mem_of_getElem? (i := 6) rfl) (rm_init l Z a0 hw o9 _ n0 X.sz F_o9_blocks F_o9_size E_o9 g_o9) (lenOf pd___V rfl) rfl rfl rfl (fun T v h9 X q => ?_)
    obtain ⟨rfl, a, k_a, F_blocks, F_size, E_o9, A_a, O_a, g_a, ne_o_a⟩ := q
    refine Run.cast (st' := [(.ref o9)]) rfl ?_
    refine s_astore 18 C X (l' := #[.val (.int x0), .val (.int x1), .val (.int x2), .val (.int x3), .val (.int x4), .val (.int (2 : Int32)), .val (.ref o9), .unset]) at_16 rfl rfl ?_
    refine s_iload 20 C X at_18 rfl ?_
    refine s_if_le 29 23 C X at_20 (fun c => absurd (by decide : (0 : Int32) < (2 : Int32)) c) (fun _ => ?_)
    refine s_aload 25 C X at_23 rfl rfl ?_
    refine s_iloadN 26 C X at_25 rfl ?_
    refine s_callV 29 [(.int x0)] [] 0 C X at_26 (List.mem_of_getElem? (i := 21) rfl) (List.mem_of_getElem? (i := 22) rfl) (notFace_of_selects (args := #[]) (mvT C.2.1 (C.w (List.mem_of_getElem? (i := 24) rfl)))) (List.mem_of_getElem? (i := 24) rfl) (List.mem_of_getElem? (i := 23) rfl) (List.mem_of_getElem? (i := 3) rfl) (List.mem_of_getElem? (i := 25) rfl) E_o9 (rm_add0 l Z a0 hw o9 a x0 k_a _ n0 X.sz F_blocks F_size E_o9 A_a O_a g_o9 g_a ne_o_a) (lenOf pd__I_V rfl) rfl rfl rfl (fun T v h10 X q => ?_)
    obtain ⟨rfl, bb, k_b, F_blocks, F_size, E_o9, A_a, A_b, g_b, ne_o_b, ne_a_b⟩ := q
    refine Run.cast (st' := []) rfl ?_
    refine s_iload 31 C X at_29 rfl ?_
    refine s_iconst 32 C X at_31 kc_iconst_1 ?_
    refine s_icmp_le 41 35 C X at_32 (fun c => absurd (by decide : (1 : Int32) < (2 : Int32)) c) (fun _ => ?_)
    refine s_aload 37 C X at_35 rfl rfl ?_
    refine s_iloadN 38 C X at_37 rfl ?_
    refine s_callV 41 [(.int x1)] [] 0 C X at_38 (List.mem_of_getElem? (i := 21) rfl) (List.mem_of_getElem? (i := 22) rfl) (notFace_of_selects (args := #[]) (mvT C.2.1 (C.w (List.mem_of_getElem? (i := 24) rfl)))) (List.mem_of_getElem? (i := 24) rfl) (List.mem_of_getElem? (i := 23) rfl) (List.mem_of_getElem? (i := 3) rfl) (List.mem_of_getElem? (i := 25) rfl) E_o9 (rm_add1 l Z a0 hw o9 a bb x1 x0 0 0 0 k_a k_b _ n0 X.sz F_blocks F_size E_o9 A_a A_b g_o9 g_a g_b ne_o_a ne_o_b ne_a_b) (lenOf pd__I_V rfl) rfl rfl rfl (fun T v h11 X q => ?_)
    obtain ⟨rfl, F_blocks, F_size, E_o9, A_a, A_b⟩ := q
    refine Run.cast (st' := []) rfl ?_
    refine s_iload 43 C X at_41 rfl ?_
    refine s_iconst 44 C X at_43 kc_iconst_2 ?_
    refine s_icmp_le 53 47 C X at_44 (fun _ => ?_) (fun c => absurd c (by decide))
    refine s_iload 55 C X at_53 rfl ?_
    refine s_iconst 56 C X at_55 kc_iconst_3 ?_
    refine s_icmp_le 65 59 C X at_56 (fun _ => ?_) (fun c => absurd c (by decide))
    refine s_aload 67 C X at_65 rfl rfl ?_
    refine s_callV 70 [] [] 0 C X at_67 (List.mem_of_getElem? (i := 14) rfl) (List.mem_of_getElem? (i := 15) rfl) (notFace_of_selects (args := #[]) (mvT C.2.1 (C.w (List.mem_of_getElem? (i := 17) rfl)))) (List.mem_of_getElem? (i := 17) rfl) (List.mem_of_getElem? (i := 16) rfl) (List.mem_of_getElem? (i := 3) rfl) (List.mem_of_getElem? (i := 18) rfl) E_o9 (rm_size l Z a0 hw o9 a 2 _ n0 X.sz F_size) (lenOf pd___I rfl) rfl rfl rfl (fun T v h12 X q => ?_)
    obtain ⟨rfl, hE⟩ := q
    rw [hE] at X
    refine Run.cast (st' := [(.int (2 : Int32))]) rfl ?_
    refine s_iload 72 C X at_70 rfl ?_
    refine s_icmp_ne 79 75 C X at_72 (fun c => absurd (by decide : (2 : Int32) = (2 : Int32)) c) (fun _ => ?_)
    refine s_iconst 76 C X at_75 kc_iconst_1 ?_
    refine s_goto 80 C X at_76 ?_
    refine s_istore 82 C X (l' := #[.val (.int x0), .val (.int x1), .val (.int x2), .val (.int x3), .val (.int x4), .val (.int (2 : Int32)), .val (.ref o9), .val (.int (1 : Int32))]) at_80 rfl ?_
    refine s_iload 84 C X at_82 rfl ?_
    refine s_if_le 109 87 C X at_84 (fun c => absurd (by decide : (0 : Int32) < (2 : Int32)) c) (fun _ => ?_)
    refine s_iload 89 C X at_87 rfl ?_
    refine s_if_eq 106 92 C X at_89 (fun c => absurd c (by decide)) (fun _ => ?_)
    refine s_aload 94 C X at_92 rfl rfl ?_
    refine s_iconst 95 C X at_94 kc_iconst_0 ?_
    refine s_callV 98 [(.int (0 : Int32))] [] 0 C X at_95 (List.mem_of_getElem? (i := 29) rfl) (List.mem_of_getElem? (i := 30) rfl) (notFace_of_selects (args := #[]) (mvT C.2.1 (C.w (List.mem_of_getElem? (i := 32) rfl)))) (List.mem_of_getElem? (i := 32) rfl) (List.mem_of_getElem? (i := 31) rfl) (List.mem_of_getElem? (i := 3) rfl) (List.mem_of_getElem? (i := 33) rfl) E_o9 (rm_get0 l Z a0 hw o9 a bb x0 x1 0 0 k_a k_b _ n0 X.sz F_blocks A_a A_b) (lenOf pd__I_I rfl) rfl rfl rfl (fun T v h13 X q => ?_)
    obtain ⟨rfl, hE⟩ := q
    rw [hE] at X
    refine Run.cast (st' := [(.int x0)]) rfl ?_
    refine s_iloadN 99 C X at_98 rfl ?_
    refine s_icmp_ne 106 102 C X at_99 (fun c => absurd rfl c) (fun _ => ?_)
    refine s_iconst 103 C X at_102 kc_iconst_1 ?_
    refine s_goto 107 C X at_103 ?_
    refine s_istore 109 C X (l' := #[.val (.int x0), .val (.int x1), .val (.int x2), .val (.int x3), .val (.int x4), .val (.int (2 : Int32)), .val (.ref o9), .val (.int (1 : Int32))]) at_107 rfl ?_
    refine s_iload 111 C X at_109 rfl ?_
    refine s_iconst 112 C X at_111 kc_iconst_1 ?_
    refine s_icmp_le 137 115 C X at_112 (fun c => absurd (by decide : (1 : Int32) < (2 : Int32)) c) (fun _ => ?_)
    refine s_iload 117 C X at_115 rfl ?_
    refine s_if_eq 134 120 C X at_117 (fun c => absurd c (by decide)) (fun _ => ?_)
    refine s_aload 122 C X at_120 rfl rfl ?_
    refine s_iconst 123 C X at_122 kc_iconst_1 ?_
    refine s_callV 126 [(.int (1 : Int32))] [] 0 C X at_123 (List.mem_of_getElem? (i := 29) rfl) (List.mem_of_getElem? (i := 30) rfl) (notFace_of_selects (args := #[]) (mvT C.2.1 (C.w (List.mem_of_getElem? (i := 32) rfl)))) (List.mem_of_getElem? (i := 32) rfl) (List.mem_of_getElem? (i := 31) rfl) (List.mem_of_getElem? (i := 3) rfl) (List.mem_of_getElem? (i := 33) rfl) E_o9 (rm_get1 l Z a0 hw o9 a bb x0 x1 0 0 k_a k_b _ n0 X.sz F_blocks A_a A_b) (lenOf pd__I_I rfl) rfl rfl rfl (fun T v h14 X q => ?_)
    obtain ⟨rfl, hE⟩ := q
    rw [hE] at X
    refine Run.cast (st' := [(.int x1)]) rfl ?_
    refine s_iloadN 127 C X at_126 rfl ?_
    refine s_icmp_ne 134 130 C X at_127 (fun c => absurd rfl c) (fun _ => ?_)
    refine s_iconst 131 C X at_130 kc_iconst_1 ?_
    refine s_goto 135 C X at_131 ?_
    refine s_istore 137 C X (l' := #[.val (.int x0), .val (.int x1), .val (.int x2), .val (.int x3), .val (.int x4), .val (.int (2 : Int32)), .val (.ref o9), .val (.int (1 : Int32))]) at_135 rfl ?_
    refine s_iload 139 C X at_137 rfl ?_
    refine s_iconst 140 C X at_139 kc_iconst_2 ?_
    refine s_icmp_le 165 143 C X at_140 (fun _ => ?_) (fun c => absurd c (by decide))
    refine s_iload 167 C X at_165 rfl ?_
    refine s_iconst 168 C X at_167 kc_iconst_3 ?_
    refine s_icmp_le 193 171 C X at_168 (fun _ => ?_) (fun c => absurd c (by decide))
    refine s_iload 195 C X at_193 rfl ?_
    refine s_nreturn C X at_195 rfl (by simp) rfl ?_
    rfl
  · refine Run.cast (st' := [(.int (3 : Int32))]) (by rw [hc]) ?_
    refine s_istore 9 C X (l' := #[.val (.int x0), .val (.int x1), .val (.int x2), .val (.int x3), .val (.int x4), .val (.int (3 : Int32)), .unset, .unset]) at_7 rfl ?_
    refine s_new 12 C X at_9 (List.mem_of_getElem? (i := 1) rfl) (List.mem_of_getElem? (i := 2) rfl) (List.mem_of_getElem? (i := 3) rfl) (fun T _ o16 hb_o16 X E E_o16 D g_o16 => ?_)
    have F_o16_blocks : Fld Z _ o16 "com/example/eventloom/eventloom/verification/IntBlockList" "blocks" "[[I" .null := D (Or.inl (hw _ (List.mem_of_getElem? (i := 13) rfl))) (ty := (.array (.array .int))) (by decide)
    have F_o16_size : Fld Z _ o16 "com/example/eventloom/eventloom/verification/IntBlockList" "size" "I" (.int (0 : Int32)) := D (Or.inl (hw _ (List.mem_of_getElem? (i := 20) rfl))) (ty := .int) (by decide)
    refine s_dup 13 C X at_12 rfl ?_
    refine s_callC 16 [] [(.ref o16)] 1 C X at_13 rfl (List.mem_of_getElem? (i := 4) rfl) (List.mem_of_getElem? (i := 5) rfl) (List.mem_of_getElem? (i := 3) rfl) (List.mem_of_getElem? (i := 6) rfl) (rm_init l Z a0 hw o16 _ n0 X.sz F_o16_blocks F_o16_size E_o16 g_o16) (lenOf pd___V rfl) rfl rfl rfl (fun T v h16 X q => ?_)
    obtain ⟨rfl, a, k_a, F_blocks, F_size, E_o16, A_a, O_a, g_a, ne_o_a⟩ := q
    refine Run.cast (st' := [(.ref o16)]) rfl ?_
    refine s_astore 18 C X (l' := #[.val (.int x0), .val (.int x1), .val (.int x2), .val (.int x3), .val (.int x4), .val (.int (3 : Int32)), .val (.ref o16), .unset]) at_16 rfl rfl ?_
    refine s_iload 20 C X at_18 rfl ?_
    refine s_if_le 29 23 C X at_20 (fun c => absurd (by decide : (0 : Int32) < (3 : Int32)) c) (fun _ => ?_)
    refine s_aload 25 C X at_23 rfl rfl ?_
    refine s_iloadN 26 C X at_25 rfl ?_
    refine s_callV 29 [(.int x0)] [] 0 C X at_26 (List.mem_of_getElem? (i := 21) rfl) (List.mem_of_getElem? (i := 22) rfl) (notFace_of_selects (args := #[]) (mvT C.2.1 (C.w (List.mem_of_getElem? (i := 24) rfl)))) (List.mem_of_getElem? (i := 24) rfl) (List.mem_of_getElem? (i := 23) rfl) (List.mem_of_getElem? (i := 3) rfl) (List.mem_of_getElem? (i := 25) rfl) E_o16 (rm_add0 l Z a0 hw o16 a x0 k_a _ n0 X.sz F_blocks F_size E_o16 A_a O_a g_o16 g_a ne_o_a) (lenOf pd__I_V rfl) rfl rfl rfl (fun T v h17 X q => ?_)
    obtain ⟨rfl, bb, k_b, F_blocks, F_size, E_o16, A_a, A_b, g_b, ne_o_b, ne_a_b⟩ := q
    refine Run.cast (st' := []) rfl ?_
    refine s_iload 31 C X at_29 rfl ?_
    refine s_iconst 32 C X at_31 kc_iconst_1 ?_
    refine s_icmp_le 41 35 C X at_32 (fun c => absurd (by decide : (1 : Int32) < (3 : Int32)) c) (fun _ => ?_)
    refine s_aload 37 C X at_35 rfl rfl ?_
    refine s_iloadN 38 C X at_37 rfl ?_
    refine s_callV 41 [(.int x1)] [] 0 C X at_38 (List.mem_of_getElem? (i := 21) rfl) (List.mem_of_getElem? (i := 22) rfl) (notFace_of_selects (args := #[]) (mvT C.2.1 (C.w (List.mem_of_getElem? (i := 24) rfl)))) (List.mem_of_getElem? (i := 24) rfl) (List.mem_of_getElem? (i := 23) rfl) (List.mem_of_getElem? (i := 3) rfl) (List.mem_of_getElem? (i := 25) rfl) E_o16 (rm_add1 l Z a0 hw o16 a bb x1 x0 0 0 0 k_a k_b _ n0 X.sz F_blocks F_size E_o16 A_a A_b g_o16 g_a g_b ne_o_a ne_o_b ne_a_b) (lenOf pd__I_V rfl) rfl rfl rfl (fun T v h18 X q => ?_)
    obtain ⟨rfl, F_blocks, F_size, E_o16, A_a, A_b⟩ := q
    refine Run.cast (st' := []) rfl ?_
    refine s_iload 43 C X at_41 rfl ?_
    refine s_iconst 44 C X at_43 kc_iconst_2 ?_
    refine s_icmp_le 53 47 C X at_44 (fun c => absurd (by decide : (2 : Int32) < (3 : Int32)) c) (fun _ => ?_)
    refine s_aload 49 C X at_47 rfl rfl ?_
    refine s_iloadN 50 C X at_49 rfl ?_
    refine s_callV 53 [(.int x2)] [] 0 C X at_50 (List.mem_of_getElem? (i := 21) rfl) (List.mem_of_getElem? (i := 22) rfl) (notFace_of_selects (args := #[]) (mvT C.2.1 (C.w (List.mem_of_getElem? (i := 24) rfl)))) (List.mem_of_getElem? (i := 24) rfl) (List.mem_of_getElem? (i := 23) rfl) (List.mem_of_getElem? (i := 3) rfl) (List.mem_of_getElem? (i := 25) rfl) E_o16 (rm_add2 l Z a0 hw o16 a bb x2 x0 x1 0 0 k_a k_b _ n0 X.sz F_blocks F_size E_o16 A_a A_b g_o16 g_a g_b ne_o_a ne_o_b ne_a_b) (lenOf pd__I_V rfl) rfl rfl rfl (fun T v h19 X q => ?_)
    obtain ⟨rfl, F_blocks, F_size, E_o16, A_a, A_b⟩ := q
    refine Run.cast (st' := []) rfl ?_
    refine s_iload 55 C X at_53 rfl ?_
    refine s_iconst 56 C X at_55 kc_iconst_3 ?_
    refine s_icmp_le 65 59 C X at_56 (fun _ => ?_) (fun c => absurd c (by decide))
    refine s_aload 67 C X at_65 rfl rfl ?_
    refine s_callV 70 [] [] 0 C X at_67 (List.mem_of_getElem? (i := 14) rfl) (List.mem_of_getElem? (i := 15) rfl) (notFace_of_selects (args := #[]) (mvT C.2.1 (C.w (List.mem_of_getElem? (i := 17) rfl)))) (List.mem_of_getElem? (i := 17) rfl) (List.mem_of_getElem? (i := 16) rfl) (List.mem_of_getElem? (i := 3) rfl) (List.mem_of_getElem? (i := 18) rfl) E_o16 (rm_size l Z a0 hw o16 a 3 _ n0 X.sz F_size) (lenOf pd___I rfl) rfl rfl rfl (fun T v h20 X q => ?_)
    obtain ⟨rfl, hE⟩ := q
    rw [hE] at X
    refine Run.cast (st' := [(.int (3 : Int32))]) rfl ?_
    refine s_iload 72 C X at_70 rfl ?_
    refine s_icmp_ne 79 75 C X at_72 (fun c => absurd (by decide : (3 : Int32) = (3 : Int32)) c) (fun _ => ?_)
    refine s_iconst 76 C X at_75 kc_iconst_1 ?_
    refine s_goto 80 C X at_76 ?_
    refine s_istore 82 C X (l' := #[.val (.int x0), .val (.int x1), .val (.int x2), .val (.int x3), .val (.int x4), .val (.int (3 : Int32)), .val (.ref o16), .val (.int (1 : Int32))]) at_80 rfl ?_
    refine s_iload 84 C X at_82 rfl ?_
    refine s_if_le 109 87 C X at_84 (fun c => absurd (by decide : (0 : Int32) < (3 : Int32)) c) (fun _ => ?_)
    refine s_iload 89 C X at_87 rfl ?_
    refine s_if_eq 106 92 C X at_89 (fun c => absurd c (by decide)) (fun _ => ?_)
    refine s_aload 94 C X at_92 rfl rfl ?_
    refine s_iconst 95 C X at_94 kc_iconst_0 ?_
    refine s_callV 98 [(.int (0 : Int32))] [] 0 C X at_95 (List.mem_of_getElem? (i := 29) rfl) (List.mem_of_getElem? (i := 30) rfl) (notFace_of_selects (args := #[]) (mvT C.2.1 (C.w (List.mem_of_getElem? (i := 32) rfl)))) (List.mem_of_getElem? (i := 32) rfl) (List.mem_of_getElem? (i := 31) rfl) (List.mem_of_getElem? (i := 3) rfl) (List.mem_of_getElem? (i := 33) rfl) E_o16 (rm_get0 l Z a0 hw o16 a bb x0 x1 x2 0 k_a k_b _ n0 X.sz F_blocks A_a A_b) (lenOf pd__I_I rfl) rfl rfl rfl (fun T v h21 X q => ?_)
    obtain ⟨rfl, hE⟩ := q
    rw [hE] at X
    refine Run.cast (st' := [(.int x0)]) rfl ?_
    refine s_iloadN 99 C X at_98 rfl ?_
    refine s_icmp_ne 106 102 C X at_99 (fun c => absurd rfl c) (fun _ => ?_)
    refine s_iconst 103 C X at_102 kc_iconst_1 ?_
    refine s_goto 107 C X at_103 ?_
    refine s_istore 109 C X (l' := #[.val (.int x0), .val (.int x1), .val (.int x2), .val (.int x3), .val (.int x4), .val (.int (3 : Int32)), .val (.ref o16), .val (.int (1 : Int32))]) at_107 rfl ?_
    refine s_iload 111 C X at_109 rfl ?_
    refine s_iconst 112 C X at_111 kc_iconst_1 ?_
    refine s_icmp_le 137 115 C X at_112 (fun c => absurd (by decide : (1 : Int32) < (3 : Int32)) c) (fun _ => ?_)
    refine s_iload 117 C X at_115 rfl ?_
    refine s_if_eq 134 120 C X at_117 (fun c => absurd c (by decide)) (fun _ => ?_)
    refine s_aload 122 C X at_120 rfl rfl ?_
    refine s_iconst 123 C X at_122 kc_iconst_1 ?_
    refine s_callV 126 [(.int (1 : Int32))] [] 0 C X at_123 (List.mem_of_getElem? (i := 29) rfl) (List.mem_of_getElem? (i := 30) rfl) (notFace_of_selects (args := #[]) (mvT C.2.1 (C.w (List.mem_of_getElem? (i := 32) rfl)))) (List.mem_of_getElem? (i := 32) rfl) (List.mem_of_getElem? (i := 31) rfl) (List.mem_of_getElem? (i := 3) rfl) (List.mem_of_getElem? (i := 33) rfl) E_o16 (rm_get1 l Z a0 hw o16 a bb x0 x1 x2 0 k_a k_b _ n0 X.sz F_blocks A_a A_b) (lenOf pd__I_I rfl) rfl rfl rfl (fun T v h22 X q => ?_)
    obtain ⟨rfl, hE⟩ := q
    rw [hE] at X
    refine Run.cast (st' := [(.int x1)]) rfl ?_
    refine s_iloadN 127 C X at_126 rfl ?_
    refine s_icmp_ne 134 130 C X at_127 (fun c => absurd rfl c) (fun _ => ?_)
    refine s_iconst 131 C X at_130 kc_iconst_1 ?_
    refine s_goto 135 C X at_131 ?_
    refine s_istore 137 C X (l' := #[.val (.int x0), .val (.int x1), .val (.int x2), .val (.int x3), .val (.int x4), .val (.int (3 : Int32)), .val (.ref o16), .val (.int (1 : Int32))]) at_135 rfl ?_
    refine s_iload 139 C X at_137 rfl ?_
    refine s_iconst 140 C X at_139 kc_iconst_2 ?_
    refine s_icmp_le 165 143 C X at_140 (fun c => absurd (by decide : (2 : Int32) < (3 : Int32)) c) (fun _ => ?_)
    refine s_iload 145 C X at_143 rfl ?_
    refine s_if_eq 162 148 C X at_145 (fun c => absurd c (by decide)) (fun _ => ?_)
    refine s_aload 150 C X at_148 rfl rfl ?_
    refine s_iconst 151 C X at_150 kc_iconst_2 ?_
    refine s_callV 154 [(.int (2 : Int32))] [] 0 C X at_151 (List.mem_of_getElem? (i := 29) rfl) (List.mem_of_getElem? (i := 30) rfl) (notFace_of_selects (args := #[]) (mvT C.2.1 (C.w (List.mem_of_getElem? (i := 32) rfl)))) (List.mem_of_getElem? (i := 32) rfl) (List.mem_of_getElem? (i := 31) rfl) (List.mem_of_getElem? (i := 3) rfl) (List.mem_of_getElem? (i := 33) rfl) E_o16 (rm_get2 l Z a0 hw o16 a bb x0 x1 x2 0 k_a k_b _ n0 X.sz F_blocks A_a A_b) (lenOf pd__I_I rfl) rfl rfl rfl (fun T v h23 X q => ?_)
    obtain ⟨rfl, hE⟩ := q
    rw [hE] at X
    refine Run.cast (st' := [(.int x2)]) rfl ?_
    refine s_iloadN 155 C X at_154 rfl ?_
    refine s_icmp_ne 162 158 C X at_155 (fun c => absurd rfl c) (fun _ => ?_)
    refine s_iconst 159 C X at_158 kc_iconst_1 ?_
    refine s_goto 163 C X at_159 ?_
    refine s_istore 165 C X (l' := #[.val (.int x0), .val (.int x1), .val (.int x2), .val (.int x3), .val (.int x4), .val (.int (3 : Int32)), .val (.ref o16), .val (.int (1 : Int32))]) at_163 rfl ?_
    refine s_iload 167 C X at_165 rfl ?_
    refine s_iconst 168 C X at_167 kc_iconst_3 ?_
    refine s_icmp_le 193 171 C X at_168 (fun _ => ?_) (fun c => absurd c (by decide))
    refine s_iload 195 C X at_193 rfl ?_
    refine s_nreturn C X at_195 rfl (by simp) rfl ?_
    rfl
  · refine Run.cast (st' := [(.int (4 : Int32))]) (by rw [hc]) ?_
    refine s_istore 9 C X (l' := #[.val (.int x0), .val (.int x1), .val (.int x2), .val (.int x3), .val (.int x4), .val (.int (4 : Int32)), .unset, .unset]) at_7 rfl ?_
    refine s_new 12 C X at_9 (List.mem_of_getElem? (i := 1) rfl) (List.mem_of_getElem? (i := 2) rfl) (List.mem_of_getElem? (i := 3) rfl) (fun T _ o25 hb_o25 X E E_o25 D g_o25 => ?_)
    have F_o25_blocks : Fld Z _ o25 "com/example/eventloom/eventloom/verification/IntBlockList" "blocks" "[[I" .null := D (Or.inl (hw _ (List.mem_of_getElem? (i := 13) rfl))) (ty := (.array (.array .int))) (by decide)
    have F_o25_size : Fld Z _ o25 "com/example/eventloom/eventloom/verification/IntBlockList" "size" "I" (.int (0 : Int32)) := D (Or.inl (hw _ (List.mem_of_getElem? (i := 20) rfl))) (ty := .int) (by decide)
    refine s_dup 13 C X at_12 rfl ?_
    refine s_callC 16 [] [(.ref o25)] 1 C X at_13 rfl (List.mem_of_getElem? (i := 4) rfl) (List.mem_of_getElem? (i := 5) rfl) (List.mem_of_getElem? (i := 3) rfl) (List.mem_of_getElem? (i := 6) rfl) (rm_init l Z a0 hw o25 _ n0 X.sz F_o25_blocks F_o25_size E_o25 g_o25) (lenOf pd___V rfl) rfl rfl rfl (fun T v h25 X q => ?_)
    obtain ⟨rfl, a, k_a, F_blocks, F_size, E_o25, A_a, O_a, g_a, ne_o_a⟩ := q
    refine Run.cast (st' := [(.ref o25)]) rfl ?_
    refine s_astore 18 C X (l' := #[.val (.int x0), .val (.int x1), .val (.int x2), .val (.int x3), .val (.int x4), .val (.int (4 : Int32)), .val (.ref o25), .unset]) at_16 rfl rfl ?_
    refine s_iload 20 C X at_18 rfl ?_
    refine s_if_le 29 23 C X at_20 (fun c => absurd (by decide : (0 : Int32) < (4 : Int32)) c) (fun _ => ?_)
    refine s_aload 25 C X at_23 rfl rfl ?_
    refine s_iloadN 26 C X at_25 rfl ?_
    refine s_callV 29 [(.int x0)] [] 0 C X at_26 (List.mem_of_getElem? (i := 21) rfl) (List.mem_of_getElem? (i := 22) rfl) (notFace_of_selects (args := #[]) (mvT C.2.1 (C.w (List.mem_of_getElem? (i := 24) rfl)))) (List.mem_of_getElem? (i := 24) rfl) (List.mem_of_getElem? (i := 23) rfl) (List.mem_of_getElem? (i := 3) rfl) (List.mem_of_getElem? (i := 25) rfl) E_o25 (rm_add0 l Z a0 hw o25 a x0 k_a _ n0 X.sz F_blocks F_size E_o25 A_a O_a g_o25 g_a ne_o_a) (lenOf pd__I_V rfl) rfl rfl rfl (fun T v h26 X q => ?_)
    obtain ⟨rfl, bb, k_b, F_blocks, F_size, E_o25, A_a, A_b, g_b, ne_o_b, ne_a_b⟩ := q
    refine Run.cast (st' := []) rfl ?_
    refine s_iload 31 C X at_29 rfl ?_
    refine s_iconst 32 C X at_31 kc_iconst_1 ?_
    refine s_icmp_le 41 35 C X at_32 (fun c => absurd (by decide : (1 : Int32) < (4 : Int32)) c) (fun _ => ?_)
    refine s_aload 37 C X at_35 rfl rfl ?_
    refine s_iloadN 38 C X at_37 rfl ?_
    refine s_callV 41 [(.int x1)] [] 0 C X at_38 (List.mem_of_getElem? (i := 21) rfl) (List.mem_of_getElem? (i := 22) rfl) (notFace_of_selects (args := #[]) (mvT C.2.1 (C.w (List.mem_of_getElem? (i := 24) rfl)))) (List.mem_of_getElem? (i := 24) rfl) (List.mem_of_getElem? (i := 23) rfl) (List.mem_of_getElem? (i := 3) rfl) (List.mem_of_getElem? (i := 25) rfl) E_o25 (rm_add1 l Z a0 hw o25 a bb x1 x0 0 0 0 k_a k_b _ n0 X.sz F_blocks F_size E_o25 A_a A_b g_o25 g_a g_b ne_o_a ne_o_b ne_a_b) (lenOf pd__I_V rfl) rfl rfl rfl (fun T v h27 X q => ?_)
    obtain ⟨rfl, F_blocks, F_size, E_o25, A_a, A_b⟩ := q
    refine Run.cast (st' := []) rfl ?_
    refine s_iload 43 C X at_41 rfl ?_
    refine s_iconst 44 C X at_43 kc_iconst_2 ?_
    refine s_icmp_le 53 47 C X at_44 (fun c => absurd (by decide : (2 : Int32) < (4 : Int32)) c) (fun _ => ?_)
    refine s_aload 49 C X at_47 rfl rfl ?_
    refine s_iloadN 50 C X at_49 rfl ?_
    refine s_callV 53 [(.int x2)] [] 0 C X at_50 (List.mem_of_getElem? (i := 21) rfl) (List.mem_of_getElem? (i := 22) rfl) (notFace_of_selects (args := #[]) (mvT C.2.1 (C.w (List.mem_of_getElem? (i := 24) rfl)))) (List.mem_of_getElem? (i := 24) rfl) (List.mem_of_getElem? (i := 23) rfl) (List.mem_of_getElem? (i := 3) rfl) (List.mem_of_getElem? (i := 25) rfl) E_o25 (rm_add2 l Z a0 hw o25 a bb x2 x0 x1 0 0 k_a k_b _ n0 X.sz F_blocks F_size E_o25 A_a A_b g_o25 g_a g_b ne_o_a ne_o_b ne_a_b) (lenOf pd__I_V rfl) rfl rfl rfl (fun T v h28 X q => ?_)
    obtain ⟨rfl, F_blocks, F_size, E_o25, A_a, A_b⟩ := q
    refine Run.cast (st' := []) rfl ?_
    refine s_iload 55 C X at_53 rfl ?_
    refine s_iconst 56 C X at_55 kc_iconst_3 ?_
    refine s_icmp_le 65 59 C X at_56 (fun c => absurd (by decide : (3 : Int32) < (4 : Int32)) c) (fun _ => ?_)
    refine s_aload 61 C X at_59 rfl rfl ?_
    refine s_iloadN 62 C X at_61 rfl ?_
    refine s_callV 65 [(.int x3)] [] 0 C X at_62 (List.mem_of_getElem? (i := 21) rfl) (List.mem_of_getElem? (i := 22) rfl) (notFace_of_selects (args := #[]) (mvT C.2.1 (C.w (List.mem_of_getElem? (i := 24) rfl)))) (List.mem_of_getElem? (i := 24) rfl) (List.mem_of_getElem? (i := 23) rfl) (List.mem_of_getElem? (i := 3) rfl) (List.mem_of_getElem? (i := 25) rfl) E_o25 (rm_add3 l Z a0 hw o25 a bb x3 x0 x1 x2 0 k_a k_b _ n0 X.sz F_blocks F_size E_o25 A_a A_b g_o25 g_a g_b ne_o_a ne_o_b ne_a_b) (lenOf pd__I_V rfl) rfl rfl rfl (fun T v h29 X q => ?_)
    obtain ⟨rfl, F_blocks, F_size, E_o25, A_a, A_b⟩ := q
    refine Run.cast (st' := []) rfl ?_
    refine s_aload 67 C X at_65 rfl rfl ?_
    refine s_callV 70 [] [] 0 C X at_67 (List.mem_of_getElem? (i := 14) rfl) (List.mem_of_getElem? (i := 15) rfl) (notFace_of_selects (args := #[]) (mvT C.2.1 (C.w (List.mem_of_getElem? (i := 17) rfl)))) (List.mem_of_getElem? (i := 17) rfl) (List.mem_of_getElem? (i := 16) rfl) (List.mem_of_getElem? (i := 3) rfl) (List.mem_of_getElem? (i := 18) rfl) E_o25 (rm_size l Z a0 hw o25 a 4 _ n0 X.sz F_size) (lenOf pd___I rfl) rfl rfl rfl (fun T v h30 X q => ?_)
    obtain ⟨rfl, hE⟩ := q
    rw [hE] at X
    refine Run.cast (st' := [(.int (4 : Int32))]) rfl ?_
    refine s_iload 72 C X at_70 rfl ?_
    refine s_icmp_ne 79 75 C X at_72 (fun c => absurd (by decide : (4 : Int32) = (4 : Int32)) c) (fun _ => ?_)
    refine s_iconst 76 C X at_75 kc_iconst_1 ?_
    refine s_goto 80 C X at_76 ?_
    refine s_istore 82 C X (l' := #[.val (.int x0), .val (.int x1), .val (.int x2), .val (.int x3), .val (.int x4), .val (.int (4 : Int32)), .val (.ref o25), .val (.int (1 : Int32))]) at_80 rfl ?_
    refine s_iload 84 C X at_82 rfl ?_
    refine s_if_le 109 87 C X at_84 (fun c => absurd (by decide : (0 : Int32) < (4 : Int32)) c) (fun _ => ?_)
    refine s_iload 89 C X at_87 rfl ?_
    refine s_if_eq 106 92 C X at_89 (fun c => absurd c (by decide)) (fun _ => ?_)
    refine s_aload 94 C X at_92 rfl rfl ?_
    refine s_iconst 95 C X at_94 kc_iconst_0 ?_
    refine s_callV 98 [(.int (0 : Int32))] [] 0 C X at_95 (List.mem_of_getElem? (i := 29) rfl) (List.mem_of_getElem? (i := 30) rfl) (notFace_of_selects (args := #[]) (mvT C.2.1 (C.w (List.mem_of_getElem? (i := 32) rfl)))) (List.mem_of_getElem? (i := 32) rfl) (List.mem_of_getElem? (i := 31) rfl) (List.mem_of_getElem? (i := 3) rfl) (List.mem_of_getElem? (i := 33) rfl) E_o25 (rm_get0 l Z a0 hw o25 a bb x0 x1 x2 x3 k_a k_b _ n0 X.sz F_blocks A_a A_b) (lenOf pd__I_I rfl) rfl rfl rfl (fun T v h31 X q => ?_)
    obtain ⟨rfl, hE⟩ := q
    rw [hE] at X
    refine Run.cast (st' := [(.int x0)]) rfl ?_
    refine s_iloadN 99 C X at_98 rfl ?_
    refine s_icmp_ne 106 102 C X at_99 (fun c => absurd rfl c) (fun _ => ?_)
    refine s_iconst 103 C X at_102 kc_iconst_1 ?_
    refine s_goto 107 C X at_103 ?_
    refine s_istore 109 C X (l' := #[.val (.int x0), .val (.int x1), .val (.int x2), .val (.int x3), .val (.int x4), .val (.int (4 : Int32)), .val (.ref o25), .val (.int (1 : Int32))]) at_107 rfl ?_
    refine s_iload 111 C X at_109 rfl ?_
    refine s_iconst 112 C X at_111 kc_iconst_1 ?_
    refine s_icmp_le 137 115 C X at_112 (fun c => absurd (by decide : (1 : Int32) < (4 : Int32)) c) (fun _ => ?_)
    refine s_iload 117 C X at_115 rfl ?_
    refine s_if_eq 134 120 C X at_117 (fun c => absurd c (by decide)) (fun _ => ?_)
    refine s_aload 122 C X at_120 rfl rfl ?_
    refine s_iconst 123 C X at_122 kc_iconst_1 ?_
    refine s_callV 126 [(.int (1 : Int32))] [] 0 C X at_123 (List.mem_of_getElem? (i := 29) rfl) (List.mem_of_getElem? (i := 30) rfl) (notFace_of_selects (args := #[]) (mvT C.2.1 (C.w (List.mem_of_getElem? (i := 32) rfl)))) (List.mem_of_getElem? (i := 32) rfl) (List.mem_of_getElem? (i := 31) rfl) (List.mem_of_getElem? (i := 3) rfl) (List.mem_of_getElem? (i := 33) rfl) E_o25 (rm_get1 l Z a0 hw o25 a bb x0 x1 x2 x3 k_a k_b _ n0 X.sz F_blocks A_a A_b) (lenOf pd__I_I rfl) rfl rfl rfl (fun T v h32 X q => ?_)
    obtain ⟨rfl, hE⟩ := q
    rw [hE] at X
    refine Run.cast (st' := [(.int x1)]) rfl ?_
    refine s_iloadN 127 C X at_126 rfl ?_
    refine s_icmp_ne 134 130 C X at_127 (fun c => absurd rfl c) (fun _ => ?_)
    refine s_iconst 131 C X at_130 kc_iconst_1 ?_
    refine s_goto 135 C X at_131 ?_
    refine s_istore 137 C X (l' := #[.val (.int x0), .val (.int x1), .val (.int x2), .val (.int x3), .val (.int x4), .val (.int (4 : Int32)), .val (.ref o25), .val (.int (1 : Int32))]) at_135 rfl ?_
    refine s_iload 139 C X at_137 rfl ?_
    refine s_iconst 140 C X at_139 kc_iconst_2 ?_
    refine s_icmp_le 165 143 C X at_140 (fun c => absurd (by decide : (2 : Int32) < (4 : Int32)) c) (fun _ => ?_)
    refine s_iload 145 C X at_143 rfl ?_
    refine s_if_eq 162 148 C X at_145 (fun c => absurd c (by decide)) (fun _ => ?_)
    refine s_aload 150 C X at_148 rfl rfl ?_
    refine s_iconst 151 C X at_150 kc_iconst_2 ?_
    refine s_callV 154 [(.int (2 : Int32))] [] 0 C X at_151 (List.mem_of_getElem? (i := 29) rfl) (List.mem_of_getElem? (i := 30) rfl) (notFace_of_selects (args := #[]) (mvT C.2.1 (C.w (List.mem_of_getElem? (i := 32) rfl)))) (List.mem_of_getElem? (i := 32) rfl) (List.mem_of_getElem? (i := 31) rfl) (List.mem_of_getElem? (i := 3) rfl) (List.mem_of_getElem? (i := 33) rfl) E_o25 (rm_get2 l Z a0 hw o25 a bb x0 x1 x2 x3 k_a k_b _ n0 X.sz F_blocks A_a A_b) (lenOf pd__I_I rfl) rfl rfl rfl (fun T v h33 X q => ?_)
    obtain ⟨rfl, hE⟩ := q
    rw [hE] at X
    refine Run.cast (st' := [(.int x2)]) rfl ?_
    refine s_iloadN 155 C X at_154 rfl ?_
    refine s_icmp_ne 162 158 C X at_155 (fun c => absurd rfl c) (fun _ => ?_)
    refine s_iconst 159 C X at_158 kc_iconst_1 ?_
    refine s_goto 163 C X at_159 ?_
    refine s_istore 165 C X (l' := #[.val (.int x0), .val (.int x1), .val (.int x2), .val (.int x3), .val (.int x4), .val (.int (4 : Int32)), .val (.ref o25), .val (.int (1 : Int32))]) at_163 rfl ?_
    refine s_iload 167 C X at_165 rfl ?_
    refine s_iconst 168 C X at_167 kc_iconst_3 ?_
    refine s_icmp_le 193 171 C X at_168 (fun c => absurd (by decide : (3 : Int32) < (4 : Int32)) c) (fun _ => ?_)
    refine s_iload 173 C X at_171 rfl ?_
    refine s_if_eq 190 176 C X at_173 (fun c => absurd c (by decide)) (fun _ => ?_)
    refine s_aload 178 C X at_176 rfl rfl ?_
    refine s_iconst 179 C X at_178 kc_iconst_3 ?_
    refine s_callV 182 [(.int (3 : Int32))] [] 0 C X at_179 (List.mem_of_getElem? (i := 29) rfl) (List.mem_of_getElem? (i := 30) rfl) (notFace_of_selects (args := #[]) (mvT C.2.1 (C.w (List.mem_of_getElem? (i := 32) rfl)))) (List.mem_of_getElem? (i := 32) rfl) (List.mem_of_getElem? (i := 31) rfl) (List.mem_of_getElem? (i := 3) rfl) (List.mem_of_getElem? (i := 33) rfl) E_o25 (rm_get3 l Z a0 hw o25 a bb x0 x1 x2 x3 k_a k_b _ n0 X.sz F_blocks A_a A_b) (lenOf pd__I_I rfl) rfl rfl rfl (fun T v h34 X q => ?_)
    obtain ⟨rfl, hE⟩ := q
    rw [hE] at X
    refine Run.cast (st' := [(.int x3)]) rfl ?_
    refine s_iloadN 183 C X at_182 rfl ?_
    refine s_icmp_ne 190 186 C X at_183 (fun c => absurd rfl c) (fun _ => ?_)
    refine s_iconst 187 C X at_186 kc_iconst_1 ?_
    refine s_goto 191 C X at_187 ?_
    refine s_istore 193 C X (l' := #[.val (.int x0), .val (.int x1), .val (.int x2), .val (.int x3), .val (.int x4), .val (.int (4 : Int32)), .val (.ref o25), .val (.int (1 : Int32))]) at_191 rfl ?_
    refine s_iload 195 C X at_193 rfl ?_
    refine s_nreturn C X at_195 rfl (by simp) rfl ?_
    rfl
set_option maxRecDepth 65536 in
set_option maxHeartbeats 40000000 in
theorem comes_1 {Post : Tables → Env → Array Value → State → Outcome → State → Prop} (hpost : ∀ tb e args s v u, (limb_1_1.after args s (.returned v) u = true ∧ limb_1_2.after args s (.returned v) u = true ∧ True) → FrameEnd s (.returned v) u (Jvm.fieldLocs frame_1_writes args s ++ Jvm.arrayLocs frame_1_arrays args s ++ Jvm.staticLocs frame_1_statics s) 16 2176 → Post tb e args s (.returned v) u) :
    ArmFor flags0 classFile x code maxLocals ret World_1 tables_1 room_1 Calls_1 rest_1 Pre_1 Post := by
  intro l hfl _ _ p e ha hc hk s m args below hf hA hF happ hP
  obtain ⟨hcalls, hrest, hpre⟩ := hP
  obtain ⟨-, -, -, hnamed, -, -, -, hat⟩ := (Spec.applies_iff hf).mp happ
  obtain ⟨hg, hn⟩ := and_e (Cond.before_iff.mp (show (Jvm.Cond.and given_1 narrow_1).before args s = true from hpre))
  obtain ⟨g0, g1⟩ := and_e hg
  obtain ⟨ga0, gr0⟩ := and_e g1
  obtain ⟨ga1, gr1⟩ := and_e gr0
  obtain ⟨ga2, gr2⟩ := and_e gr1
  obtain ⟨ga3, gr3⟩ := and_e gr2
  obtain ⟨w0, w1, w2, w3, w4, rfl⟩ : ∃ w0 w1 w2 w3 w4 : Value, args = #[w0, w1, w2, w3, w4] := by
    have hs : args.size = 5 := by simpa [Cond.value, given_1] using g0
    obtain ⟨L⟩ := args
    match L, hs with
    | [w0, w1, w2, w3, w4], _ => exact ⟨w0, w1, w2, w3, w4, rfl⟩
  have hw := fun d (hd : d ∈ tables_1) => atoms_spec (ws := Jvm.Cond.code x code maxLocals ret :: tables_1) hat d (List.mem_cons_of_mem _ hd)
  have hfit : Fit s := fun {y c} hc i hi => by
    obtain ⟨ha, rfl⟩ := Array.getElem?_eq_some_iff.mp hc
    have q := List.all_eq_true.mp ((Array.all_eq_true_iff_forall_mem.mp hF) _ (Array.getElem_mem ha)) i (List.mem_range.mpr hi)
    simpa [Array.getElem?_eq_getElem hi] using q
  obtain ⟨i0, e0⟩ := is_v ga0
  obtain rfl : w0 = (.int i0) := Option.some.inj e0
  obtain ⟨i1, e1⟩ := is_v ga1
  obtain rfl : w1 = (.int i1) := Option.some.inj e1
  obtain ⟨i2, e2⟩ := is_v ga2
  obtain rfl : w2 = (.int i2) := Option.some.inj e2
  obtain ⟨i3, e3⟩ := is_v ga3
  obtain rfl : w3 = (.int i3) := Option.some.inj e3
  obtain ⟨i4, e4⟩ := is_v gr3
  obtain rfl : w4 = (.int i4) := Option.some.inj e4
  obtain ⟨n, o, h1, h2, h3, _, L, rfl, ⟨rfl, N⟩, hq⟩ := rm0 l s _ hw i0 i1 i2 i3 i4  s.heap s.heap.size (Nat.le_refl _)  p e ha hc hk s m _ below hf ((Spec.applies_iff_loose hf).mp happ).1 ⟨rfl, State.Warmed39.refl s, rfl⟩ trivial
  exact ⟨n, _, h1, h2, h3, hpost _ _ _ _ _ _ ⟨Cond.after_iff.mpr rfl, Cond.after_iff.mpr (eq_i res_at (Term.int_eval (1)) rfl), trivial⟩ ⟨hq.1, hq.2.1, (hq.2.2.sift fun y hy => Or.inr (N y hy)).mono (by decide) (by decide)⟩⟩
theorem main_1_1 : Claimed_1_1 := comes_1 fun _ _ _ _ _ _ h hF => ⟨h.1, hF⟩
theorem main_1_2 : Claimed_1_2 := comes_1 fun _ _ _ _ _ _ h hF => ⟨h.2.1, hF⟩
end Jvm.Pilot.@@N@@
namespace Jvm.Pilot.@@N@@
open Jvm Jvm.ClassFile Sem Op Lib Jvm.Free Jvm.Stand Jvm.Pilot.@@N@@.Jvm.D
/-! MADE BY PROGRAM (witnessworld.py) out of the Statement's table words and the real class files: 9 classes; the members and pool entries that the words name. The judged class is class 1, her method 1. -/
namespace start1
open Jvm.ClassFile
def u (s : String) : CpInfo := .utf8 (stringToUtf16 s)
/-- a pool by its gaps: so many unusable entries, then the entry; so many at the end -/
def gap : Nat → List CpInfo → List CpInfo
  | 0, r => r
  | n + 1, r => .unusable :: gap n r
def poolList (es : List (Nat × CpInfo)) (last : Nat) : List CpInfo := es.foldr (fun e r => gap e.1 (e.2 :: r)) (gap last [])
def pool (es : List (Nat × CpInfo)) (last : Nat) : Array CpInfo := ⟨poolList es last⟩
def fileOf (pool : Array CpInfo) (this : Nat) (attrs : Array Attribute := #[]) (ms : Array MethodInfo := #[]) (fl : Nat := 33) (sup : Nat := 0) (ifs : Array Nat := #[]) (fds : Array FieldInfo := #[]) : ClassFile where
  minorVersion := 0
  majorVersion := 65
  constantPool := pool
  accessFlags := fl
  thisClass := this
  superClass := sup
  interfaces := ifs
  fields := fds
  methods := ms
  attributes := attrs
def plain (name : String) (sup : Option ClassId) : Class where
  name := name
  kind := .ordinary
  loader := none
  accessFlags := 33
  super := sup
  interfaces := #[]
  cf := none
  fields := #[]
  methods := #[]
  instanceTypes := #[]
  staticTypes := #[]
  resolved := #[]
  callSites := []
  init := .initialized
  statics := none
  mirror := none

def pool0 : Array CpInfo := pool [(5, u "<init>"), (0, u "()V"), (1, .class_ 10), (1, u "java/lang/Object")] 113

def k0c0 : Code := { maxStack := 0, maxLocals := 1, code := object_method_1_code, exceptionTable := #[], attributes := #[] }
def k0m0 : Method := { name := "<init>", desc := "()V", sig := { parameters := [], returnType := none }, accessFlags := 1, code := some k0c0 }
/-- java/lang/Object -/
def k0 : Class := { plain "java/lang/Object" none with
  accessFlags := 33
  interfaces := #[]
  cf := some (fileOf pool0 8 #[] #[{ accessFlags := 1, nameIndex := 5, descriptorIndex := 6, attributes := #[] }] 33 0 #[] #[])
  fields := #[]
  methods := #[k0m0]
  instanceTypes := #[]
  staticTypes := #[]
  resolved := Array.replicate 124 none
  statics := none }

def pool1 : Array CpInfo := pool [(2, .class_ 4), (0, .nameAndType 5 6), (0, u "java/lang/Object"), (0, u "<init>"), (0, u "()V"), (0, .integer 2147483647), (0, .class_ 9), (0, u "com/example/eventloom/eventloom/verification/IntBlockList"), (0, .methodref 8 3), (0, .methodref 8 12), (0, .nameAndType 13 14), (0, u "add"), (0, u "(I)V"), (0, .methodref 8 16), (0, .nameAndType 17 18), (0, u "size"), (0, u "()I"), (0, .methodref 8 20), (0, .nameAndType 21 22), (0, u "get"), (0, u "(I)I"), (0, .class_ 24), (0, u "com/example/eventloom/eventloom/verification/IntBlockListGetPinLaw"), (2, u "law"), (0, u "(IIIII)Z")] 3

def k1m0 : Method := { name := "<init>", desc := "()V", sig := { parameters := [], returnType := none }, accessFlags := 2, code := none }
def k1c1 : Code := { maxStack := 2, maxLocals := 8, code := code, exceptionTable := #[], attributes := #[] }
def k1m1 : Method := { name := "law", desc := "(IIIII)Z", sig := { parameters := [.int, .int, .int, .int, .int], returnType := some .boolean }, accessFlags := 9, code := some k1c1 }
/-- com/example/eventloom/eventloom/verification/IntBlockListGetPinLaw -/
def k1 : Class := { plain "com/example/eventloom/eventloom/verification/IntBlockListGetPinLaw" (some 0) with
  accessFlags := 49
  interfaces := #[]
  cf := some (fileOf pool1 23 #[] #[{ accessFlags := 2, nameIndex := 5, descriptorIndex := 6, attributes := #[] }, { accessFlags := 9, nameIndex := 27, descriptorIndex := 28, attributes := #[] }] 49 2 #[] #[])
  fields := #[]
  methods := #[k1m0, k1m1]
  instanceTypes := #[]
  staticTypes := #[]
  resolved := Array.replicate 32 none
  statics := none }

def pool2 : Array CpInfo := pool [(1, .class_ 2), (0, u "com/example/eventloom/eventloom/verification/IntBlockList"), (0, .methodref 4 5), (0, .class_ 6), (0, .nameAndType 7 8), (0, u "java/lang/Object"), (0, u "<init>"), (0, u "()V"), (0, .class_ 10), (0, u "[I"), (0, .fieldref 1 12), (0, .nameAndType 13 14), (0, u "blocks"), (0, u "[[I"), (0, .fieldref 1 16), (0, .nameAndType 17 18), (0, u "size"), (0, u "I"), (2, .integer 2147483647), (20, u "BLOCK_BITS"), (2, u "BLOCK_LENGTH"), (1, u "IN_BLOCK"), (3, u "()I"), (0, u "get"), (0, u "(I)I"), (0, u "add"), (0, u "(I)V")] 3

def k2c0 : Code := { maxStack := 2, maxLocals := 1, code := prog_118_method_1_code, exceptionTable := #[], attributes := #[] }
def k2m0 : Method := { name := "<init>", desc := "()V", sig := { parameters := [], returnType := none }, accessFlags := 0, code := some k2c0 }
def k2c1 : Code := { maxStack := 1, maxLocals := 1, code := prog_118_method_2_code, exceptionTable := #[], attributes := #[] }
def k2m1 : Method := { name := "size", desc := "()I", sig := { parameters := [], returnType := some .int }, accessFlags := 0, code := some k2c1 }
def k2c2 : Code := { maxStack := 3, maxLocals := 2, code := prog_118_method_3_code, exceptionTable := #[], attributes := #[] }
def k2m2 : Method := { name := "get", desc := "(I)I", sig := { parameters := [.int], returnType := some .int }, accessFlags := 0, code := some k2c2 }
def k2c3 : Code := { maxStack := 7, maxLocals := 3, code := prog_118_method_4_code, exceptionTable := #[], attributes := #[] }
def k2m3 : Method := { name := "add", desc := "(I)V", sig := { parameters := [.int], returnType := none }, accessFlags := 0, code := some k2c3 }
/-- com/example/eventloom/eventloom/verification/IntBlockList -/
def k2 : Class := { plain "com/example/eventloom/eventloom/verification/IntBlockList" (some 0) with
  accessFlags := 48
  interfaces := #[]
  cf := some (fileOf pool2 1 #[] #[{ accessFlags := 0, nameIndex := 7, descriptorIndex := 8, attributes := #[] }, { accessFlags := 0, nameIndex := 17, descriptorIndex := 51, attributes := #[] }, { accessFlags := 0, nameIndex := 52, descriptorIndex := 53, attributes := #[] }, { accessFlags := 0, nameIndex := 54, descriptorIndex := 55, attributes := #[] }] 48 4 #[] #[{ accessFlags := 26, nameIndex := 42, descriptorIndex := 18, attributes := #[] }, { accessFlags := 26, nameIndex := 45, descriptorIndex := 18, attributes := #[] }, { accessFlags := 26, nameIndex := 47, descriptorIndex := 18, attributes := #[] }, { accessFlags := 2, nameIndex := 13, descriptorIndex := 14, attributes := #[] }, { accessFlags := 2, nameIndex := 17, descriptorIndex := 18, attributes := #[] }])
  fields := #[{ name := "BLOCK_BITS", type := .int, accessFlags := 26, slot := 0, constantValue := 0 }, { name := "BLOCK_LENGTH", type := .int, accessFlags := 26, slot := 1, constantValue := 0 }, { name := "IN_BLOCK", type := .int, accessFlags := 26, slot := 2, constantValue := 0 }, { name := "blocks", type := (.array (.array .int)), accessFlags := 2, slot := 0, constantValue := 0 }, { name := "size", type := .int, accessFlags := 2, slot := 1, constantValue := 0 }]
  methods := #[k2m0, k2m1, k2m2, k2m3]
  instanceTypes := #[(.array (.array .int)), .int]
  staticTypes := #[.int, .int, .int]
  resolved := Array.replicate 59 none
  statics := none }

def pool3 : Array CpInfo := pool [(1, u "java/lang/Cloneable"), (0, .class_ 1), (0, u "java/lang/Object"), (0, .class_ 3)] 3

/-- java/lang/Cloneable -/
def k3 : Class := { plain "java/lang/Cloneable" (some 0) with
  accessFlags := 1537
  interfaces := #[]
  cf := some (fileOf pool3 2 #[] #[] 1537 4 #[] #[])
  fields := #[]
  methods := #[]
  instanceTypes := #[]
  staticTypes := #[]
  resolved := Array.replicate 8 none
  statics := none }

def pool4 : Array CpInfo := pool [(1, u "java/io/Serializable"), (0, .class_ 1), (0, u "java/lang/Object"), (0, .class_ 3)] 3

/-- java/io/Serializable -/
def k4 : Class := { plain "java/io/Serializable" (some 0) with
  accessFlags := 1537
  interfaces := #[]
  cf := some (fileOf pool4 2 #[] #[] 1537 4 #[] #[])
  fields := #[]
  methods := #[]
  instanceTypes := #[]
  staticTypes := #[]
  resolved := Array.replicate 8 none
  statics := none }

/-- the primitive byte -/
def k5 : Class := { plain "byte" none with kind := .primitive 'B', accessFlags := 0x411 }
/-- [B -/
def k6 : Class := { plain "[B" (some 0) with kind := .array 5 .byte, interfaces := #[3, 4], accessFlags := 1041 }

/-- the primitive int -/
def k7 : Class := { plain "int" none with kind := .primitive 'I', accessFlags := 0x411 }
/-- [I -/
def k8 : Class := { plain "[I" (some 0) with kind := .array 7 .int, interfaces := #[3, 4], accessFlags := 1041 }

def k9 : Class := { plain "[[I" (some 0) with kind := .array 8 (.array .int), interfaces := #[3, 4], accessFlags := 1041 }
def heap : Heap := #[]
def classes : Array Class := #[k0, k1, k2, k3, k4, k5, k6, k7, k8, k9]
def interned : List (Array UInt16 × Addr) := []
def slotsUsed : Nat := 0
def theMethod : MethodId := ⟨1, 1⟩
def args0 : Array Value := #[.int 5, .int 6, .int 7, .int 8, .int 9]
def aboutOver (below : List Frame) : State where
  vm := { classes := classes, interned := interned.toArray }
  heap := heap
  slotsUsed := slotsUsed
  threads := #[{ frames := .invoking theMethod args0 :: below }]
def below0 : List Frame := [.native { method := ⟨0, 0⟩, args := #[] }]
def about1 : State := aboutOver below0
def p0 : Program := .bare "" "" ""
def e0 : Env := launch0.env 0 0 0
theorem w_frames : about1.frames = Frame.invoking theMethod args0 :: below0 := rfl
set_option maxRecDepth 65536 in
theorem w_args : argsFit about1.vm theMethod args0 = true := by decide +kernel
set_option maxRecDepth 65536 in
theorem w_heap : heapFits about1 = true := by decide +kernel
set_option maxRecDepth 65536 in
theorem w_runnable : about1.curStatus? = some .runnable := by decide +kernel
set_option maxRecDepth 65536 in
theorem w_alone : about1.alone = true := by decide +kernel
set_option maxRecDepth 65536 in
theorem w_named : about1.methodNamed? x = some theMethod := by decide +kernel
set_option maxRecDepth 65536 in
theorem w_hears : about1.hears theMethod below0 = true := by decide +kernel
set_option maxRecDepth 65536 in
theorem w_ripe : about1.ripe theMethod args0 below0 = true := by decide +kernel
theorem w_running : about1.status = .running := rfl
set_option maxRecDepth 65536 in
theorem w_room : about1.hasRoom e0.platform room_1 = true :=
  launch0.hasRoom_least _ room_1 (by decide +kernel) (by decide +kernel) (by decide +kernel) (by decide +kernel) (by decide +kernel) (by decide +kernel)
theorem allAtoms_all (ts : List Jvm.Cond) (a : Array Jvm.Value) (st : Jvm.State) : (allAtoms ts).before a st = ts.all (fun c => c.before a st) := by
  induction ts with
  | nil => rfl
  | cons c t ih =>
    show (Jvm.Cond.and c (allAtoms t)).before a st = _
    rw [Jvm.Cond.before_and, ih, List.all_cons]
def words1 : List Jvm.Cond := Jvm.Cond.code x code maxLocals ret :: tables_1
/-- a 'code' word, met by the world's own term for the bytes: nothing is compared byte by byte -/
theorem code_word {y : MethodName} {bytes : ByteArray} {mx : Nat} {rt : Option FieldType} {a : Array Value} {s : State} {m : MethodId} {meth : Method} {c : Code} (h1 : s.methodNamed? y = some m) (h2 : s.vm.method? m = some meth) (h3 : meth.code = some c) (h4 : c.code = bytes)
    (h5 : (c.maxLocals == mx && c.exceptionTable.isEmpty && decide (c.maxStack ≤ mostOperands) && decide (meth.sig.returnType = rt) && !meth.locks && decide (parseMethodDescriptor y.desc = some meth.sig)) = true) : (Jvm.Cond.code y bytes mx rt).before a s = true := by
  simp only [Bool.and_eq_true, beq_iff_eq, Bool.not_eq_true', decide_eq_true_eq] at h5
  obtain ⟨⟨⟨⟨⟨g1, g2⟩, g3⟩, g4⟩, g5⟩, g6⟩ := h5
  simp [Cond.before, Cond.holds, Cond.value, h1, h2, h3, h4, g1, g2, g3, g4, g5, g6]
def isCode : Jvm.Cond → Bool
  | .code _ _ _ _ => true
  | _ => false
theorem all_split {L : List Jvm.Cond} {P : Jvm.Cond → Bool} (h1 : L.all (fun c => isCode c || P c) = true) (h2 : ∀ c ∈ L.filter isCode, P c = true) : L.all P = true := by
  refine List.all_eq_true.mpr fun c hc => ?_
  have h := List.all_eq_true.mp h1 c hc
  rcases Bool.eq_false_or_eq_true (isCode c) with hi | hi
  · exact h2 c (List.mem_filter.mpr ⟨hc, hi⟩)
  · simpa [hi] using h
set_option maxRecDepth 65536 in
theorem w_c0 : (Jvm.Cond.code x code maxLocals ret).before args0 about1 = true := code_word (m := ⟨1, 1⟩) (meth := k1m1) (c := k1c1) (by decide +kernel) rfl rfl rfl (by decide +kernel)
set_option maxRecDepth 65536 in
theorem w_c1 : (Jvm.Cond.code ({ cls := "com/example/eventloom/eventloom/verification/IntBlockList", name := "<init>", desc := "()V" } : Jvm.MethodName) prog_118_method_1_code (1 : Nat) (Option.none : Option Jvm.ClassFile.FieldType)).before args0 about1 = true := code_word (m := ⟨2, 0⟩) (meth := k2m0) (c := k2c0) (by decide +kernel) rfl rfl rfl (by decide +kernel)
set_option maxRecDepth 65536 in
theorem w_c2 : (Jvm.Cond.code ({ cls := "java/lang/Object", name := "<init>", desc := "()V" } : Jvm.MethodName) object_method_1_code (1 : Nat) (Option.none : Option Jvm.ClassFile.FieldType)).before args0 about1 = true := code_word (m := ⟨0, 0⟩) (meth := k0m0) (c := k0c0) (by decide +kernel) rfl rfl rfl (by decide +kernel)
set_option maxRecDepth 65536 in
theorem w_c3 : (Jvm.Cond.code ({ cls := "com/example/eventloom/eventloom/verification/IntBlockList", name := "size", desc := "()I" } : Jvm.MethodName) prog_118_method_2_code (1 : Nat) (Option.some Jvm.ClassFile.FieldType.int)).before args0 about1 = true := code_word (m := ⟨2, 1⟩) (meth := k2m1) (c := k2c1) (by decide +kernel) rfl rfl rfl (by decide +kernel)
set_option maxRecDepth 65536 in
theorem w_c4 : (Jvm.Cond.code ({ cls := "com/example/eventloom/eventloom/verification/IntBlockList", name := "add", desc := "(I)V" } : Jvm.MethodName) prog_118_method_4_code (3 : Nat) (Option.none : Option Jvm.ClassFile.FieldType)).before args0 about1 = true := code_word (m := ⟨2, 3⟩) (meth := k2m3) (c := k2c3) (by decide +kernel) rfl rfl rfl (by decide +kernel)
set_option maxRecDepth 65536 in
theorem w_c5 : (Jvm.Cond.code ({ cls := "com/example/eventloom/eventloom/verification/IntBlockList", name := "get", desc := "(I)I" } : Jvm.MethodName) prog_118_method_3_code (2 : Nat) (Option.some Jvm.ClassFile.FieldType.int)).before args0 about1 = true := code_word (m := ⟨2, 2⟩) (meth := k2m2) (c := k2c2) (by decide +kernel) rfl rfl rfl (by decide +kernel)
def codes1 : List Jvm.Cond := [Jvm.Cond.code x code maxLocals ret, Jvm.Cond.code ({ cls := "com/example/eventloom/eventloom/verification/IntBlockList", name := "<init>", desc := "()V" } : Jvm.MethodName) prog_118_method_1_code (1 : Nat) (Option.none : Option Jvm.ClassFile.FieldType), Jvm.Cond.code ({ cls := "java/lang/Object", name := "<init>", desc := "()V" } : Jvm.MethodName) object_method_1_code (1 : Nat) (Option.none : Option Jvm.ClassFile.FieldType), Jvm.Cond.code ({ cls := "com/example/eventloom/eventloom/verification/IntBlockList", name := "size", desc := "()I" } : Jvm.MethodName) prog_118_method_2_code (1 : Nat) (Option.some Jvm.ClassFile.FieldType.int), Jvm.Cond.code ({ cls := "com/example/eventloom/eventloom/verification/IntBlockList", name := "add", desc := "(I)V" } : Jvm.MethodName) prog_118_method_4_code (3 : Nat) (Option.none : Option Jvm.ClassFile.FieldType), Jvm.Cond.code ({ cls := "com/example/eventloom/eventloom/verification/IntBlockList", name := "get", desc := "(I)I" } : Jvm.MethodName) prog_118_method_3_code (2 : Nat) (Option.some Jvm.ClassFile.FieldType.int)]
set_option maxRecDepth 65536 in
theorem codes_eq : words1.filter isCode = codes1 := rfl
theorem w_codes : ∀ c ∈ words1.filter isCode, c.before args0 about1 = true := by
  rw [codes_eq]
  intro c hc
  simp only [codes1, List.mem_cons, List.not_mem_nil, or_false] at hc
  rcases hc with rfl | rfl | rfl | rfl | rfl | rfl
  · exact w_c0
  · exact w_c1
  · exact w_c2
  · exact w_c3
  · exact w_c4
  · exact w_c5
set_option maxRecDepth 65536 in
theorem w_t1 : (words1.take 24).all (fun c => isCode c || c.before args0 about1) = true := by decide +kernel
set_option maxRecDepth 65536 in
theorem w_t2 : (words1.drop 24).all (fun c => isCode c || c.before args0 about1) = true := by decide +kernel
theorem w_tables : (allAtoms (Jvm.Cond.code x code maxLocals ret :: tables_1)).before args0 about1 = true := by
  rw [allAtoms_all]
  show words1.all (fun c => c.before args0 about1) = true
  refine all_split ?_ w_codes
  rw [← List.take_append_drop 24 words1, List.all_append, w_t1, w_t2]
  rfl
set_option maxRecDepth 65536 in
theorem w_case : (Jvm.Cond.and given_1 narrow_1).before args0 about1 = true := by decide +kernel
theorem w_applies : (headSpec (Jvm.Cond.code x code maxLocals ret :: tables_1) room_1).applies x e0.platform about1 = true :=
  (Spec.applies_iff w_frames).mpr ⟨w_running, w_runnable, w_alone, w_named, w_hears, w_ripe, w_room, w_tables⟩
theorem atStart : AtStart classFile x code maxLocals ret World_1 tables_1 room_1 Calls_1 rest_1 Pre_1 launch0 p0 e0 about1 theMethod args0 below0 :=
  ⟨lists_1, trivial, launch0.admits_env _ _ _, launch0.least_env, fairChoices_fair.cas, fairChoices_fair.clock, w_frames, w_args, w_heap, w_applies, trivial, trivial, w_case⟩
end start1
theorem witness_1 : WitnessClaimed_1 := ⟨start1.p0, start1.e0, start1.about1, start1.theMethod, start1.args0, start1.below0, start1.atStart⟩
end Jvm.Pilot.@@N@@
