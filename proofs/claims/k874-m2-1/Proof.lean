import JvmDerived
import JvmDerived.Pilot.@@N@@Statement
import JvmDerived.Pilot.@@N@@Code
set_option linter.unusedVariables false
set_option linter.unusedSimpArgs false
namespace Jvm.OwnK
open Jvm Sem ClassFile Op Lib Jvm.Stand Jvm.Free Jvm.LawKit Jvm.RoadKit
section A
variable {tabs : List Jvm.Cond} {a0 : Array Value} {Z : State} {own nm : String} {code : ByteArray} {ml : Nat} {ret : Option FieldType} {p : Program} {l : Launch} {e : Env} {R : Room} {s : State} {m : MethodId} {args : Array Value} {below : List Frame} {meth : Method} {c : Code} {n0 : Nat} {T : State} {h : Heap} {k n : Nat} {Q : Option Value → Heap → Prop} {G : Outcome → State → List Loc → Prop} {pc : Nat} {ls : Array Slot} {st : List Value}
/-- what stands fast through a method's walk -/
def Cx (tabs : List Jvm.Cond) (a0 : Array Value) (Z : State) (own nm : String) (code : ByteArray) (ml : Nat) (ret : Option FieldType) (p : Program) (s : State) (m : MethodId) (meth : Method) (c : Code) : Prop :=
  p.tables.exec = Jvm.exec ∧ Z.Warmed39 s.vm ∧ c.code = code ∧ c.maxLocals = ml ∧ s.vm.findClass own = some m.cls ∧ meth.sig.returnType = ret ∧ meth.locks = false ∧ meth.name = nm ∧ ∀ d ∈ tabs, d.before a0 Z = true
/-- where the walk stands: the heap h, k cells and n slots made so far, nothing below n0 written -/
def St (p : Program) (l : Launch) (e : Env) (R : Room) (s : State) (m : MethodId) (args : Array Value) (below : List Frame) (meth : Method) (c : Code) (n0 : Nat) (T : State) (h : Heap) (k n : Nat) : Prop :=
  ∃ locs, Stand p l e R s m args below meth c T locs k n ∧ T.heap = h ∧ Fr n0 locs ∧ n0 ≤ s.heap.size
/-- from this frame the method ends, and returns what Q says -/
def Run (p : Program) (e : Env) (below : List Frame) (n0 : Nat) (Q : Option Value → Heap → Prop) (G : Outcome → State → List Loc → Prop) (m : MethodId) (T : State) (pc : Nat) (ls : Array Slot) (st : List Value) : Prop :=
  ∃ s₂ o, Steps p.tables e below (T.setTop (mkF m pc ls st)) s₂ ∧ s₂.status = .running ∧ Ended s₂ below o ∧ ∃ v L, o = .returned v ∧ (Q v s₂.heap ∧ Fr n0 L) ∧ G o s₂ L
theorem Run.step {T' : State} {pc' : Nat} {ls' : Array Slot} {st' : List Value} (f : ∀ t, Steps p.tables e below (T'.setTop (mkF m pc' ls' st')) t → Steps p.tables e below (T.setTop (mkF m pc ls st)) t) (r : Run p e below n0 Q G m T' pc' ls' st') : Run p e below n0 Q G m T pc ls st := by
  obtain ⟨s₂, o, h1, h2⟩ := r
  exact ⟨s₂, o, f _ h1, h2⟩
theorem Run.steps {T' : State} {pc' : Nat} {ls' : Array Slot} {st' : List Value} (f : Steps p.tables e below (T.setTop (mkF m pc ls st)) (T'.setTop (mkF m pc' ls' st'))) (r : Run p e below n0 Q G m T' pc' ls' st') : Run p e below n0 Q G m T pc ls st := Run.step (fun _ q => f.trans q) r
theorem Run.cast {st' : List Value} (q : st = st') (r : Run p e below n0 Q G m T pc ls st') : Run p e below n0 Q G m T pc ls st := q ▸ r
theorem St.at' (X : St p l e R s m args below meth c n0 T h k n) : Jvm.At T m c below := by obtain ⟨_, X, -⟩ := X; exact X.here
theorem St.sz (X : St p l e R s m args below meth c n0 T h k n) : n0 ≤ h.size := by
  obtain ⟨_, X, rfl, -, q⟩ := X
  exact Nat.le_trans q X.same.2.1
theorem Cx.d {r : Except DecodeError (Instr × Nat)} (C : Cx tabs a0 Z own nm code ml ret p s m meth c) (q : decode code pc = r) : decode c.code pc = r := hb C.2.2.1 q
theorem Cx.w {d : Jvm.Cond} (C : Cx tabs a0 Z own nm code ml ret p s m meth c) (q : d ∈ tabs) : d.before a0 Z = true := C.2.2.2.2.2.2.2.2 d q
theorem s_iloadN (pc' : Nat) (C : Cx tabs a0 Z own nm code ml ret p s m meth c) (X : St p l e R s m args below meth c n0 T h k n) {i : Fin 4} {v : Int32} (hd : decode code pc = .ok (.iload_n i, 1)) (hl : ls[i.val]? = some (.val (.int v))) (r : Run p e below n0 Q G m T pc' ls (.int v :: st)) (hp : pc + 1 = pc' := by rfl) : Run p e below n0 Q G m T pc ls st := by
  subst hp
  exact Run.step (fun t q => XS.iloadN X.at' C.1 rfl (C.d hd) hl q) r
theorem s_iload (pc' : Nat) (C : Cx tabs a0 Z own nm code ml ret p s m meth c) (X : St p l e R s m args below meth c n0 T h k n) {i : Nat} {v : Int32} (hd : decode code pc = .ok (.iload i, 2)) (hl : ls[i]? = some (.val (.int v))) (r : Run p e below n0 Q G m T pc' ls (.int v :: st)) (hp : pc + 2 = pc' := by rfl) : Run p e below n0 Q G m T pc ls st := by
  subst hp
  exact Run.step (fun t q => XS.iload X.at' C.1 rfl (C.d hd) hl q) r
theorem s_aloadN (pc' : Nat) (C : Cx tabs a0 Z own nm code ml ret p s m meth c) (X : St p l e R s m args below meth c n0 T h k n) {i : Fin 4} {v : Value} (hd : decode code pc = .ok (.aload_n i, 1)) (hl : ls[i.val]? = some (.val v)) (hv : v.isRef = true) (r : Run p e below n0 Q G m T pc' ls (v :: st)) (hp : pc + 1 = pc' := by rfl) : Run p e below n0 Q G m T pc ls st := by
  subst hp
  exact Run.step (fun t q => XS.aloadN X.at' C.1 rfl (C.d hd) hl hv q) r
theorem s_aload (pc' : Nat) (C : Cx tabs a0 Z own nm code ml ret p s m meth c) (X : St p l e R s m args below meth c n0 T h k n) {i : Nat} {v : Value} (hd : decode code pc = .ok (.aload i, 2)) (hl : ls[i]? = some (.val v)) (hv : v.isRef = true) (r : Run p e below n0 Q G m T pc' ls (v :: st)) (hp : pc + 2 = pc' := by rfl) : Run p e below n0 Q G m T pc ls st := by
  subst hp
  exact Run.step (fun t q => XS.aload X.at' C.1 rfl (C.d hd) hl hv q) r
theorem s_istoreN (pc' : Nat) (C : Cx tabs a0 Z own nm code ml ret p s m meth c) (X : St p l e R s m args below meth c n0 T h k n) {i : Fin 4} {v : Int32} {l' : Array Slot} (hd : decode code pc = .ok (.istore_n i, 1)) (hl : storeLocals ls i.val (.int v) = some l') (r : Run p e below n0 Q G m T pc' l' st) (hp : pc + 1 = pc' := by rfl) : Run p e below n0 Q G m T pc ls (.int v :: st) := by
  subst hp
  exact Run.step (fun t q => XS.istoreN X.at' C.1 rfl (C.d hd) rfl hl q) r
theorem s_istore (pc' : Nat) (C : Cx tabs a0 Z own nm code ml ret p s m meth c) (X : St p l e R s m args below meth c n0 T h k n) {i : Nat} {v : Int32} {l' : Array Slot} (hd : decode code pc = .ok (.istore i, 2)) (hl : storeLocals ls i (.int v) = some l') (r : Run p e below n0 Q G m T pc' l' st) (hp : pc + 2 = pc' := by rfl) : Run p e below n0 Q G m T pc ls (.int v :: st) := by
  subst hp
  exact Run.step (fun t q => XS.istore X.at' C.1 rfl (C.d hd) rfl hl q) r
theorem s_astoreN (pc' : Nat) (C : Cx tabs a0 Z own nm code ml ret p s m meth c) (X : St p l e R s m args below meth c n0 T h k n) {i : Fin 4} {v : Value} {l' : Array Slot} (hd : decode code pc = .ok (.astore_n i, 1)) (hv : v.isRef = true) (hl : storeLocals ls i.val v = some l') (r : Run p e below n0 Q G m T pc' l' st) (hp : pc + 1 = pc' := by rfl) : Run p e below n0 Q G m T pc ls (v :: st) := by
  subst hp
  exact Run.step (fun t q => XS.astoreN X.at' C.1 rfl (C.d hd) rfl hv hl q) r
theorem s_astore (pc' : Nat) (C : Cx tabs a0 Z own nm code ml ret p s m meth c) (X : St p l e R s m args below meth c n0 T h k n) {i : Nat} {v : Value} {l' : Array Slot} (hd : decode code pc = .ok (.astore i, 2)) (hv : v.isRef = true) (hl : storeLocals ls i v = some l') (r : Run p e below n0 Q G m T pc' l' st) (hp : pc + 2 = pc' := by rfl) : Run p e below n0 Q G m T pc ls (v :: st) := by
  subst hp
  exact Run.step (fun t q => XS.astore X.at' C.1 rfl (C.d hd) rfl hv hl q) r
theorem s_iconst (pc' : Nat) (C : Cx tabs a0 Z own nm code ml ret p s m meth c) (X : St p l e R s m args below meth c n0 T h k n) {i : Int} {z : Int32} (hd : decode code pc = .ok (.iconst i, 1)) (hz : Int32.ofInt i = z) (r : Run p e below n0 Q G m T pc' ls (.int z :: st)) (hp : pc + 1 = pc' := by rfl) : Run p e below n0 Q G m T pc ls st := by
  subst hp
  exact Run.step (fun t q => XS.iconst X.at' C.1 rfl (C.d hd) (by rw [hz]; exact q)) r
theorem s_iand (pc' : Nat) (C : Cx tabs a0 Z own nm code ml ret p s m meth c) (X : St p l e R s m args below meth c n0 T h k n) {x y : Int32} (hd : decode code pc = .ok (.iand, 1)) (r : Run p e below n0 Q G m T pc' ls (.int (x &&& y) :: st)) (hp : pc + 1 = pc' := by rfl) : Run p e below n0 Q G m T pc ls (.int y :: .int x :: st) := by
  subst hp
  exact Run.step (fun t q => XS.iand X.at' C.1 rfl (C.d hd) rfl q) r
theorem s_irem (pc' : Nat) (C : Cx tabs a0 Z own nm code ml ret p s m meth c) (X : St p l e R s m args below meth c n0 T h k n) {x y : Int32} (hd : decode code pc = .ok (.irem, 1)) (hy : y ≠ 0) (r : Run p e below n0 Q G m T pc' ls (.int (x % y) :: st)) (hp : pc + 1 = pc' := by rfl) : Run p e below n0 Q G m T pc ls (.int y :: .int x :: st) := by
  subst hp
  exact Run.step (fun t q => XS.irem X.at' C.1 rfl (C.d hd) rfl hy (by rw [show x - x / y * y = x % y from irem_eq_mod x y]; exact q)) r
theorem s_goto (pc' : Nat) (C : Cx tabs a0 Z own nm code ml ret p s m meth c) (X : St p l e R s m args below meth c n0 T h k n) {o : Int} (hd : decode code pc = .ok (.goto o, 3)) (r : Run p e below n0 Q G m T pc' ls st) (hp : 0 ≤ (pc : Int) + o ∧ ((pc : Int) + o).toNat = pc' := by decide) : Run p e below n0 Q G m T pc ls st := by
  exact Run.step (fun t q => XS.goto X.at' C.1 rfl rfl (C.d hd) hp.1 hp.2 q) r
theorem s_icmp_gt (pY pN : Nat) (C : Cx tabs a0 Z own nm code ml ret p s m meth c) (X : St p l e R s m args below meth c n0 T h k n) {x y : Int32} {o : Int} (hd : decode code pc = .ok (.if_icmp .gt o, 3)) (ry : y < x → Run p e below n0 Q G m T pY ls st) (rn : ¬ y < x → Run p e below n0 Q G m T pN ls st) (hp : 0 ≤ (pc : Int) + o ∧ ((pc : Int) + o).toNat = pY ∧ pc + 3 = pN := by decide) : Run p e below n0 Q G m T pc ls (.int y :: .int x :: st) := by
  by_cases g : y < x
  · exact Run.step (fun t q => XS.icmpYes X.at' C.1 rfl rfl (C.d hd) rfl (tlt g).2.2.1 hp.1 hp.2.1 q) (ry g)
  · obtain rfl := hp.2.2
    exact Run.step (fun t q => XS.icmpNo X.at' C.1 rfl (C.d hd) rfl (flt g).2.2.1 q) (rn g)
theorem s_icmp_ne (pY pN : Nat) (C : Cx tabs a0 Z own nm code ml ret p s m meth c) (X : St p l e R s m args below meth c n0 T h k n) {x y : Int32} {o : Int} (hd : decode code pc = .ok (.if_icmp .ne o, 3)) (ry : ¬ x = y → Run p e below n0 Q G m T pY ls st) (rn : x = y → Run p e below n0 Q G m T pN ls st) (hp : 0 ≤ (pc : Int) + o ∧ ((pc : Int) + o).toNat = pY ∧ pc + 3 = pN := by decide) : Run p e below n0 Q G m T pc ls (.int y :: .int x :: st) := by
  by_cases g : x = y
  · obtain rfl := hp.2.2
    exact Run.step (fun t q => XS.icmpNo X.at' C.1 rfl (C.d hd) rfl (teq g).2 q) (rn g)
  · exact Run.step (fun t q => XS.icmpYes X.at' C.1 rfl rfl (C.d hd) rfl (feq g).2 hp.1 hp.2.1 q) (ry g)
theorem s_if_ne (pY pN : Nat) (C : Cx tabs a0 Z own nm code ml ret p s m meth c) (X : St p l e R s m args below meth c n0 T h k n) {x : Int32} {o : Int} (hd : decode code pc = .ok (.ifCond .ne o, 3)) (ry : ¬ x = (0 : Int32) → Run p e below n0 Q G m T pY ls st) (rn : x = (0 : Int32) → Run p e below n0 Q G m T pN ls st) (hp : 0 ≤ (pc : Int) + o ∧ ((pc : Int) + o).toNat = pY ∧ pc + 3 = pN := by decide) : Run p e below n0 Q G m T pc ls (.int x :: st) := by
  by_cases g : x = (0 : Int32)
  · obtain rfl := hp.2.2
    exact Run.step (fun t q => XS.ifNo X.at' C.1 rfl (C.d hd) rfl ((if0 _ _).trans (teq g).2) q) (rn g)
  · exact Run.step (fun t q => XS.ifYes X.at' C.1 rfl rfl (C.d hd) rfl ((if0 _ _).trans (feq g).2) hp.1 hp.2.1 q) (ry g)
theorem s_acmp_eq (pY pN : Nat) (C : Cx tabs a0 Z own nm code ml ret p s m meth c) (X : St p l e R s m args below meth c n0 T h k n) {v w : Value} {o : Int} (hd : decode code pc = .ok (.if_acmp .eq o, 3)) (hv : v.isRef = true) (hw : w.isRef = true) (ry : v = w → Run p e below n0 Q G m T pY ls st) (rn : ¬ v = w → Run p e below n0 Q G m T pN ls st) (hp : 0 ≤ (pc : Int) + o ∧ ((pc : Int) + o).toNat = pY ∧ pc + 3 = pN := by decide) : Run p e below n0 Q G m T pc ls (w :: v :: st) := by
  by_cases g : v = w
  · exact Run.step (fun t q => XT.acmpYes X.at' C.1 rfl rfl (C.d hd) rfl hv hw (by simp [XT.acmp, g]) hp.1 hp.2.1 q) (ry g)
  · obtain rfl := hp.2.2; exact Run.step (fun t q => XT.acmpNo X.at' C.1 rfl (C.d hd) rfl hv hw (by simp [XT.acmp, g]) q) (rn g)
theorem s_acmp_ne (pY pN : Nat) (C : Cx tabs a0 Z own nm code ml ret p s m meth c) (X : St p l e R s m args below meth c n0 T h k n) {v w : Value} {o : Int} (hd : decode code pc = .ok (.if_acmp .ne o, 3)) (hv : v.isRef = true) (hw : w.isRef = true) (ry : ¬ v = w → Run p e below n0 Q G m T pY ls st) (rn : v = w → Run p e below n0 Q G m T pN ls st) (hp : 0 ≤ (pc : Int) + o ∧ ((pc : Int) + o).toNat = pY ∧ pc + 3 = pN := by decide) : Run p e below n0 Q G m T pc ls (w :: v :: st) := by
  by_cases g : v = w
  · obtain rfl := hp.2.2; exact Run.step (fun t q => XT.acmpNo X.at' C.1 rfl (C.d hd) rfl hv hw (by simp [XT.acmp, g]) q) (rn g)
  · exact Run.step (fun t q => XT.acmpYes X.at' C.1 rfl rfl (C.d hd) rfl hv hw (by simp [XT.acmp, g]) hp.1 hp.2.1 q) (ry g)
theorem s_ldcInt (pc' : Nat) (C : Cx tabs a0 Z own nm code ml ret p s m meth c) (X : St p l e R s m args below meth c n0 T h k n) {idx : Nat} {z : Int32} (hd : decode code pc = .ok (.ldc idx, 2)) (w : Jvm.Cond.constant own idx z ∈ tabs) (r : Run p e below n0 Q G m T pc' ls (.int z :: st)) (hp : pc + 2 = pc' := by rfl) : Run p e below n0 Q G m T pc ls st := by
  subst hp
  obtain ⟨_, Y, -⟩ := X
  exact Run.step (Y.ldcInt C.1 C.2.2.2.2.1 (mvT C.2.1 (C.w w)) (g := mkF m pc ls st) rfl (C.d hd)) r
theorem FE_mono {kc ks : Nat} (hk : k ≤ kc) (hn : n ≤ ks) : ∀ (v : Option Value) (t : State) (L : List Loc), FrameEnd s (.returned v) t L k n → FrameEnd s (.returned v) t L kc ks := fun v t L h => ⟨h.1, h.2.1, h.2.2.mono hk hn⟩
theorem Run.done (C : Cx tabs a0 Z own nm code ml ret p s m meth c) (X : St p l e R s m args below meth c n0 T h k n) {v : Option Value} (hv : ret = none → v = none) (hG : ∀ (v : Option Value) (t : State) (L : List Loc), FrameEnd s (.returned v) t L k n → G (.returned v) t L) (q : Q v h) (f : ∀ locs fs, Stand p l e R s m args below meth c T locs k n → (∀ (f : JFrame) (acts : List Action), f.method = m → f.locked = none → f.entered = [] → (doReturn e (T.setTop f) acts v).1 = T.setFrames fs) → Steps p.tables e below (T.setTop (mkF m pc ls st)) (T.setFrames fs)) : Run p e below n0 Q G m T pc ls st := by
  obtain ⟨locs, Y, rfl, N, -⟩ := X
  obtain ⟨fs, hr, hrun, hended, hW, hsame⟩ := Y.leave (v := v) (by rw [C.2.2.2.2.2.1]; exact hv) C.2.2.2.2.2.2.1
  exact ⟨_, _, f locs fs Y hr, hrun, hended, _, _, rfl, ⟨q, N⟩, hG _ _ _ ⟨⟨_, rfl⟩, hW, hsame⟩⟩
theorem s_ireturn (C : Cx tabs a0 Z own nm code ml ret p s m meth c) (X : St p l e R s m args below meth c n0 T h k n) {z : Int32} (hd : decode code pc = .ok (.ireturn, 1)) (hr : ret = some .int) (q : Q (some (.int z)) h) (hG : ∀ (v : Option Value) (t : State) (L : List Loc), FrameEnd s (.returned v) t L k n → G (.returned v) t L := by exact FE_mono (by decide) (by decide)) : Run p e below n0 Q G m T pc ls (.int z :: st) := by
  subst hr
  refine Run.done C X (fun w => by cases w) hG q (fun locs fs Y hr => ?_)
  exact retOut Y C.1 C.2.2.2.2.2.1 (t := .int) rfl (Or.inl ⟨rfl, Or.inl rfl, _, rfl⟩) (C.d hd) hr
theorem s_nreturn (C : Cx tabs a0 Z own nm code ml ret p s m meth c) (X : St p l e R s m args below meth c n0 T h k n) {z z' : Int32} {t : FieldType} (hd : decode code pc = .ok (.ireturn, 1)) (hr : ret = some t) (ht : t = .boolean ∨ t = .byte ∨ t = .char ∨ t = .short) (hz : nar t z = z') (q : Q (some (.int z')) h) (hG : ∀ (v : Option Value) (t : State) (L : List Loc), FrameEnd s (.returned v) t L k n → G (.returned v) t L := by exact FE_mono (by decide) (by decide)) : Run p e below n0 Q G m T pc ls (.int z :: st) := by
  subst hr hz
  refine Run.done C X (fun w => by cases w) hG q (fun locs fs Y hr => ?_)
  exact retN Y C.1 C.2.2.2.2.2.1 ht (C.d hd) hr
theorem s_areturn (C : Cx tabs a0 Z own nm code ml ret p s m meth c) (X : St p l e R s m args below meth c n0 T h k n) {v : Value} {t : FieldType} (hd : decode code pc = .ok (.areturn, 1)) (hr : ret = some t) (ht : t.isReference = true) (hv : v.isRef = true) (q : Q (some v) h) (hG : ∀ (v : Option Value) (t : State) (L : List Loc), FrameEnd s (.returned v) t L k n → G (.returned v) t L := by exact FE_mono (by decide) (by decide)) : Run p e below n0 Q G m T pc ls (v :: st) := by
  subst hr
  refine Run.done C X (fun w => by cases w) hG q (fun locs fs Y hr => ?_)
  exact retOut Y C.1 C.2.2.2.2.2.1 (t := t) (by rcases ref_cases hv with rfl | ⟨_, rfl⟩ <;> cases t <;> first | rfl | simp [FieldType.isReference] at ht) (Or.inr (Or.inr (Or.inr (Or.inr ⟨rfl, ht, hv⟩)))) (C.d hd) hr
theorem s_getstatic (pc' : Nat) (C : Cx tabs a0 Z own nm code ml ret p s m meth c) (X : St p l e R s m args below meth c n0 T h k n) {R0 O fn d host : String} {idx : Nat} {v : Value} (hd : decode code pc = .ok (.getstatic idx, 3)) (w : Jvm.Cond.fieldLink own idx R0 fn d ∈ tabs ∨ Jvm.Cond.fieldLinkNest own idx R0 fn d host ∈ tabs) (via : Via Z R0 O fn d) (F : Sta Z h O fn d v) (r : ∀ T', St p l e R s m args below meth c n0 T' h k n → Run p e below n0 Q G m T' pc' ls (v :: st)) (hp : pc + 3 = pc' := by rfl) : Run p e below n0 Q G m T pc ls st := by
  subst hp
  obtain ⟨locs, Y, eT, N, q⟩ := X
  obtain ⟨T', Y', e', f⟩ := getS2 (host := host) Y C.1 C.2.1 C.2.2.2.2.1 (w.imp C.w C.w) via eT F (g := mkF m pc ls st) rfl (C.d hd)
  exact Run.step f (r T' ⟨locs, Y', e', N, q⟩)
/-- a method's contract at given arguments and a given heap -/
def Met (l : Launch) (Z : State) (y : MethodName) (bytes : ByteArray) (ml : Nat) (ret : Option FieldType) (rm : Room) (ws : List Jvm.Cond) (as : Array Value) (h : Heap) (n0 : Nat) (Q : Option Value → Heap → Prop) : Prop :=
  MetFree l y (head1 (Jvm.Cond.code y bytes ml ret :: ws) rm) (fun a U => a = as ∧ Z.Warmed39 U.vm ∧ U.heap = h) (fun _ _ _ _ _ => True) (fun _ U o U' => ∃ v L, o = .returned v ∧ (Q v U'.heap ∧ Fr n0 L) ∧ FrameEnd U o U' L rm.cells rm.slots)
theorem Met.mk {y : MethodName} {rm : Room} {ws : List Jvm.Cond} {as : Array Value} {ls0 : Array Slot} (hpl : plainFor y = true) (hw : ∀ d ∈ tabs, d.before a0 Z = true) (hn : n0 ≤ h.size) (hef : ∀ m, entryFrame m as ml = mkF m 0 ls0 [])
    (body : ∀ p e s m below meth c T, Cx tabs a0 Z y.cls y.name code ml ret p s m meth c → St p l e rm s m as below meth c n0 T h 0 0 → Run p e below n0 Q (fun o t L => FrameEnd s o t L rm.cells rm.slots) m T 0 ls0 []) : Met l Z y code ml ret rm ws as h n0 Q := by
  refine MetFree.of_bodySF hpl hisR ?_
  intro p e s m args below meth c s₁ Bd hml0 hP hK
  obtain ⟨rfl, hZ, rfl⟩ := hP
  have X0 : Stand p l e rm s m args below meth c s₁ [] 0 0 := Stand.of_body Bd
  have e0 : s₁.heap = s.heap := by rw [Bd.state]; rfl
  have r := body p e s m below meth c s₁ ⟨Bd.exec, hZ, Bd.bytes, hml0, findClass_of_methodNamed Bd.named, Bd.returns, Bd.notSynchronized, (name_of_methodNamed Bd.named Bd.method).1, hw⟩ ⟨[], X0, e0, Fr.nil n0, hn⟩
  obtain ⟨s₂, o, h1, h2⟩ := r
  exact ⟨s₂, o, castTop (hef m) h1, h2⟩
theorem s_callS (pc' : Nat) (argsL rest : List Value) (W : Nat) (C : Cx tabs a0 Z own nm code ml ret p s m meth c) (X : St p l e R s m args below meth c n0 T h k n) {idx : Nat} {y : MethodName} {bytes : ByteArray} {maxL : Nat} {rt : Option FieldType} {rm : Room} {stk : List Value} {Q1 : Option Value → Heap → Prop} (hd : decode code pc = .ok (.invokestatic idx, 3)) (w1 : Jvm.Cond.methodLink own idx y ∈ tabs) (w2 : Jvm.Cond.static y ∈ tabs) (w3 : Jvm.Cond.initialized y.cls ∈ tabs) (w4 : Jvm.Cond.code y bytes maxL rt ∈ tabs)
    (M : Met l Z y bytes maxL rt rm [] argsL.toArray h n0 Q1) (hlen : ∀ sig, parseMethodDescriptor y.desc = some sig → argsL.length = sig.parameters.length) (hs : stk = argsL.reverse ++ rest) (hsz : ls.size = ml) (hW : (rest.map fun v => v.category).sum = W)
    (r : ∀ T' v h', St p l e R s m args below meth c n0 T' h' (k + rm.cells) (n + rm.slots) → Q1 v h' → Run p e below n0 Q G m T' pc' ls (v.toList ++ rest)) (hp : pc + 3 = pc' := by rfl) (hr : rm.frames + 1 ≤ R.frames ∧ W + (maxL + 11) + rm.locals ≤ R.locals ∧ k + rm.cells ≤ R.cells ∧ n + rm.slots ≤ R.slots := by decide) (hy : y.cls ≠ "java/lang/invoke/MethodHandle" ∧ y.cls ≠ "java/lang/invoke/VarHandle" := by decide) : Run p e below n0 Q G m T pc ls stk := by
  subst hp hs
  obtain ⟨locs, Y, eT, N, q⟩ := X
  obtain ⟨v, _, ⟨T1, L1, k1, n1⟩, -, Y', ⟨Lc, hQ, l1, y1, z1⟩, f⟩ := Jvm.LawKit.callS Y C.1 C.2.2.2.2.1 (mvT C.2.1 (C.w w1)) (mvT C.2.1 (C.w w2)) (mvT C.2.1 (C.w w3)) (mvT C.2.1 (C.w w4)) hy (backOf (W := W) (Q := fun v h L => Q1 v h ∧ Fr n0 L) M C.2.1 (C.w w4) (C.w w3) hr.1 hr.2.1) (g := mkF m pc ls (argsL.reverse ++ rest)) rfl (hsz.trans C.2.2.2.1.symm) (argsL := argsL) (rest := rest) hlen rfl (by show 2 * 0 + _ ≤ _; rw [hW]; omega) (C.d hd) (fun _ _ => ⟨rfl, eT, hr.2.2.1, hr.2.2.2⟩)
  dsimp only [Pt.U, Pt.locs, Pt.cells, Pt.slots] at Y' l1 y1 z1 f hQ
  subst l1 y1 z1
  exact Run.step f (r T1 v _ ⟨_, Y', rfl, Fr.app N hQ.2, q⟩ hQ.1)
theorem s_callV (pc' : Nat) (argsL rest : List Value) (W : Nat) (C : Cx tabs a0 Z own nm code ml ret p s m meth c) (X : St p l e R s m args below meth c n0 T h k n) {idx : Nat} {y : MethodName} {bytes : ByteArray} {maxL : Nat} {rt : Option FieldType} {rm : Room} {stk : List Value} {Q1 : Option Value → Heap → Prop} {y0 : MethodName} {K : String} {a : Addr} (hd : decode code pc = .ok (.invokevirtual idx, 3)) (w1 : Jvm.Cond.methodLink own idx y0 ∈ tabs) (w2 : Jvm.Cond.declares y0 ∈ tabs) (hnf : NotFace s y0) (w5 : Jvm.Cond.selects K y0 y ∈ tabs) (w6 : Jvm.Cond.instanceMethod y ∈ tabs) (w3 : Jvm.Cond.initialized y.cls ∈ tabs) (w4 : Jvm.Cond.code y bytes maxL rt ∈ tabs)
    (E : Exa Z h a K) (M : Met l Z y bytes maxL rt rm [] (.ref a :: argsL).toArray h n0 Q1) (hlen : ∀ sig, parseMethodDescriptor y0.desc = some sig → argsL.length = sig.parameters.length) (hs : stk = argsL.reverse ++ .ref a :: rest) (hsz : ls.size = ml) (hW : (rest.map fun v => v.category).sum = W)
    (r : ∀ T' v h', St p l e R s m args below meth c n0 T' h' (k + rm.cells) (n + rm.slots) → Q1 v h' → Run p e below n0 Q G m T' pc' ls (v.toList ++ rest)) (hp : pc + 3 = pc' := by rfl) (hr : rm.frames + 1 ≤ R.frames ∧ W + (maxL + 11) + rm.locals ≤ R.locals ∧ k + rm.cells ≤ R.cells ∧ n + rm.slots ≤ R.slots := by decide) (hy : y0.cls ≠ "java/lang/invoke/MethodHandle" ∧ y0.cls ≠ "java/lang/invoke/VarHandle" := by decide) : Run p e below n0 Q G m T pc ls stk := by
  subst hp hs
  obtain ⟨locs, Y, eT, N, q⟩ := X
  obtain ⟨cq, kq, qa, qb, qc⟩ := isOf C.2.1 eT E
  obtain ⟨v, _, ⟨T1, L1, k1, n1⟩, -, Y', ⟨Lc, hQ, l1, y1, z1⟩, f⟩ := Y.virtualBack C.1 (y := y0) (z := y) C.2.2.2.2.1 (mvT C.2.1 (C.w w1)) (mvT C.2.1 (C.w w2)) hnf (mvT C.2.1 (C.w w5)) (mvT C.2.1 (C.w w6)) hy (backOf (W := W) (Q := fun v h L => Q1 v h ∧ Fr n0 L) M C.2.1 (C.w w4) (C.w w3) hr.1 hr.2.1) qa qc (g := mkF m pc ls (argsL.reverse ++ .ref a :: rest)) rfl (hsz.trans C.2.2.2.1.symm) (Steps.refl _) (argsL := argsL) (rest := rest) hlen rfl (by show 2 * 0 + _ ≤ _; rw [hW]; omega) (C.d hd) (fun _ _ => ⟨rfl, eT, hr.2.2.1, hr.2.2.2⟩)
  dsimp only [Pt.U, Pt.locs, Pt.cells, Pt.slots] at Y' l1 y1 z1 f hQ
  subst l1 y1 z1
  exact Run.steps f (r T1 v _ ⟨_, Y', rfl, Fr.app N hQ.2, q⟩ hQ.1)
end A
end Jvm.OwnK
namespace Jvm.Pilot.@@N@@
open Jvm Jvm.ClassFile Sem Op Lib Jvm.Free Jvm.Stand Jvm.LawKit Jvm.RoadKit Bundle Jvm.OwnK Jvm.Pilot.@@N@@.Jvm.D
theorem pn_com_example_medis_medis_engine_TruthAndPinLaw : plainName "com/example/medis/medis/engine/TruthAndPinLaw" = true := by first | (simp [plainName, overriddenIn]; done) | decide +kernel
theorem d1_0 : decode method_2_code 0 = .ok (.iload_n 0, 1) := by decide +kernel
theorem d1_1 : decode method_2_code 1 = .ok (.ifCond .ne 7, 3) := by decide +kernel
theorem d1_8 : decode method_2_code 8 = .ok (.iload_n 0, 1) := by decide +kernel
theorem d1_9 : decode method_2_code 9 = .ok (.iconst 1, 1) := by decide +kernel
theorem kc_iconst_1 : Int32.ofInt 1 = (1 : Int32) := by decide +kernel
theorem d1_10 : decode method_2_code 10 = .ok (.if_icmp .ne 7, 3) := by decide +kernel
theorem d1_17 : decode method_2_code 17 = .ok (.getstatic 16, 3) := by decide +kernel
theorem d1_20 : decode method_2_code 20 = .ok (.areturn, 1) := by decide +kernel
theorem d1_13 : decode method_2_code 13 = .ok (.getstatic 13, 3) := by decide +kernel
theorem d1_16 : decode method_2_code 16 = .ok (.areturn, 1) := by decide +kernel
theorem d1_4 : decode method_2_code 4 = .ok (.getstatic 7, 3) := by decide +kernel
theorem d1_7 : decode method_2_code 7 = .ok (.areturn, 1) := by decide +kernel
theorem pn_com_example_medis_medis_engine_Truth : plainName "com/example/medis/medis/engine/Truth" = true := by first | (simp [plainName, overriddenIn]; done) | decide +kernel
theorem d2_0 : decode prog_91_method_5_code 0 = .ok (.aload_n 0, 1) := by decide +kernel
theorem d2_1 : decode prog_91_method_5_code 1 = .ok (.getstatic 7, 3) := by decide +kernel
theorem d2_4 : decode prog_91_method_5_code 4 = .ok (.if_acmp .eq 10, 3) := by decide +kernel
theorem d2_14 : decode prog_91_method_5_code 14 = .ok (.getstatic 7, 3) := by decide +kernel
theorem d2_17 : decode prog_91_method_5_code 17 = .ok (.astore_n 2, 1) := by decide +kernel
theorem d2_18 : decode prog_91_method_5_code 18 = .ok (.goto 28, 3) := by decide +kernel
theorem d2_46 : decode prog_91_method_5_code 46 = .ok (.aload_n 2, 1) := by decide +kernel
theorem d2_47 : decode prog_91_method_5_code 47 = .ok (.areturn, 1) := by decide +kernel
theorem d2_7 : decode prog_91_method_5_code 7 = .ok (.aload_n 1, 1) := by decide +kernel
theorem d2_8 : decode prog_91_method_5_code 8 = .ok (.getstatic 7, 3) := by decide +kernel
theorem d2_11 : decode prog_91_method_5_code 11 = .ok (.if_acmp .ne 10, 3) := by decide +kernel
theorem d2_21 : decode prog_91_method_5_code 21 = .ok (.aload_n 0, 1) := by decide +kernel
theorem d2_22 : decode prog_91_method_5_code 22 = .ok (.getstatic 10, 3) := by decide +kernel
theorem d2_25 : decode prog_91_method_5_code 25 = .ok (.if_acmp .eq 10, 3) := by decide +kernel
theorem d2_35 : decode prog_91_method_5_code 35 = .ok (.getstatic 10, 3) := by decide +kernel
theorem d2_38 : decode prog_91_method_5_code 38 = .ok (.astore_n 2, 1) := by decide +kernel
theorem d2_39 : decode prog_91_method_5_code 39 = .ok (.goto 7, 3) := by decide +kernel
theorem d2_28 : decode prog_91_method_5_code 28 = .ok (.aload_n 1, 1) := by decide +kernel
theorem d2_29 : decode prog_91_method_5_code 29 = .ok (.getstatic 10, 3) := by decide +kernel
theorem d2_32 : decode prog_91_method_5_code 32 = .ok (.if_acmp .ne 10, 3) := by decide +kernel
theorem d2_42 : decode prog_91_method_5_code 42 = .ok (.getstatic 3, 3) := by decide +kernel
theorem d2_45 : decode prog_91_method_5_code 45 = .ok (.astore_n 2, 1) := by decide +kernel
theorem d3_0 : decode method_3_code 0 = .ok (.aload_n 0, 1) := by decide +kernel
theorem d3_1 : decode method_3_code 1 = .ok (.getstatic 7, 3) := by decide +kernel
theorem d3_4 : decode method_3_code 4 = .ok (.if_acmp .ne 5, 3) := by decide +kernel
theorem d3_9 : decode method_3_code 9 = .ok (.aload_n 0, 1) := by decide +kernel
theorem d3_10 : decode method_3_code 10 = .ok (.getstatic 13, 3) := by decide +kernel
theorem d3_13 : decode method_3_code 13 = .ok (.if_acmp .ne 5, 3) := by decide +kernel
theorem d3_18 : decode method_3_code 18 = .ok (.aload_n 0, 1) := by decide +kernel
theorem d3_19 : decode method_3_code 19 = .ok (.getstatic 16, 3) := by decide +kernel
theorem d3_22 : decode method_3_code 22 = .ok (.if_acmp .ne 5, 3) := by decide +kernel
theorem d3_27 : decode method_3_code 27 = .ok (.iconst (-1), 1) := by decide +kernel
theorem kc_iconst_m1 : Int32.ofInt (-1) = (-1 : Int32) := by decide +kernel
theorem d3_28 : decode method_3_code 28 = .ok (.ireturn, 1) := by decide +kernel
theorem d3_25 : decode method_3_code 25 = .ok (.iconst 2, 1) := by decide +kernel
theorem kc_iconst_2 : Int32.ofInt 2 = (2 : Int32) := by decide +kernel
theorem d3_26 : decode method_3_code 26 = .ok (.ireturn, 1) := by decide +kernel
theorem d3_16 : decode method_3_code 16 = .ok (.iconst 1, 1) := by decide +kernel
theorem d3_17 : decode method_3_code 17 = .ok (.ireturn, 1) := by decide +kernel
theorem d3_7 : decode method_3_code 7 = .ok (.iconst 0, 1) := by decide +kernel
theorem kc_iconst_0 : Int32.ofInt 0 = (0 : Int32) := by decide +kernel
theorem d3_8 : decode method_3_code 8 = .ok (.ireturn, 1) := by decide +kernel
theorem d4_0 : decode jdk_29_method_69_code 0 = .ok (.iload_n 0, 1) := by decide +kernel
theorem d4_1 : decode jdk_29_method_69_code 1 = .ok (.iload_n 1, 1) := by decide +kernel
theorem d4_2 : decode jdk_29_method_69_code 2 = .ok (.if_icmp .gt 7, 3) := by decide +kernel
theorem d4_9 : decode jdk_29_method_69_code 9 = .ok (.iload_n 1, 1) := by decide +kernel
theorem d4_10 : decode jdk_29_method_69_code 10 = .ok (.ireturn, 1) := by decide +kernel
theorem d4_5 : decode jdk_29_method_69_code 5 = .ok (.iload_n 0, 1) := by decide +kernel
theorem d4_6 : decode jdk_29_method_69_code 6 = .ok (.goto 4, 3) := by decide +kernel
theorem kc_iconst_3 : Int32.ofInt 3 = (3 : Int32) := by decide +kernel
theorem pd__I_Lcom_example_medis_medis_engine_Truth_ : parseMethodDescriptor "(I)Lcom/example/medis/medis/engine/Truth;" = some ⟨[.int], some (.object "com/example/medis/medis/engine/Truth")⟩ := by decide +kernel
theorem pd__Lcom_example_medis_medis_engine_Truth__Lcom_example_medis_medis_engine_Truth_ : parseMethodDescriptor "(Lcom/example/medis/medis/engine/Truth;)Lcom/example/medis/medis/engine/Truth;" = some ⟨[(.object "com/example/medis/medis/engine/Truth")], some (.object "com/example/medis/medis/engine/Truth")⟩ := by decide +kernel
theorem pd__Lcom_example_medis_medis_engine_Truth__I : parseMethodDescriptor "(Lcom/example/medis/medis/engine/Truth;)I" = some ⟨[(.object "com/example/medis/medis/engine/Truth")], some .int⟩ := by decide +kernel
theorem pd__II_I : parseMethodDescriptor "(II)I" = some ⟨[.int, .int], some .int⟩ := by decide +kernel
def andF (aF aU aT a b : Addr) : Addr := if a = aF ∨ b = aF then aF else if a = aU ∨ b = aU then aU else aT
def rankF (aF aU aT a : Addr) : Int32 := if a = aF then 0 else if a = aU then 1 else if a = aT then 2 else -1
def minF (x y : Int32) : Int32 := if y < x then y else x
theorem own_eqI {t : Term} {args : Array Value} {s : State} {z : Int32} (h : (Jvm.Cond.eq t (Term.int z)).value args s none s [] = some true) : t.eval args s none [] s = some (.int z) := by
  simp only [Cond.value, Term.eval] at h
  cases ht : t.eval args s none [] s with
  | none => simp [ht] at h
  | some x => cases x <;> simp [ht] at h ⊢; exact h
theorem own_rng (x : Int32) : 0 ≤ ((x &&& 2147483647) % 3).toInt ∧ ((x &&& 2147483647) % 3).toInt < 3 := by
  have h := (c_and x 2147483647 (by decide)).1
  have q := (c_iremV (x &&& 2147483647) 3).1 h (by decide)
  exact ⟨q.1, q.2.1⟩
theorem own_three {x : Int32} (h : 0 ≤ x.toInt ∧ x.toInt < 3) (h0 : ¬ x.toInt = 0) (h1 : ¬ x.toInt = 1) : x = 2 := Int32.toInt_inj.mp (by show x.toInt = 2; omega)
set_option maxRecDepth 65536 in
set_option maxHeartbeats 40000000 in
theorem rm_pick (l : Launch) (Z : State) (a0 : Array Value) (hw : ∀ d ∈ tables_1, d.before a0 Z = true) (x0 : Int32) (aF aU aT : Addr) (h0 : Heap) (n0 : Nat) (Z0 : n0 ≤ h0.size) (S_FALSE : Sta Z h0 "com/example/medis/medis/engine/Truth" "FALSE" "Lcom/example/medis/medis/engine/Truth;" (.ref aF)) (S_UNKNOWN : Sta Z h0 "com/example/medis/medis/engine/Truth" "UNKNOWN" "Lcom/example/medis/medis/engine/Truth;" (.ref aU)) (S_TRUE : Sta Z h0 "com/example/medis/medis/engine/Truth" "TRUE" "Lcom/example/medis/medis/engine/Truth;" (.ref aT)) :
    Met l Z (⟨"com/example/medis/medis/engine/TruthAndPinLaw", "pick", "(I)Lcom/example/medis/medis/engine/Truth;"⟩ : MethodName) method_2_code 1 (some (.object "com/example/medis/medis/engine/Truth")) { frames := 0, cells := 0, slots := 0, locals := 0 } [] #[(.int x0)] h0 n0 (fun v h => ((x0 = 0 ∧ v = some (.ref aF)) ∨ (x0 = 1 ∧ v = some (.ref aU)) ∨ (¬ x0.toInt = 0 ∧ ¬ x0.toInt = 1 ∧ v = some (.ref aT))) ∧ h = h0) := by
  refine Met.mk (tabs := tables_1) (a0 := a0) (ls0 := #[.val (.int x0)]) (plainFor_of_name pn_com_example_medis_medis_engine_TruthAndPinLaw) hw Z0 (fun m => by first | (simp [entryFrame, mkF, argsToLocals, Value.category]; done) | rfl) ?_
  intro p e s m below meth c T C X
  refine s_iloadN 1 C X d1_0 rfl ?_
  refine s_if_ne 8 4 C X d1_1 (fun c1 => ?_) (fun c1 => ?_)
  · have t_c1 : ¬ ((x0).toInt = (0 : Int)) := fun q => c1 (Int32.toInt_inj.mp q)
    refine s_iloadN 9 C X d1_8 rfl ?_
    refine s_iconst 10 C X d1_9 kc_iconst_1 ?_
    refine s_icmp_ne 17 13 C X d1_10 (fun c10 => ?_) (fun c10 => ?_)
    · have t_c10 : ¬ ((x0).toInt = (1 : Int)) := fun q => c10 (Int32.toInt_inj.mp q)
      refine s_getstatic 20 C X (host := "") d1_17 (Or.inl (List.mem_of_getElem? (i := 21) rfl)) Via.refl S_TRUE (fun T X => ?_)
      refine s_areturn C X d1_20 rfl rfl rfl ?_
      exact ⟨Or.inr (Or.inr ⟨t_c1, t_c10, rfl⟩), rfl⟩
    have t_c10 : (x0).toInt = (1 : Int) := congrArg Int32.toInt c10
    refine s_getstatic 16 C X (host := "") d1_13 (Or.inl (List.mem_of_getElem? (i := 23) rfl)) Via.refl S_UNKNOWN (fun T X => ?_)
    refine s_areturn C X d1_16 rfl rfl rfl ?_
    exact ⟨Or.inr (Or.inl ⟨c10, rfl⟩), rfl⟩
  have t_c1 : (x0).toInt = (0 : Int) := congrArg Int32.toInt c1
  refine s_getstatic 7 C X (host := "") d1_4 (Or.inl (List.mem_of_getElem? (i := 5) rfl)) Via.refl S_FALSE (fun T X => ?_)
  refine s_areturn C X d1_7 rfl rfl rfl ?_
  exact ⟨Or.inl ⟨c1, rfl⟩, rfl⟩
set_option maxRecDepth 65536 in
set_option maxHeartbeats 40000000 in
theorem rm_and (l : Launch) (Z : State) (a0 : Array Value) (hw : ∀ d ∈ tables_1, d.before a0 Z = true) (a b : Addr) (aF aU aT : Addr) (h0 : Heap) (n0 : Nat) (Z0 : n0 ≤ h0.size) (S_FALSE : Sta Z h0 "com/example/medis/medis/engine/Truth" "FALSE" "Lcom/example/medis/medis/engine/Truth;" (.ref aF)) (S_UNKNOWN : Sta Z h0 "com/example/medis/medis/engine/Truth" "UNKNOWN" "Lcom/example/medis/medis/engine/Truth;" (.ref aU)) (S_TRUE : Sta Z h0 "com/example/medis/medis/engine/Truth" "TRUE" "Lcom/example/medis/medis/engine/Truth;" (.ref aT)) :
    Met l Z (⟨"com/example/medis/medis/engine/Truth", "and", "(Lcom/example/medis/medis/engine/Truth;)Lcom/example/medis/medis/engine/Truth;"⟩ : MethodName) prog_91_method_5_code 3 (some (.object "com/example/medis/medis/engine/Truth")) { frames := 0, cells := 0, slots := 0, locals := 0 } [] #[(.ref a), (.ref b)] h0 n0 (fun v h => v = some (.ref (andF aF aU aT a b)) ∧ h = h0) := by
  refine Met.mk (tabs := tables_1) (a0 := a0) (ls0 := #[.val (.ref a), .val (.ref b), .unset]) (plainFor_of_name pn_com_example_medis_medis_engine_Truth) hw Z0 (fun m => by first | (simp [entryFrame, mkF, argsToLocals, Value.category]; done) | rfl) ?_
  intro p e s m below meth c T C X
  refine s_aloadN 1 C X d2_0 rfl rfl ?_
  refine s_getstatic 4 C X (host := "") d2_1 (Or.inl (List.mem_of_getElem? (i := 13) rfl)) Via.refl S_FALSE (fun T X => ?_)
  refine s_acmp_eq 14 7 C X d2_4 rfl rfl (fun c4 => ?_) (fun c4 => ?_)
  · refine s_getstatic 17 C X (host := "") d2_14 (Or.inl (List.mem_of_getElem? (i := 13) rfl)) Via.refl S_FALSE (fun T X => ?_)
    refine s_astoreN 18 C X (l' := #[.val (.ref a), .val (.ref b), .val (.ref aF)]) d2_17 rfl rfl ?_
    refine s_goto 46 C X d2_18 ?_
    refine s_aloadN 47 C X d2_46 rfl rfl ?_
    refine s_areturn C X d2_47 rfl rfl rfl ?_
    have t_c4 : a = aF := Value.ref.inj c4
    exact ⟨by simp only [andF, eq_true t_c4, true_or, or_true, or_false, false_or, or_self, if_true, if_false], rfl⟩
  refine s_aloadN 8 C X d2_7 rfl rfl ?_
  refine s_getstatic 11 C X (host := "") d2_8 (Or.inl (List.mem_of_getElem? (i := 13) rfl)) Via.refl S_FALSE (fun T X => ?_)
  refine s_acmp_ne 21 14 C X d2_11 rfl rfl (fun c11 => ?_) (fun c11 => ?_)
  · refine s_aloadN 22 C X d2_21 rfl rfl ?_
    refine s_getstatic 25 C X (host := "") d2_22 (Or.inl (List.mem_of_getElem? (i := 25) rfl)) Via.refl S_UNKNOWN (fun T X => ?_)
    refine s_acmp_eq 35 28 C X d2_25 rfl rfl (fun c25 => ?_) (fun c25 => ?_)
    · refine s_getstatic 38 C X (host := "") d2_35 (Or.inl (List.mem_of_getElem? (i := 25) rfl)) Via.refl S_UNKNOWN (fun T X => ?_)
      refine s_astoreN 39 C X (l' := #[.val (.ref a), .val (.ref b), .val (.ref aU)]) d2_38 rfl rfl ?_
      refine s_goto 46 C X d2_39 ?_
      refine s_aloadN 47 C X d2_46 rfl rfl ?_
      refine s_areturn C X d2_47 rfl rfl rfl ?_
      have t_c4 : ¬ a = aF := fun q => c4 (congrArg Value.ref q)
      have t_c11 : ¬ b = aF := fun q => c11 (congrArg Value.ref q)
      have t_c25 : a = aU := Value.ref.inj c25
      exact ⟨by simp only [andF, eq_false t_c4, eq_false t_c11, eq_true t_c25, true_or, or_true, or_false, false_or, or_self, if_true, if_false], rfl⟩
    refine s_aloadN 29 C X d2_28 rfl rfl ?_
    refine s_getstatic 32 C X (host := "") d2_29 (Or.inl (List.mem_of_getElem? (i := 25) rfl)) Via.refl S_UNKNOWN (fun T X => ?_)
    refine s_acmp_ne 42 35 C X d2_32 rfl rfl (fun c32 => ?_) (fun c32 => ?_)
    · refine s_getstatic 45 C X (host := "") d2_42 (Or.inl (List.mem_of_getElem? (i := 26) rfl)) Via.refl S_TRUE (fun T X => ?_)
      refine s_astoreN 46 C X (l' := #[.val (.ref a), .val (.ref b), .val (.ref aT)]) d2_45 rfl rfl ?_
      refine s_aloadN 47 C X d2_46 rfl rfl ?_
      refine s_areturn C X d2_47 rfl rfl rfl ?_
      have t_c4 : ¬ a = aF := fun q => c4 (congrArg Value.ref q)
      have t_c11 : ¬ b = aF := fun q => c11 (congrArg Value.ref q)
      have t_c25 : ¬ a = aU := fun q => c25 (congrArg Value.ref q)
      have t_c32 : ¬ b = aU := fun q => c32 (congrArg Value.ref q)
      exact ⟨by simp only [andF, eq_false t_c4, eq_false t_c11, eq_false t_c25, eq_false t_c32, true_or, or_true, or_false, false_or, or_self, if_true, if_false], rfl⟩
    refine s_getstatic 38 C X (host := "") d2_35 (Or.inl (List.mem_of_getElem? (i := 25) rfl)) Via.refl S_UNKNOWN (fun T X => ?_)
    refine s_astoreN 39 C X (l' := #[.val (.ref a), .val (.ref b), .val (.ref aU)]) d2_38 rfl rfl ?_
    refine s_goto 46 C X d2_39 ?_
    refine s_aloadN 47 C X d2_46 rfl rfl ?_
    refine s_areturn C X d2_47 rfl rfl rfl ?_
    have t_c4 : ¬ a = aF := fun q => c4 (congrArg Value.ref q)
    have t_c11 : ¬ b = aF := fun q => c11 (congrArg Value.ref q)
    have t_c25 : ¬ a = aU := fun q => c25 (congrArg Value.ref q)
    have t_c32 : b = aU := Value.ref.inj c32
    exact ⟨by simp only [andF, eq_false t_c4, eq_false t_c11, eq_false t_c25, eq_true t_c32, true_or, or_true, or_false, false_or, or_self, if_true, if_false], rfl⟩
  refine s_getstatic 17 C X (host := "") d2_14 (Or.inl (List.mem_of_getElem? (i := 13) rfl)) Via.refl S_FALSE (fun T X => ?_)
  refine s_astoreN 18 C X (l' := #[.val (.ref a), .val (.ref b), .val (.ref aF)]) d2_17 rfl rfl ?_
  refine s_goto 46 C X d2_18 ?_
  refine s_aloadN 47 C X d2_46 rfl rfl ?_
  refine s_areturn C X d2_47 rfl rfl rfl ?_
  have t_c4 : ¬ a = aF := fun q => c4 (congrArg Value.ref q)
  have t_c11 : b = aF := Value.ref.inj c11
  exact ⟨by simp only [andF, eq_false t_c4, eq_true t_c11, true_or, or_true, or_false, false_or, or_self, if_true, if_false], rfl⟩
set_option maxRecDepth 65536 in
set_option maxHeartbeats 40000000 in
theorem rm_rank (l : Launch) (Z : State) (a0 : Array Value) (hw : ∀ d ∈ tables_1, d.before a0 Z = true) (a : Addr) (aF aU aT : Addr) (h0 : Heap) (n0 : Nat) (Z0 : n0 ≤ h0.size) (S_FALSE : Sta Z h0 "com/example/medis/medis/engine/Truth" "FALSE" "Lcom/example/medis/medis/engine/Truth;" (.ref aF)) (S_UNKNOWN : Sta Z h0 "com/example/medis/medis/engine/Truth" "UNKNOWN" "Lcom/example/medis/medis/engine/Truth;" (.ref aU)) (S_TRUE : Sta Z h0 "com/example/medis/medis/engine/Truth" "TRUE" "Lcom/example/medis/medis/engine/Truth;" (.ref aT)) :
    Met l Z (⟨"com/example/medis/medis/engine/TruthAndPinLaw", "rank", "(Lcom/example/medis/medis/engine/Truth;)I"⟩ : MethodName) method_3_code 1 (some .int) { frames := 0, cells := 0, slots := 0, locals := 0 } [] #[(.ref a)] h0 n0 (fun v h => v = some (.int (rankF aF aU aT a)) ∧ h = h0) := by
  refine Met.mk (tabs := tables_1) (a0 := a0) (ls0 := #[.val (.ref a)]) (plainFor_of_name pn_com_example_medis_medis_engine_TruthAndPinLaw) hw Z0 (fun m => by first | (simp [entryFrame, mkF, argsToLocals, Value.category]; done) | rfl) ?_
  intro p e s m below meth c T C X
  refine s_aloadN 1 C X d3_0 rfl rfl ?_
  refine s_getstatic 4 C X (host := "") d3_1 (Or.inl (List.mem_of_getElem? (i := 5) rfl)) Via.refl S_FALSE (fun T X => ?_)
  refine s_acmp_ne 9 7 C X d3_4 rfl rfl (fun c4 => ?_) (fun c4 => ?_)
  · refine s_aloadN 10 C X d3_9 rfl rfl ?_
    refine s_getstatic 13 C X (host := "") d3_10 (Or.inl (List.mem_of_getElem? (i := 23) rfl)) Via.refl S_UNKNOWN (fun T X => ?_)
    refine s_acmp_ne 18 16 C X d3_13 rfl rfl (fun c13 => ?_) (fun c13 => ?_)
    · refine s_aloadN 19 C X d3_18 rfl rfl ?_
      refine s_getstatic 22 C X (host := "") d3_19 (Or.inl (List.mem_of_getElem? (i := 21) rfl)) Via.refl S_TRUE (fun T X => ?_)
      refine s_acmp_ne 27 25 C X d3_22 rfl rfl (fun c22 => ?_) (fun c22 => ?_)
      · refine s_iconst 28 C X d3_27 kc_iconst_m1 ?_
        refine s_ireturn C X d3_28 rfl ?_
        have t_c4 : ¬ a = aF := fun q => c4 (congrArg Value.ref q)
        have t_c13 : ¬ a = aU := fun q => c13 (congrArg Value.ref q)
        have t_c22 : ¬ a = aT := fun q => c22 (congrArg Value.ref q)
        exact ⟨by simp only [rankF, eq_false t_c4, eq_false t_c13, eq_false t_c22, if_true, if_false], rfl⟩
      refine s_iconst 26 C X d3_25 kc_iconst_2 ?_
      refine s_ireturn C X d3_26 rfl ?_
      have t_c4 : ¬ a = aF := fun q => c4 (congrArg Value.ref q)
      have t_c13 : ¬ a = aU := fun q => c13 (congrArg Value.ref q)
      have t_c22 : a = aT := Value.ref.inj c22
      exact ⟨by simp only [rankF, eq_false t_c4, eq_false t_c13, eq_true t_c22, if_true, if_false], rfl⟩
    refine s_iconst 17 C X d3_16 kc_iconst_1 ?_
    refine s_ireturn C X d3_17 rfl ?_
    have t_c4 : ¬ a = aF := fun q => c4 (congrArg Value.ref q)
    have t_c13 : a = aU := Value.ref.inj c13
    exact ⟨by simp only [rankF, eq_false t_c4, eq_true t_c13, if_true, if_false], rfl⟩
  refine s_iconst 8 C X d3_7 kc_iconst_0 ?_
  refine s_ireturn C X d3_8 rfl ?_
  have t_c4 : a = aF := Value.ref.inj c4
  exact ⟨by simp only [rankF, eq_true t_c4, if_true, if_false], rfl⟩
set_option maxRecDepth 65536 in
set_option maxHeartbeats 40000000 in
theorem rm_min (l : Launch) (Z : State) (a0 : Array Value) (hw : ∀ d ∈ tables_1, d.before a0 Z = true) (x0 x1 : Int32) (h0 : Heap) (n0 : Nat) (Z0 : n0 ≤ h0.size)  :
    Met l Z (⟨"java/lang/Math", "min", "(II)I"⟩ : MethodName) jdk_29_method_69_code 2 (some .int) { frames := 0, cells := 0, slots := 0, locals := 0 } [] #[(.int x0), (.int x1)] h0 n0 (fun v h => v = some (.int (minF x0 x1)) ∧ h = h0) := by
  refine Met.mk (tabs := tables_1) (a0 := a0) (ls0 := #[.val (.int x0), .val (.int x1)]) (Jvm.Free.JP.mathPlain rfl (by decide +kernel)) hw Z0 (fun m => by first | (simp [entryFrame, mkF, argsToLocals, Value.category]; done) | rfl) ?_
  intro p e s m below meth c T C X
  refine s_iloadN 1 C X d4_0 rfl ?_
  refine s_iloadN 2 C X d4_1 rfl ?_
  refine s_icmp_gt 9 5 C X d4_2 (fun c2 => ?_) (fun c2 => ?_)
  · have t_c2 : (x1).toInt < (x0).toInt := Int32.lt_iff_toInt_lt.mp c2
    refine s_iloadN 10 C X d4_9 rfl ?_
    refine s_ireturn C X d4_10 rfl ?_
    exact ⟨by simp [minF, c2], rfl⟩
  have t_c2 : ¬ ((x1).toInt < (x0).toInt) := fun q => c2 (Int32.lt_iff_toInt_lt.mpr q)
  refine s_iloadN 6 C X d4_5 rfl ?_
  refine s_goto 10 C X d4_6 ?_
  refine s_ireturn C X d4_10 rfl ?_
  exact ⟨by simp [minF, c2], rfl⟩
set_option maxRecDepth 65536 in
set_option maxHeartbeats 40000000 in
theorem rm0 (l : Launch) (Z : State) (a0 : Array Value) (hw : ∀ d ∈ tables_1, d.before a0 Z = true) (x0 x1 : Int32) (aF aU aT : Addr) (h0 : Heap) (n0 : Nat) (Z0 : n0 ≤ h0.size) (S_FALSE : Sta Z h0 "com/example/medis/medis/engine/Truth" "FALSE" "Lcom/example/medis/medis/engine/Truth;" (.ref aF)) (S_UNKNOWN : Sta Z h0 "com/example/medis/medis/engine/Truth" "UNKNOWN" "Lcom/example/medis/medis/engine/Truth;" (.ref aU)) (S_TRUE : Sta Z h0 "com/example/medis/medis/engine/Truth" "TRUE" "Lcom/example/medis/medis/engine/Truth;" (.ref aT)) (E_FALSE : Exa Z h0 aF "com/example/medis/medis/engine/Truth") (E_UNKNOWN : Exa Z h0 aU "com/example/medis/medis/engine/Truth") (E_TRUE : Exa Z h0 aT "com/example/medis/medis/engine/Truth") (nFU : aF ≠ aU) (nFT : aF ≠ aT) (nUT : aU ≠ aT) :
    Met l Z x code maxLocals ret room_1 tables_1 #[(.int x0), (.int x1)] h0 n0 (fun v h => v = some (.int 1)) := by
  refine Met.mk (tabs := tables_1) (a0 := a0) (ls0 := #[.val (.int x0), .val (.int x1), .unset, .unset, .unset, .unset, .unset]) (plainFor_of_name pn_com_example_medis_medis_engine_TruthAndPinLaw) hw Z0 (fun m => by first | (simp [entryFrame, mkF, argsToLocals, Value.category, maxLocals]; done) | rfl) ?_
  intro p e s m below meth c T C X
  refine s_iloadN 1 C X at_0 rfl ?_
  refine s_ldcInt 3 C X at_1 (List.mem_of_getElem? (i := 0) rfl) ?_
  refine s_iand 4 C X at_3 ?_
  refine s_iconst 5 C X at_4 kc_iconst_3 ?_
  refine s_irem 6 C X at_5 (by decide) ?_
  obtain ⟨ra, e_ra⟩ : ∃ zz_ : Int32, zz_ = ((x0 &&& (2147483647 : Int32)) % (3 : Int32)) := ⟨_, rfl⟩
  refine Run.cast (st' := [(.int ra)]) (by subst e_ra; rfl) ?_
  have r_ra : 0 ≤ ra.toInt ∧ ra.toInt < 3 := e_ra ▸ own_rng x0
  refine s_istoreN 7 C X (l' := #[.val (.int x0), .val (.int x1), .val (.int ra), .unset, .unset, .unset, .unset]) at_6 rfl ?_
  refine s_iloadN 8 C X at_7 rfl ?_
  refine s_ldcInt 10 C X at_8 (List.mem_of_getElem? (i := 0) rfl) ?_
  refine s_iand 11 C X at_10 ?_
  refine s_iconst 12 C X at_11 kc_iconst_3 ?_
  refine s_irem 13 C X at_12 (by decide) ?_
  obtain ⟨rb, e_rb⟩ : ∃ zz_ : Int32, zz_ = ((x1 &&& (2147483647 : Int32)) % (3 : Int32)) := ⟨_, rfl⟩
  refine Run.cast (st' := [(.int rb)]) (by subst e_rb; rfl) ?_
  have r_rb : 0 ≤ rb.toInt ∧ rb.toInt < 3 := e_rb ▸ own_rng x1
  refine s_istoreN 14 C X (l' := #[.val (.int x0), .val (.int x1), .val (.int ra), .val (.int rb), .unset, .unset, .unset]) at_13 rfl ?_
  refine s_iloadN 15 C X at_14 rfl ?_
  refine s_callS 18 [(.int ra)] [] 0 C X at_15 (List.mem_of_getElem? (i := 1) rfl) (List.mem_of_getElem? (i := 2) rfl) (List.mem_of_getElem? (i := 3) rfl) (List.mem_of_getElem? (i := 4) rfl) (rm_pick l Z a0 hw ra aF aU aT _ n0 X.sz S_FALSE S_UNKNOWN S_TRUE) (lenOf pd__I_Lcom_example_medis_medis_engine_Truth_ rfl) rfl rfl rfl (fun T v h0 X q => ?_)
  obtain ⟨⟨p_ra, rfl⟩ | ⟨p_ra, rfl⟩ | ⟨p_ra, p2_ra, rfl⟩, hE⟩ := q
  · rw [hE] at X
    refine Run.cast (st' := [(.ref aF)]) rfl ?_
    refine s_astore 20 C X (l' := #[.val (.int x0), .val (.int x1), .val (.int ra), .val (.int rb), .val (.ref aF), .unset, .unset]) at_18 rfl rfl ?_
    refine s_iloadN 21 C X at_20 rfl ?_
    refine s_callS 24 [(.int rb)] [] 0 C X at_21 (List.mem_of_getElem? (i := 1) rfl) (List.mem_of_getElem? (i := 2) rfl) (List.mem_of_getElem? (i := 3) rfl) (List.mem_of_getElem? (i := 4) rfl) (rm_pick l Z a0 hw rb aF aU aT _ n0 X.sz S_FALSE S_UNKNOWN S_TRUE) (lenOf pd__I_Lcom_example_medis_medis_engine_Truth_ rfl) rfl rfl rfl (fun T v h1 X q => ?_)
    obtain ⟨⟨p_rb, rfl⟩ | ⟨p_rb, rfl⟩ | ⟨p_rb, p2_rb, rfl⟩, hE⟩ := q
    · rw [hE] at X
      refine Run.cast (st' := [(.ref aF)]) rfl ?_
      refine s_astore 26 C X (l' := #[.val (.int x0), .val (.int x1), .val (.int ra), .val (.int rb), .val (.ref aF), .val (.ref aF), .unset]) at_24 rfl rfl ?_
      refine s_aload 28 C X at_26 rfl rfl ?_
      refine s_aload 30 C X at_28 rfl rfl ?_
      refine s_callV 33 [(.ref aF)] [] 0 C X at_30 (List.mem_of_getElem? (i := 8) rfl) (List.mem_of_getElem? (i := 9) rfl) (notFace_of_selects (args := #[]) (mvT C.2.1 (C.w (List.mem_of_getElem? (i := 11) rfl)))) (List.mem_of_getElem? (i := 11) rfl) (List.mem_of_getElem? (i := 10) rfl) (List.mem_of_getElem? (i := 6) rfl) (List.mem_of_getElem? (i := 12) rfl) E_FALSE (rm_and l Z a0 hw aF aF aF aU aT _ n0 X.sz S_FALSE S_UNKNOWN S_TRUE) (lenOf pd__Lcom_example_medis_medis_engine_Truth__Lcom_example_medis_medis_engine_Truth_ rfl) rfl rfl rfl (fun T v h2 X q => ?_)
      obtain ⟨rfl, hE⟩ := q
      rw [hE] at X
      refine Run.cast (st' := [(.ref (andF aF aU aT aF aF))]) rfl ?_
      refine s_astore 35 C X (l' := #[.val (.int x0), .val (.int x1), .val (.int ra), .val (.int rb), .val (.ref aF), .val (.ref aF), .val (.ref (andF aF aU aT aF aF))]) at_33 rfl rfl ?_
      refine s_aload 37 C X at_35 rfl rfl ?_
      refine s_callS 40 [(.ref (andF aF aU aT aF aF))] [] 0 C X at_37 (List.mem_of_getElem? (i := 14) rfl) (List.mem_of_getElem? (i := 15) rfl) (List.mem_of_getElem? (i := 3) rfl) (List.mem_of_getElem? (i := 16) rfl) (rm_rank l Z a0 hw (andF aF aU aT aF aF) aF aU aT _ n0 X.sz S_FALSE S_UNKNOWN S_TRUE) (lenOf pd__Lcom_example_medis_medis_engine_Truth__I rfl) rfl rfl rfl (fun T v h3 X q => ?_)
      obtain ⟨rfl, hE⟩ := q
      rw [hE] at X
      refine Run.cast (st' := [(.int (rankF aF aU aT (andF aF aU aT aF aF)))]) rfl ?_
      refine s_iloadN 41 C X at_40 rfl ?_
      refine s_iloadN 42 C X at_41 rfl ?_
      refine s_callS 45 [(.int ra), (.int rb)] [(.int (rankF aF aU aT (andF aF aU aT aF aF)))] 1 C X at_42 (List.mem_of_getElem? (i := 17) rfl) (List.mem_of_getElem? (i := 18) rfl) (List.mem_of_getElem? (i := 19) rfl) (List.mem_of_getElem? (i := 20) rfl) (rm_min l Z a0 hw ra rb _ n0 X.sz) (lenOf pd__II_I rfl) rfl rfl rfl (fun T v h4 X q => ?_)
      obtain ⟨rfl, hE⟩ := q
      rw [hE] at X
      refine Run.cast (st' := [(.int (minF ra rb)), (.int (rankF aF aU aT (andF aF aU aT aF aF)))]) rfl ?_
      have hz : (rankF aF aU aT (andF aF aU aT aF aF)) = (minF ra rb) := by rw [p_ra, p_rb]; simp [andF, rankF, minF, nFU, nFT, nUT, nFU.symm, nFT.symm, nUT.symm]
      refine s_icmp_ne 52 48 C X at_45 (fun c => absurd hz c) (fun c45 => ?_)
      have t_c45 : ((rankF aF aU aT (andF aF aU aT aF aF))).toInt = ((minF ra rb)).toInt := congrArg Int32.toInt c45
      refine s_iconst 49 C X at_48 kc_iconst_1 ?_
      refine s_goto 53 C X at_49 ?_
      refine s_nreturn C X at_53 rfl (by simp) rfl ?_
      rfl
    · rw [hE] at X
      refine Run.cast (st' := [(.ref aU)]) rfl ?_
      refine s_astore 26 C X (l' := #[.val (.int x0), .val (.int x1), .val (.int ra), .val (.int rb), .val (.ref aF), .val (.ref aU), .unset]) at_24 rfl rfl ?_
      refine s_aload 28 C X at_26 rfl rfl ?_
      refine s_aload 30 C X at_28 rfl rfl ?_
      refine s_callV 33 [(.ref aU)] [] 0 C X at_30 (List.mem_of_getElem? (i := 8) rfl) (List.mem_of_getElem? (i := 9) rfl) (notFace_of_selects (args := #[]) (mvT C.2.1 (C.w (List.mem_of_getElem? (i := 11) rfl)))) (List.mem_of_getElem? (i := 11) rfl) (List.mem_of_getElem? (i := 10) rfl) (List.mem_of_getElem? (i := 6) rfl) (List.mem_of_getElem? (i := 12) rfl) E_FALSE (rm_and l Z a0 hw aF aU aF aU aT _ n0 X.sz S_FALSE S_UNKNOWN S_TRUE) (lenOf pd__Lcom_example_medis_medis_engine_Truth__Lcom_example_medis_medis_engine_Truth_ rfl) rfl rfl rfl (fun T v h5 X q => ?_)
      obtain ⟨rfl, hE⟩ := q
      rw [hE] at X
      refine Run.cast (st' := [(.ref (andF aF aU aT aF aU))]) rfl ?_
      refine s_astore 35 C X (l' := #[.val (.int x0), .val (.int x1), .val (.int ra), .val (.int rb), .val (.ref aF), .val (.ref aU), .val (.ref (andF aF aU aT aF aU))]) at_33 rfl rfl ?_
      refine s_aload 37 C X at_35 rfl rfl ?_
      refine s_callS 40 [(.ref (andF aF aU aT aF aU))] [] 0 C X at_37 (List.mem_of_getElem? (i := 14) rfl) (List.mem_of_getElem? (i := 15) rfl) (List.mem_of_getElem? (i := 3) rfl) (List.mem_of_getElem? (i := 16) rfl) (rm_rank l Z a0 hw (andF aF aU aT aF aU) aF aU aT _ n0 X.sz S_FALSE S_UNKNOWN S_TRUE) (lenOf pd__Lcom_example_medis_medis_engine_Truth__I rfl) rfl rfl rfl (fun T v h6 X q => ?_)
      obtain ⟨rfl, hE⟩ := q
      rw [hE] at X
      refine Run.cast (st' := [(.int (rankF aF aU aT (andF aF aU aT aF aU)))]) rfl ?_
      refine s_iloadN 41 C X at_40 rfl ?_
      refine s_iloadN 42 C X at_41 rfl ?_
      refine s_callS 45 [(.int ra), (.int rb)] [(.int (rankF aF aU aT (andF aF aU aT aF aU)))] 1 C X at_42 (List.mem_of_getElem? (i := 17) rfl) (List.mem_of_getElem? (i := 18) rfl) (List.mem_of_getElem? (i := 19) rfl) (List.mem_of_getElem? (i := 20) rfl) (rm_min l Z a0 hw ra rb _ n0 X.sz) (lenOf pd__II_I rfl) rfl rfl rfl (fun T v h7 X q => ?_)
      obtain ⟨rfl, hE⟩ := q
      rw [hE] at X
      refine Run.cast (st' := [(.int (minF ra rb)), (.int (rankF aF aU aT (andF aF aU aT aF aU)))]) rfl ?_
      have hz : (rankF aF aU aT (andF aF aU aT aF aU)) = (minF ra rb) := by rw [p_ra, p_rb]; simp [andF, rankF, minF, nFU, nFT, nUT, nFU.symm, nFT.symm, nUT.symm]
      refine s_icmp_ne 52 48 C X at_45 (fun c => absurd hz c) (fun c45 => ?_)
      have t_c45 : ((rankF aF aU aT (andF aF aU aT aF aU))).toInt = ((minF ra rb)).toInt := congrArg Int32.toInt c45
      refine s_iconst 49 C X at_48 kc_iconst_1 ?_
      refine s_goto 53 C X at_49 ?_
      refine s_nreturn C X at_53 rfl (by simp) rfl ?_
      rfl
    · rw [hE] at X
      have p_rb := own_three r_rb p_rb p2_rb
      refine Run.cast (st' := [(.ref aT)]) rfl ?_
      refine s_astore 26 C X (l' := #[.val (.int x0), .val (.int x1), .val (.int ra), .val (.int rb), .val (.ref aF), .val (.ref aT), .unset]) at_24 rfl rfl ?_
      refine s_aload 28 C X at_26 rfl rfl ?_
      refine s_aload 30 C X at_28 rfl rfl ?_
      refine s_callV 33 [(.ref aT)] [] 0 C X at_30 (List.mem_of_getElem? (i := 8) rfl) (List.mem_of_getElem? (i := 9) rfl) (notFace_of_selects (args := #[]) (mvT C.2.1 (C.w (List.mem_of_getElem? (i := 11) rfl)))) (List.mem_of_getElem? (i := 11) rfl) (List.mem_of_getElem? (i := 10) rfl) (List.mem_of_getElem? (i := 6) rfl) (List.mem_of_getElem? (i := 12) rfl) E_FALSE (rm_and l Z a0 hw aF aT aF aU aT _ n0 X.sz S_FALSE S_UNKNOWN S_TRUE) (lenOf pd__Lcom_example_medis_medis_engine_Truth__Lcom_example_medis_medis_engine_Truth_ rfl) rfl rfl rfl (fun T v h8 X q => ?_)
      obtain ⟨rfl, hE⟩ := q
      rw [hE] at X
      refine Run.cast (st' := [(.ref (andF aF aU aT aF aT))]) rfl ?_
      refine s_astore 35 C X (l' := #[.val (.int x0), .val (.int x1), .val (.int ra), .val (.int rb), .val (.ref aF), .val (.ref aT), .val (.ref (andF aF aU aT aF aT))]) at_33 rfl rfl ?_
      refine s_aload 37 C X at_35 rfl rfl ?_
      refine s_callS 40 [(.ref (andF aF aU aT aF aT))] [] 0 C X at_37 (List.mem_of_getElem? (i := 14) rfl) (List.mem_of_getElem? (i := 15) rfl) (List.mem_of_getElem? (i := 3) rfl) (List.mem_of_getElem? (i := 16) rfl) (rm_rank l Z a0 hw (andF aF aU aT aF aT) aF aU aT _ n0 X.sz S_FALSE S_UNKNOWN S_TRUE) (lenOf pd__Lcom_example_medis_medis_engine_Truth__I rfl) rfl rfl rfl (fun T v h9 X q => ?_)
      obtain ⟨rfl, hE⟩ := q
      rw [hE] at X
      refine Run.cast (st' := [(.int (rankF aF aU aT (andF aF aU aT aF aT)))]) rfl ?_
      refine s_iloadN 41 C X at_40 rfl ?_
      refine s_iloadN 42 C X at_41 rfl ?_
      refine s_callS 45 [(.int ra), (.int rb)] [(.int (rankF aF aU aT (andF aF aU aT aF aT)))] 1 C X at_42 (List.mem_of_getElem? (i := 17) rfl) (List.mem_of_getElem? (i := 18) rfl) (List.mem_of_getElem? (i := 19) rfl) (List.mem_of_getElem? (i := 20) rfl) (rm_min l Z a0 hw ra rb _ n0 X.sz) (lenOf pd__II_I rfl) rfl rfl rfl (fun T v h10 X q => ?_)
      obtain ⟨rfl, hE⟩ := q
      rw [hE] at X
      refine Run.cast (st' := [(.int (minF ra rb)), (.int (rankF aF aU aT (andF aF aU aT aF aT)))]) rfl ?_
      have hz : (rankF aF aU aT (andF aF aU aT aF aT)) = (minF ra rb) := by rw [p_ra, p_rb]; simp [andF, rankF, minF, nFU, nFT, nUT, nFU.symm, nFT.symm, nUT.symm]
      refine s_icmp_ne 52 48 C X at_45 (fun c => absurd hz c) (fun c45 => ?_)
      have t_c45 : ((rankF aF aU aT (andF aF aU aT aF aT))).toInt = ((minF ra rb)).toInt := congrArg Int32.toInt c45
      refine s_iconst 49 C X at_48 kc_iconst_1 ?_
      refine s_goto 53 C X at_49 ?_
      refine s_nreturn C X at_53 rfl (by simp) rfl ?_
      rfl
  · rw [hE] at X
    refine Run.cast (st' := [(.ref aU)]) rfl ?_
    refine s_astore 20 C X (l' := #[.val (.int x0), .val (.int x1), .val (.int ra), .val (.int rb), .val (.ref aU), .unset, .unset]) at_18 rfl rfl ?_
    refine s_iloadN 21 C X at_20 rfl ?_
    refine s_callS 24 [(.int rb)] [] 0 C X at_21 (List.mem_of_getElem? (i := 1) rfl) (List.mem_of_getElem? (i := 2) rfl) (List.mem_of_getElem? (i := 3) rfl) (List.mem_of_getElem? (i := 4) rfl) (rm_pick l Z a0 hw rb aF aU aT _ n0 X.sz S_FALSE S_UNKNOWN S_TRUE) (lenOf pd__I_Lcom_example_medis_medis_engine_Truth_ rfl) rfl rfl rfl (fun T v h11 X q => ?_)
    obtain ⟨⟨p_rb, rfl⟩ | ⟨p_rb, rfl⟩ | ⟨p_rb, p2_rb, rfl⟩, hE⟩ := q
    · rw [hE] at X
      refine Run.cast (st' := [(.ref aF)]) rfl ?_
      refine s_astore 26 C X (l' := #[.val (.int x0), .val (.int x1), .val (.int ra), .val (.int rb), .val (.ref aU), .val (.ref aF), .unset]) at_24 rfl rfl ?_
      refine s_aload 28 C X at_26 rfl rfl ?_
      refine s_aload 30 C X at_28 rfl rfl ?_
      refine s_callV 33 [(.ref aF)] [] 0 C X at_30 (List.mem_of_getElem? (i := 8) rfl) (List.mem_of_getElem? (i := 9) rfl) (notFace_of_selects (args := #[]) (mvT C.2.1 (C.w (List.mem_of_getElem? (i := 11) rfl)))) (List.mem_of_getElem? (i := 11) rfl) (List.mem_of_getElem? (i := 10) rfl) (List.mem_of_getElem? (i := 6) rfl) (List.mem_of_getElem? (i := 12) rfl) E_UNKNOWN (rm_and l Z a0 hw aU aF aF aU aT _ n0 X.sz S_FALSE S_UNKNOWN S_TRUE) (lenOf pd__Lcom_example_medis_medis_engine_Truth__Lcom_example_medis_medis_engine_Truth_ rfl) rfl rfl rfl (fun T v h12 X q => ?_)
      obtain ⟨rfl, hE⟩ := q
      rw [hE] at X
      refine Run.cast (st' := [(.ref (andF aF aU aT aU aF))]) rfl ?_
      refine s_astore 35 C X (l' := #[.val (.int x0), .val (.int x1), .val (.int ra), .val (.int rb), .val (.ref aU), .val (.ref aF), .val (.ref (andF aF aU aT aU aF))]) at_33 rfl rfl ?_
      refine s_aload 37 C X at_35 rfl rfl ?_
      refine s_callS 40 [(.ref (andF aF aU aT aU aF))] [] 0 C X at_37 (List.mem_of_getElem? (i := 14) rfl) (List.mem_of_getElem? (i := 15) rfl) (List.mem_of_getElem? (i := 3) rfl) (List.mem_of_getElem? (i := 16) rfl) (rm_rank l Z a0 hw (andF aF aU aT aU aF) aF aU aT _ n0 X.sz S_FALSE S_UNKNOWN S_TRUE) (lenOf pd__Lcom_example_medis_medis_engine_Truth__I rfl) rfl rfl rfl (fun T v h13 X q => ?_)
      obtain ⟨rfl, hE⟩ := q
      rw [hE] at X
      refine Run.cast (st' := [(.int (rankF aF aU aT (andF aF aU aT aU aF)))]) rfl ?_
      refine s_iloadN 41 C X at_40 rfl ?_
      refine s_iloadN 42 C X at_41 rfl ?_
      refine s_callS 45 [(.int ra), (.int rb)] [(.int (rankF aF aU aT (andF aF aU aT aU aF)))] 1 C X at_42 (List.mem_of_getElem? (i := 17) rfl) (List.mem_of_getElem? (i := 18) rfl) (List.mem_of_getElem? (i := 19) rfl) (List.mem_of_getElem? (i := 20) rfl) (rm_min l Z a0 hw ra rb _ n0 X.sz) (lenOf pd__II_I rfl) rfl rfl rfl (fun T v h14 X q => ?_)
      obtain ⟨rfl, hE⟩ := q
      rw [hE] at X
      refine Run.cast (st' := [(.int (minF ra rb)), (.int (rankF aF aU aT (andF aF aU aT aU aF)))]) rfl ?_
      have hz : (rankF aF aU aT (andF aF aU aT aU aF)) = (minF ra rb) := by rw [p_ra, p_rb]; simp [andF, rankF, minF, nFU, nFT, nUT, nFU.symm, nFT.symm, nUT.symm]
      refine s_icmp_ne 52 48 C X at_45 (fun c => absurd hz c) (fun c45 => ?_)
      have t_c45 : ((rankF aF aU aT (andF aF aU aT aU aF))).toInt = ((minF ra rb)).toInt := congrArg Int32.toInt c45
      refine s_iconst 49 C X at_48 kc_iconst_1 ?_
      refine s_goto 53 C X at_49 ?_
      refine s_nreturn C X at_53 rfl (by simp) rfl ?_
      rfl
    · rw [hE] at X
      refine Run.cast (st' := [(.ref aU)]) rfl ?_
      refine s_astore 26 C X (l' := #[.val (.int x0), .val (.int x1), .val (.int ra), .val (.int rb), .val (.ref aU), .val (.ref aU), .unset]) at_24 rfl rfl ?_
      refine s_aload 28 C X at_26 rfl rfl ?_
      refine s_aload 30 C X at_28 rfl rfl ?_
      refine s_callV 33 [(.ref aU)] [] 0 C X at_30 (List.mem_of_getElem? (i := 8) rfl) (List.mem_of_getElem? (i := 9) rfl) (notFace_of_selects (args := #[]) (mvT C.2.1 (C.w (List.mem_of_getElem? (i := 11) rfl)))) (List.mem_of_getElem? (i := 11) rfl) (List.mem_of_getElem? (i := 10) rfl) (List.mem_of_getElem? (i := 6) rfl) (List.mem_of_getElem? (i := 12) rfl) E_UNKNOWN (rm_and l Z a0 hw aU aU aF aU aT _ n0 X.sz S_FALSE S_UNKNOWN S_TRUE) (lenOf pd__Lcom_example_medis_medis_engine_Truth__Lcom_example_medis_medis_engine_Truth_ rfl) rfl rfl rfl (fun T v h15 X q => ?_)
      obtain ⟨rfl, hE⟩ := q
      rw [hE] at X
      refine Run.cast (st' := [(.ref (andF aF aU aT aU aU))]) rfl ?_
      refine s_astore 35 C X (l' := #[.val (.int x0), .val (.int x1), .val (.int ra), .val (.int rb), .val (.ref aU), .val (.ref aU), .val (.ref (andF aF aU aT aU aU))]) at_33 rfl rfl ?_
      refine s_aload 37 C X at_35 rfl rfl ?_
      refine s_callS 40 [(.ref (andF aF aU aT aU aU))] [] 0 C X at_37 (List.mem_of_getElem? (i := 14) rfl) (List.mem_of_getElem? (i := 15) rfl) (List.mem_of_getElem? (i := 3) rfl) (List.mem_of_getElem? (i := 16) rfl) (rm_rank l Z a0 hw (andF aF aU aT aU aU) aF aU aT _ n0 X.sz S_FALSE S_UNKNOWN S_TRUE) (lenOf pd__Lcom_example_medis_medis_engine_Truth__I rfl) rfl rfl rfl (fun T v h16 X q => ?_)
      obtain ⟨rfl, hE⟩ := q
      rw [hE] at X
      refine Run.cast (st' := [(.int (rankF aF aU aT (andF aF aU aT aU aU)))]) rfl ?_
      refine s_iloadN 41 C X at_40 rfl ?_
      refine s_iloadN 42 C X at_41 rfl ?_
      refine s_callS 45 [(.int ra), (.int rb)] [(.int (rankF aF aU aT (andF aF aU aT aU aU)))] 1 C X at_42 (List.mem_of_getElem? (i := 17) rfl) (List.mem_of_getElem? (i := 18) rfl) (List.mem_of_getElem? (i := 19) rfl) (List.mem_of_getElem? (i := 20) rfl) (rm_min l Z a0 hw ra rb _ n0 X.sz) (lenOf pd__II_I rfl) rfl rfl rfl (fun T v h17 X q => ?_)
      obtain ⟨rfl, hE⟩ := q
      rw [hE] at X
      refine Run.cast (st' := [(.int (minF ra rb)), (.int (rankF aF aU aT (andF aF aU aT aU aU)))]) rfl ?_
      have hz : (rankF aF aU aT (andF aF aU aT aU aU)) = (minF ra rb) := by rw [p_ra, p_rb]; simp [andF, rankF, minF, nFU, nFT, nUT, nFU.symm, nFT.symm, nUT.symm]
      refine s_icmp_ne 52 48 C X at_45 (fun c => absurd hz c) (fun c45 => ?_)
      have t_c45 : ((rankF aF aU aT (andF aF aU aT aU aU))).toInt = ((minF ra rb)).toInt := congrArg Int32.toInt c45
      refine s_iconst 49 C X at_48 kc_iconst_1 ?_
      refine s_goto 53 C X at_49 ?_
      refine s_nreturn C X at_53 rfl (by simp) rfl ?_
      rfl
    · rw [hE] at X
      have p_rb := own_three r_rb p_rb p2_rb
      refine Run.cast (st' := [(.ref aT)]) rfl ?_
      refine s_astore 26 C X (l' := #[.val (.int x0), .val (.int x1), .val (.int ra), .val (.int rb), .val (.ref aU), .val (.ref aT), .unset]) at_24 rfl rfl ?_
      refine s_aload 28 C X at_26 rfl rfl ?_
      refine s_aload 30 C X at_28 rfl rfl ?_
      refine s_callV 33 [(.ref aT)] [] 0 C X at_30 (List.mem_of_getElem? (i := 8) rfl) (List.mem_of_getElem? (i := 9) rfl) (notFace_of_selects (args := #[]) (mvT C.2.1 (C.w (List.mem_of_getElem? (i := 11) rfl)))) (List.mem_of_getElem? (i := 11) rfl) (List.mem_of_getElem? (i := 10) rfl) (List.mem_of_getElem? (i := 6) rfl) (List.mem_of_getElem? (i := 12) rfl) E_UNKNOWN (rm_and l Z a0 hw aU aT aF aU aT _ n0 X.sz S_FALSE S_UNKNOWN S_TRUE) (lenOf pd__Lcom_example_medis_medis_engine_Truth__Lcom_example_medis_medis_engine_Truth_ rfl) rfl rfl rfl (fun T v h18 X q => ?_)
      obtain ⟨rfl, hE⟩ := q
      rw [hE] at X
      refine Run.cast (st' := [(.ref (andF aF aU aT aU aT))]) rfl ?_
      refine s_astore 35 C X (l' := #[.val (.int x0), .val (.int x1), .val (.int ra), .val (.int rb), .val (.ref aU), .val (.ref aT), .val (.ref (andF aF aU aT aU aT))]) at_33 rfl rfl ?_
      refine s_aload 37 C X at_35 rfl rfl ?_
      refine s_callS 40 [(.ref (andF aF aU aT aU aT))] [] 0 C X at_37 (List.mem_of_getElem? (i := 14) rfl) (List.mem_of_getElem? (i := 15) rfl) (List.mem_of_getElem? (i := 3) rfl) (List.mem_of_getElem? (i := 16) rfl) (rm_rank l Z a0 hw (andF aF aU aT aU aT) aF aU aT _ n0 X.sz S_FALSE S_UNKNOWN S_TRUE) (lenOf pd__Lcom_example_medis_medis_engine_Truth__I rfl) rfl rfl rfl (fun T v h19 X q => ?_)
      obtain ⟨rfl, hE⟩ := q
      rw [hE] at X
      refine Run.cast (st' := [(.int (rankF aF aU aT (andF aF aU aT aU aT)))]) rfl ?_
      refine s_iloadN 41 C X at_40 rfl ?_
      refine s_iloadN 42 C X at_41 rfl ?_
      refine s_callS 45 [(.int ra), (.int rb)] [(.int (rankF aF aU aT (andF aF aU aT aU aT)))] 1 C X at_42 (List.mem_of_getElem? (i := 17) rfl) (List.mem_of_getElem? (i := 18) rfl) (List.mem_of_getElem? (i := 19) rfl) (List.mem_of_getElem? (i := 20) rfl) (rm_min l Z a0 hw ra rb _ n0 X.sz) (lenOf pd__II_I rfl) rfl rfl rfl (fun T v h20 X q => ?_)
      obtain ⟨rfl, hE⟩ := q
      rw [hE] at X
      refine Run.cast (st' := [(.int (minF ra rb)), (.int (rankF aF aU aT (andF aF aU aT aU aT)))]) rfl ?_
      have hz : (rankF aF aU aT (andF aF aU aT aU aT)) = (minF ra rb) := by rw [p_ra, p_rb]; simp [andF, rankF, minF, nFU, nFT, nUT, nFU.symm, nFT.symm, nUT.symm]
      refine s_icmp_ne 52 48 C X at_45 (fun c => absurd hz c) (fun c45 => ?_)
      have t_c45 : ((rankF aF aU aT (andF aF aU aT aU aT))).toInt = ((minF ra rb)).toInt := congrArg Int32.toInt c45
      refine s_iconst 49 C X at_48 kc_iconst_1 ?_
      refine s_goto 53 C X at_49 ?_
      refine s_nreturn C X at_53 rfl (by simp) rfl ?_
      rfl
  · rw [hE] at X
    have p_ra := own_three r_ra p_ra p2_ra
    refine Run.cast (st' := [(.ref aT)]) rfl ?_
    refine s_astore 20 C X (l' := #[.val (.int x0), .val (.int x1), .val (.int ra), .val (.int rb), .val (.ref aT), .unset, .unset]) at_18 rfl rfl ?_
    refine s_iloadN 21 C X at_20 rfl ?_
    refine s_callS 24 [(.int rb)] [] 0 C X at_21 (List.mem_of_getElem? (i := 1) rfl) (List.mem_of_getElem? (i := 2) rfl) (List.mem_of_getElem? (i := 3) rfl) (List.mem_of_getElem? (i := 4) rfl) (rm_pick l Z a0 hw rb aF aU aT _ n0 X.sz S_FALSE S_UNKNOWN S_TRUE) (lenOf pd__I_Lcom_example_medis_medis_engine_Truth_ rfl) rfl rfl rfl (fun T v h21 X q => ?_)
    obtain ⟨⟨p_rb, rfl⟩ | ⟨p_rb, rfl⟩ | ⟨p_rb, p2_rb, rfl⟩, hE⟩ := q
    · rw [hE] at X
      refine Run.cast (st' := [(.ref aF)]) rfl ?_
      refine s_astore 26 C X (l' := #[.val (.int x0), .val (.int x1), .val (.int ra), .val (.int rb), .val (.ref aT), .val (.ref aF), .unset]) at_24 rfl rfl ?_
      refine s_aload 28 C X at_26 rfl rfl ?_
      refine s_aload 30 C X at_28 rfl rfl ?_
      refine s_callV 33 [(.ref aF)] [] 0 C X at_30 (List.mem_of_getElem? (i := 8) rfl) (List.mem_of_getElem? (i := 9) rfl) (notFace_of_selects (args := #[]) (mvT C.2.1 (C.w (List.mem_of_getElem? (i := 11) rfl)))) (List.mem_of_getElem? (i := 11) rfl) (List.mem_of_getElem? (i := 10) rfl) (List.mem_of_getElem? (i := 6) rfl) (List.mem_of_getElem? (i := 12) rfl) E_TRUE (rm_and l Z a0 hw aT aF aF aU aT _ n0 X.sz S_FALSE S_UNKNOWN S_TRUE) (lenOf pd__Lcom_example_medis_medis_engine_Truth__Lcom_example_medis_medis_engine_Truth_ rfl) rfl rfl rfl (fun T v h22 X q => ?_)
      obtain ⟨rfl, hE⟩ := q
      rw [hE] at X
      refine Run.cast (st' := [(.ref (andF aF aU aT aT aF))]) rfl ?_
      refine s_astore 35 C X (l' := #[.val (.int x0), .val (.int x1), .val (.int ra), .val (.int rb), .val (.ref aT), .val (.ref aF), .val (.ref (andF aF aU aT aT aF))]) at_33 rfl rfl ?_
      refine s_aload 37 C X at_35 rfl rfl ?_
      refine s_callS 40 [(.ref (andF aF aU aT aT aF))] [] 0 C X at_37 (List.mem_of_getElem? (i := 14) rfl) (List.mem_of_getElem? (i := 15) rfl) (List.mem_of_getElem? (i := 3) rfl) (List.mem_of_getElem? (i := 16) rfl) (rm_rank l Z a0 hw (andF aF aU aT aT aF) aF aU aT _ n0 X.sz S_FALSE S_UNKNOWN S_TRUE) (lenOf pd__Lcom_example_medis_medis_engine_Truth__I rfl) rfl rfl rfl (fun T v h23 X q => ?_)
      obtain ⟨rfl, hE⟩ := q
      rw [hE] at X
      refine Run.cast (st' := [(.int (rankF aF aU aT (andF aF aU aT aT aF)))]) rfl ?_
      refine s_iloadN 41 C X at_40 rfl ?_
      refine s_iloadN 42 C X at_41 rfl ?_
      refine s_callS 45 [(.int ra), (.int rb)] [(.int (rankF aF aU aT (andF aF aU aT aT aF)))] 1 C X at_42 (List.mem_of_getElem? (i := 17) rfl) (List.mem_of_getElem? (i := 18) rfl) (List.mem_of_getElem? (i := 19) rfl) (List.mem_of_getElem? (i := 20) rfl) (rm_min l Z a0 hw ra rb _ n0 X.sz) (lenOf pd__II_I rfl) rfl rfl rfl (fun T v h24 X q => ?_)
      obtain ⟨rfl, hE⟩ := q
      rw [hE] at X
      refine Run.cast (st' := [(.int (minF ra rb)), (.int (rankF aF aU aT (andF aF aU aT aT aF)))]) rfl ?_
      have hz : (rankF aF aU aT (andF aF aU aT aT aF)) = (minF ra rb) := by rw [p_ra, p_rb]; simp [andF, rankF, minF, nFU, nFT, nUT, nFU.symm, nFT.symm, nUT.symm]
      refine s_icmp_ne 52 48 C X at_45 (fun c => absurd hz c) (fun c45 => ?_)
      have t_c45 : ((rankF aF aU aT (andF aF aU aT aT aF))).toInt = ((minF ra rb)).toInt := congrArg Int32.toInt c45
      refine s_iconst 49 C X at_48 kc_iconst_1 ?_
      refine s_goto 53 C X at_49 ?_
      refine s_nreturn C X at_53 rfl (by simp) rfl ?_
      rfl
    · rw [hE] at X
      refine Run.cast (st' := [(.ref aU)]) rfl ?_
      refine s_astore 26 C X (l' := #[.val (.int x0), .val (.int x1), .val (.int ra), .val (.int rb), .val (.ref aT), .val (.ref aU), .unset]) at_24 rfl rfl ?_
      refine s_aload 28 C X at_26 rfl rfl ?_
      refine s_aload 30 C X at_28 rfl rfl ?_
      refine s_callV 33 [(.ref aU)] [] 0 C X at_30 (List.mem_of_getElem? (i := 8) rfl) (List.mem_of_getElem? (i := 9) rfl) (notFace_of_selects (args := #[]) (mvT C.2.1 (C.w (List.mem_of_getElem? (i := 11) rfl)))) (List.mem_of_getElem? (i := 11) rfl) (List.mem_of_getElem? (i := 10) rfl) (List.mem_of_getElem? (i := 6) rfl) (List.mem_of_getElem? (i := 12) rfl) E_TRUE (rm_and l Z a0 hw aT aU aF aU aT _ n0 X.sz S_FALSE S_UNKNOWN S_TRUE) (lenOf pd__Lcom_example_medis_medis_engine_Truth__Lcom_example_medis_medis_engine_Truth_ rfl) rfl rfl rfl (fun T v h25 X q => ?_)
      obtain ⟨rfl, hE⟩ := q
      rw [hE] at X
      refine Run.cast (st' := [(.ref (andF aF aU aT aT aU))]) rfl ?_
      refine s_astore 35 C X (l' := #[.val (.int x0), .val (.int x1), .val (.int ra), .val (.int rb), .val (.ref aT), .val (.ref aU), .val (.ref (andF aF aU aT aT aU))]) at_33 rfl rfl ?_
      refine s_aload 37 C X at_35 rfl rfl ?_
      refine s_callS 40 [(.ref (andF aF aU aT aT aU))] [] 0 C X at_37 (List.mem_of_getElem? (i := 14) rfl) (List.mem_of_getElem? (i := 15) rfl) (List.mem_of_getElem? (i := 3) rfl) (List.mem_of_getElem? (i := 16) rfl) (rm_rank l Z a0 hw (andF aF aU aT aT aU) aF aU aT _ n0 X.sz S_FALSE S_UNKNOWN S_TRUE) (lenOf pd__Lcom_example_medis_medis_engine_Truth__I rfl) rfl rfl rfl (fun T v h26 X q => ?_)
      obtain ⟨rfl, hE⟩ := q
      rw [hE] at X
      refine Run.cast (st' := [(.int (rankF aF aU aT (andF aF aU aT aT aU)))]) rfl ?_
      refine s_iloadN 41 C X at_40 rfl ?_
      refine s_iloadN 42 C X at_41 rfl ?_
      refine s_callS 45 [(.int ra), (.int rb)] [(.int (rankF aF aU aT (andF aF aU aT aT aU)))] 1 C X at_42 (List.mem_of_getElem? (i := 17) rfl) (List.mem_of_getElem? (i := 18) rfl) (List.mem_of_getElem? (i := 19) rfl) (List.mem_of_getElem? (i := 20) rfl) (rm_min l Z a0 hw ra rb _ n0 X.sz) (lenOf pd__II_I rfl) rfl rfl rfl (fun T v h27 X q => ?_)
      obtain ⟨rfl, hE⟩ := q
      rw [hE] at X
      refine Run.cast (st' := [(.int (minF ra rb)), (.int (rankF aF aU aT (andF aF aU aT aT aU)))]) rfl ?_
      have hz : (rankF aF aU aT (andF aF aU aT aT aU)) = (minF ra rb) := by rw [p_ra, p_rb]; simp [andF, rankF, minF, nFU, nFT, nUT, nFU.symm, nFT.symm, nUT.symm]
      refine s_icmp_ne 52 48 C X at_45 (fun c => absurd hz c) (fun c45 => ?_)
      have t_c45 : ((rankF aF aU aT (andF aF aU aT aT aU))).toInt = ((minF ra rb)).toInt := congrArg Int32.toInt c45
      refine s_iconst 49 C X at_48 kc_iconst_1 ?_
      refine s_goto 53 C X at_49 ?_
      refine s_nreturn C X at_53 rfl (by simp) rfl ?_
      rfl
    · rw [hE] at X
      have p_rb := own_three r_rb p_rb p2_rb
      refine Run.cast (st' := [(.ref aT)]) rfl ?_
      refine s_astore 26 C X (l' := #[.val (.int x0), .val (.int x1), .val (.int ra), .val (.int rb), .val (.ref aT), .val (.ref aT), .unset]) at_24 rfl rfl ?_
      refine s_aload 28 C X at_26 rfl rfl ?_
      refine s_aload 30 C X at_28 rfl rfl ?_
      refine s_callV 33 [(.ref aT)] [] 0 C X at_30 (List.mem_of_getElem? (i := 8) rfl) (List.mem_of_getElem? (i := 9) rfl) (notFace_of_selects (args := #[]) (mvT C.2.1 (C.w (List.mem_of_getElem? (i := 11) rfl)))) (List.mem_of_getElem? (i := 11) rfl) (List.mem_of_getElem? (i := 10) rfl) (List.mem_of_getElem? (i := 6) rfl) (List.mem_of_getElem? (i := 12) rfl) E_TRUE (rm_and l Z a0 hw aT aT aF aU aT _ n0 X.sz S_FALSE S_UNKNOWN S_TRUE) (lenOf pd__Lcom_example_medis_medis_engine_Truth__Lcom_example_medis_medis_engine_Truth_ rfl) rfl rfl rfl (fun T v h28 X q => ?_)
      obtain ⟨rfl, hE⟩ := q
      rw [hE] at X
      refine Run.cast (st' := [(.ref (andF aF aU aT aT aT))]) rfl ?_
      refine s_astore 35 C X (l' := #[.val (.int x0), .val (.int x1), .val (.int ra), .val (.int rb), .val (.ref aT), .val (.ref aT), .val (.ref (andF aF aU aT aT aT))]) at_33 rfl rfl ?_
      refine s_aload 37 C X at_35 rfl rfl ?_
      refine s_callS 40 [(.ref (andF aF aU aT aT aT))] [] 0 C X at_37 (List.mem_of_getElem? (i := 14) rfl) (List.mem_of_getElem? (i := 15) rfl) (List.mem_of_getElem? (i := 3) rfl) (List.mem_of_getElem? (i := 16) rfl) (rm_rank l Z a0 hw (andF aF aU aT aT aT) aF aU aT _ n0 X.sz S_FALSE S_UNKNOWN S_TRUE) (lenOf pd__Lcom_example_medis_medis_engine_Truth__I rfl) rfl rfl rfl (fun T v h29 X q => ?_)
      obtain ⟨rfl, hE⟩ := q
      rw [hE] at X
      refine Run.cast (st' := [(.int (rankF aF aU aT (andF aF aU aT aT aT)))]) rfl ?_
      refine s_iloadN 41 C X at_40 rfl ?_
      refine s_iloadN 42 C X at_41 rfl ?_
      refine s_callS 45 [(.int ra), (.int rb)] [(.int (rankF aF aU aT (andF aF aU aT aT aT)))] 1 C X at_42 (List.mem_of_getElem? (i := 17) rfl) (List.mem_of_getElem? (i := 18) rfl) (List.mem_of_getElem? (i := 19) rfl) (List.mem_of_getElem? (i := 20) rfl) (rm_min l Z a0 hw ra rb _ n0 X.sz) (lenOf pd__II_I rfl) rfl rfl rfl (fun T v h30 X q => ?_)
      obtain ⟨rfl, hE⟩ := q
      rw [hE] at X
      refine Run.cast (st' := [(.int (minF ra rb)), (.int (rankF aF aU aT (andF aF aU aT aT aT)))]) rfl ?_
      have hz : (rankF aF aU aT (andF aF aU aT aT aT)) = (minF ra rb) := by rw [p_ra, p_rb]; simp [andF, rankF, minF, nFU, nFT, nUT, nFU.symm, nFT.symm, nUT.symm]
      refine s_icmp_ne 52 48 C X at_45 (fun c => absurd hz c) (fun c45 => ?_)
      have t_c45 : ((rankF aF aU aT (andF aF aU aT aT aT))).toInt = ((minF ra rb)).toInt := congrArg Int32.toInt c45
      refine s_iconst 49 C X at_48 kc_iconst_1 ?_
      refine s_goto 53 C X at_49 ?_
      refine s_nreturn C X at_53 rfl (by simp) rfl ?_
      rfl
set_option maxRecDepth 65536 in
set_option maxHeartbeats 40000000 in
theorem comes_1 {Post : Tables → Env → Array Value → State → Outcome → State → Prop} (hpost : ∀ tb e args s v u, (limb_1_1.after args s (.returned v) u = true ∧ limb_1_2.after args s (.returned v) u = true ∧ True) → FrameEnd s (.returned v) u (Jvm.fieldLocs frame_1_writes args s ++ Jvm.arrayLocs frame_1_arrays args s ++ Jvm.staticLocs frame_1_statics s) 0 0 → Post tb e args s (.returned v) u) :
    ArmFor flags0 classFile x code maxLocals ret World_1 tables_1 room_1 Calls_1 rest_1 Pre_1 Post := by
  intro l hfl _ _ p e ha hc hk s m args below hf hA hF happ hP
  obtain ⟨hcalls, hrest, hpre⟩ := hP
  obtain ⟨-, -, -, hnamed, -, -, -, hat⟩ := (Spec.applies_iff hf).mp happ
  obtain ⟨hg, hn⟩ := and_e (Cond.before_iff.mp (show (Jvm.Cond.and given_1 narrow_1).before args s = true from hpre))
  obtain ⟨g0, g1⟩ := and_e hg
  obtain ⟨ga0, gr0⟩ := and_e g1
  obtain ⟨w0, w1, rfl⟩ : ∃ w0 w1 : Value, args = #[w0, w1] := by
    have hs : args.size = 2 := by simpa [Cond.value, given_1] using g0
    obtain ⟨L⟩ := args
    match L, hs with
    | [w0, w1], _ => exact ⟨w0, w1, rfl⟩
  have hw := fun d (hd : d ∈ tables_1) => atoms_spec (ws := Jvm.Cond.code x code maxLocals ret :: tables_1) hat d (List.mem_cons_of_mem _ hd)
  have hfit : Fit s := fun {y c} hc i hi => by
    obtain ⟨ha, rfl⟩ := Array.getElem?_eq_some_iff.mp hc
    have q := List.all_eq_true.mp ((Array.all_eq_true_iff_forall_mem.mp hF) _ (Array.getElem_mem ha)) i (List.mem_range.mpr hi)
    simpa [Array.getElem?_eq_getElem hi] using q
  obtain ⟨i0, e0⟩ := is_v ga0
  obtain rfl : w0 = (.int i0) := Option.some.inj e0
  obtain ⟨i1, e1⟩ := is_v gr0
  obtain rfl : w1 = (.int i1) := Option.some.inj e1
  obtain ⟨n1, hn⟩ := and_e hn
  obtain ⟨n2, hn⟩ := and_e hn
  obtain ⟨n3, hn⟩ := and_e hn
  obtain ⟨n4, hn⟩ := and_e hn
  obtain ⟨n5, n6⟩ := and_e hn
  obtain ⟨aF, eF⟩ := exa_v n1
  obtain ⟨aT, eT⟩ := exa_v n2
  obtain ⟨aU, eU⟩ := exa_v n3
  have SF := Sta.start eF (Or.inr ⟨(hw _ (List.mem_of_getElem? (i := 6) rfl)), (hw _ (List.mem_of_getElem? (i := 7) rfl))⟩)
  have ST := Sta.start eT (Or.inr ⟨(hw _ (List.mem_of_getElem? (i := 6) rfl)), (hw _ (List.mem_of_getElem? (i := 22) rfl))⟩)
  have SU := Sta.start eU (Or.inr ⟨(hw _ (List.mem_of_getElem? (i := 6) rfl)), (hw _ (List.mem_of_getElem? (i := 24) rfl))⟩)
  have OT := Fld.start ((fld_at eT).symm.trans (own_eqI n4))
  have OF := Fld.start ((fld_at eF).symm.trans (own_eqI n5))
  have OU := Fld.start ((fld_at eU).symm.trans (own_eqI n6))
  have nFU : aF ≠ aU := OF.ne OU (by simp)
  have nFT : aF ≠ aT := OF.ne OT (by simp)
  have nUT : aU ≠ aT := OU.ne OT (by simp)
  obtain ⟨n, o, h1, h2, h3, _, L, rfl, ⟨rfl, N⟩, hq⟩ := rm0 l s _ hw i0 i1 aF aU aT s.heap s.heap.size (Nat.le_refl _) SF SU ST (Exa.start eF n1) (Exa.start eU n3) (Exa.start eT n2) nFU nFT nUT p e ha hc hk s m _ below hf ((Spec.applies_iff_loose hf).mp happ).1 ⟨rfl, State.Warmed39.refl s, rfl⟩ trivial
  exact ⟨n, _, h1, h2, h3, hpost _ _ _ _ _ _ ⟨Cond.after_iff.mpr rfl, Cond.after_iff.mpr (eq_i res_at (Term.int_eval (1)) rfl), trivial⟩ ⟨hq.1, hq.2.1, (hq.2.2.sift fun y hy => Or.inr (N y hy)).mono (by decide) (by decide)⟩⟩
theorem main_1_1 : Claimed_1_1 := comes_1 fun _ _ _ _ _ _ h hF => ⟨h.1, hF⟩
theorem main_1_2 : Claimed_1_2 := comes_1 fun _ _ _ _ _ _ h hF => ⟨h.2.1, hF⟩
end Jvm.Pilot.@@N@@
namespace Jvm.Pilot.@@N@@
open Jvm Jvm.ClassFile Sem Op Lib Jvm.Free Jvm.Stand Jvm.Pilot.@@N@@.Jvm.D
/-! MADE BY PROGRAM (witnessworld.py) out of the Statement's table words and the real class files: 13 classes; the members and pool entries that the words name. The judged class is class 1, her method 3. -/
namespace start1
open Jvm.ClassFile
def u (s : String) : CpInfo := .utf8 (stringToUtf16 s)
/-- a pool by its gaps: so many unusable entries, then the entry; so many at the end -/
def gap : Nat → List CpInfo → List CpInfo
  | 0, r => r
  | n + 1, r => .unusable :: gap n r
def poolList (es : List (Nat × CpInfo)) (last : Nat) : List CpInfo := es.foldr (fun e r => gap e.1 (e.2 :: r)) (gap last [])
def pool (es : List (Nat × CpInfo)) (last : Nat) : Array CpInfo := ⟨poolList es last⟩
def fileOf (pool : Array CpInfo) (this : Nat) (attrs : Array Attribute := #[]) (ms : Array MethodInfo := #[]) (fl : Nat := 33) (sup : Nat := 0) (ifs : Array Nat := #[]) (fds : Array FieldInfo := #[]) : ClassFile where
  minorVersion := 0
  majorVersion := 65
  constantPool := pool
  accessFlags := fl
  thisClass := this
  superClass := sup
  interfaces := ifs
  fields := fds
  methods := ms
  attributes := attrs
def plain (name : String) (sup : Option ClassId) : Class where
  name := name
  kind := .ordinary
  loader := none
  accessFlags := 33
  super := sup
  interfaces := #[]
  cf := none
  fields := #[]
  methods := #[]
  instanceTypes := #[]
  staticTypes := #[]
  resolved := #[]
  callSites := []
  init := .initialized
  statics := none
  mirror := none

def pool0 : Array CpInfo := pool [(5, u "<init>"), (0, u "()V"), (1, .class_ 10), (1, u "java/lang/Object")] 113

def k0m0 : Method := { name := "<init>", desc := "()V", sig := { parameters := [], returnType := none }, accessFlags := 1, code := none }
/-- java/lang/Object -/
def k0 : Class := { plain "java/lang/Object" none with
  accessFlags := 33
  interfaces := #[]
  cf := some (fileOf pool0 8 #[] #[{ accessFlags := 1, nameIndex := 5, descriptorIndex := 6, attributes := #[] }] 33 0 #[] #[])
  fields := #[]
  methods := #[k0m0]
  instanceTypes := #[]
  staticTypes := #[]
  resolved := Array.replicate 124 none
  statics := none }

def pool1 : Array CpInfo := pool [(2, .class_ 4), (1, u "java/lang/Object"), (0, u "<init>"), (0, u "()V"), (0, .fieldref 8 9), (0, .class_ 10), (0, .nameAndType 11 12), (0, u "com/example/medis/medis/engine/Truth"), (0, u "FALSE"), (0, u "Lcom/example/medis/medis/engine/Truth;"), (0, .fieldref 8 14), (0, .nameAndType 15 12), (0, u "UNKNOWN"), (0, .fieldref 8 17), (0, .nameAndType 18 12), (0, u "TRUE"), (0, .integer 2147483647), (0, .methodref 21 22), (0, .class_ 23), (0, .nameAndType 24 25), (0, u "com/example/medis/medis/engine/TruthAndPinLaw"), (0, u "pick"), (0, u "(I)Lcom/example/medis/medis/engine/Truth;"), (0, .methodref 8 27), (0, .nameAndType 28 29), (0, u "and"), (0, u "(Lcom/example/medis/medis/engine/Truth;)Lcom/example/medis/medis/engine/Truth;"), (0, .methodref 21 31), (0, .nameAndType 32 33), (0, u "rank"), (0, u "(Lcom/example/medis/medis/engine/Truth;)I"), (0, .methodref 35 36), (0, .class_ 37), (0, .nameAndType 38 39), (0, u "java/lang/Math"), (0, u "min"), (0, u "(II)I"), (3, u "law"), (0, u "(II)Z")] 2

def k1m0 : Method := { name := "<init>", desc := "()V", sig := { parameters := [], returnType := none }, accessFlags := 2, code := none }
def k1c1 : Code := { maxStack := 2, maxLocals := 1, code := method_2_code, exceptionTable := #[], attributes := #[] }
def k1m1 : Method := { name := "pick", desc := "(I)Lcom/example/medis/medis/engine/Truth;", sig := { parameters := [.int], returnType := some (.object "com/example/medis/medis/engine/Truth") }, accessFlags := 10, code := some k1c1 }
def k1c2 : Code := { maxStack := 2, maxLocals := 1, code := method_3_code, exceptionTable := #[], attributes := #[] }
def k1m2 : Method := { name := "rank", desc := "(Lcom/example/medis/medis/engine/Truth;)I", sig := { parameters := [(.object "com/example/medis/medis/engine/Truth")], returnType := some .int }, accessFlags := 10, code := some k1c2 }
def k1c3 : Code := { maxStack := 3, maxLocals := 7, code := code, exceptionTable := #[], attributes := #[] }
def k1m3 : Method := { name := "law", desc := "(II)Z", sig := { parameters := [.int, .int], returnType := some .boolean }, accessFlags := 9, code := some k1c3 }
/-- com/example/medis/medis/engine/TruthAndPinLaw -/
def k1 : Class := { plain "com/example/medis/medis/engine/TruthAndPinLaw" (some 0) with
  accessFlags := 49
  interfaces := #[]
  cf := some (fileOf pool1 21 #[] #[{ accessFlags := 2, nameIndex := 5, descriptorIndex := 6, attributes := #[] }, { accessFlags := 10, nameIndex := 24, descriptorIndex := 25, attributes := #[] }, { accessFlags := 10, nameIndex := 32, descriptorIndex := 33, attributes := #[] }, { accessFlags := 9, nameIndex := 43, descriptorIndex := 44, attributes := #[] }] 49 2 #[] #[])
  fields := #[]
  methods := #[k1m0, k1m1, k1m2, k1m3]
  instanceTypes := #[]
  staticTypes := #[]
  resolved := Array.replicate 47 none
  statics := none }

def pool2 : Array CpInfo := pool [(1, .class_ 2), (0, u "java/lang/constant/Constable"), (0, .class_ 4), (0, u "java/lang/Object")] 6

/-- java/lang/constant/Constable -/
def k2 : Class := { plain "java/lang/constant/Constable" (some 0) with
  accessFlags := 1537
  interfaces := #[]
  cf := some (fileOf pool2 1 #[] #[] 1537 3 #[] #[])
  fields := #[]
  methods := #[]
  instanceTypes := #[]
  staticTypes := #[]
  resolved := Array.replicate 11 none
  statics := none }

def pool3 : Array CpInfo := pool [(1, .class_ 2), (0, u "java/lang/Comparable"), (0, .class_ 4), (0, u "java/lang/Object")] 7

/-- java/lang/Comparable -/
def k3 : Class := { plain "java/lang/Comparable" (some 0) with
  accessFlags := 1537
  interfaces := #[]
  cf := some (fileOf pool3 1 #[] #[] 1537 3 #[] #[])
  fields := #[]
  methods := #[]
  instanceTypes := #[]
  staticTypes := #[]
  resolved := Array.replicate 12 none
  statics := none }

def pool4 : Array CpInfo := pool [(1, .class_ 2), (0, u "java/io/Serializable"), (0, .class_ 4), (0, u "java/lang/Object")] 2

/-- java/io/Serializable -/
def k4 : Class := { plain "java/io/Serializable" (some 0) with
  accessFlags := 1537
  interfaces := #[]
  cf := some (fileOf pool4 1 #[] #[] 1537 3 #[] #[])
  fields := #[]
  methods := #[]
  instanceTypes := #[]
  staticTypes := #[]
  resolved := Array.replicate 7 none
  statics := none }

def pool5 : Array CpInfo := pool [(2, .class_ 4), (1, u "java/lang/Enum"), (0, u "name"), (0, u "Ljava/lang/String;"), (2, u "ordinal"), (0, u "I"), (1, .class_ 14), (1, u "java/lang/Object"), (4, u "hash"), (86, .class_ 108), (1, u "java/lang/Enum$EnumDesc"), (2, .class_ 112), (0, u "java/lang/constant/Constable"), (0, .class_ 114), (0, u "java/lang/Comparable"), (0, .class_ 116), (0, u "java/io/Serializable")] 87

/-- java/lang/Enum -/
def k5 : Class := { plain "java/lang/Enum" (some 0) with
  accessFlags := 1057
  interfaces := #[2, 3, 4]
  cf := some (fileOf pool5 2 #[.nestMembers #[106]] #[] 1057 12 #[111, 113, 115] #[{ accessFlags := 18, nameIndex := 5, descriptorIndex := 6, attributes := #[] }, { accessFlags := 18, nameIndex := 9, descriptorIndex := 10, attributes := #[] }, { accessFlags := 2, nameIndex := 19, descriptorIndex := 10, attributes := #[] }])
  fields := #[{ name := "name", type := (.object "java/lang/String"), accessFlags := 18, slot := 0, constantValue := 0 }, { name := "ordinal", type := .int, accessFlags := 18, slot := 1, constantValue := 0 }, { name := "hash", type := .int, accessFlags := 2, slot := 2, constantValue := 0 }]
  methods := #[]
  instanceTypes := #[(.object "java/lang/String"), .int, .int]
  staticTypes := #[]
  resolved := Array.replicate 204 none
  statics := none }

def pool6 : Array CpInfo := pool [(1, .class_ 2), (0, u "com/example/medis/medis/engine/Truth"), (0, .fieldref 1 4), (0, .nameAndType 5 6), (0, u "TRUE"), (0, u "Lcom/example/medis/medis/engine/Truth;"), (0, .fieldref 1 8), (0, .nameAndType 9 6), (0, u "FALSE"), (0, .fieldref 1 11), (0, .nameAndType 12 6), (0, u "UNKNOWN"), (2, u "$VALUES"), (0, u "[Lcom/example/medis/medis/engine/Truth;"), (6, .class_ 25), (1, u "java/lang/Enum"), (12, u "and"), (0, u "(Lcom/example/medis/medis/engine/Truth;)Lcom/example/medis/medis/engine/Truth;")] 23

def k6c0 : Code := { maxStack := 2, maxLocals := 3, code := prog_91_method_5_code, exceptionTable := #[], attributes := #[] }
def k6m0 : Method := { name := "and", desc := "(Lcom/example/medis/medis/engine/Truth;)Lcom/example/medis/medis/engine/Truth;", sig := { parameters := [(.object "com/example/medis/medis/engine/Truth")], returnType := some (.object "com/example/medis/medis/engine/Truth") }, accessFlags := 0, code := some k6c0 }
/-- com/example/medis/medis/engine/Truth -/
def k6 : Class := { plain "com/example/medis/medis/engine/Truth" (some 5) with
  accessFlags := 16432
  interfaces := #[]
  cf := some (fileOf pool6 1 #[] #[{ accessFlags := 0, nameIndex := 38, descriptorIndex := 39, attributes := #[] }] 16432 23 #[] #[{ accessFlags := 16409, nameIndex := 5, descriptorIndex := 6, attributes := #[] }, { accessFlags := 16409, nameIndex := 9, descriptorIndex := 6, attributes := #[] }, { accessFlags := 16409, nameIndex := 12, descriptorIndex := 6, attributes := #[] }, { accessFlags := 4122, nameIndex := 15, descriptorIndex := 16, attributes := #[] }])
  fields := #[{ name := "TRUE", type := (.object "com/example/medis/medis/engine/Truth"), accessFlags := 16409, slot := 0, constantValue := 0 }, { name := "FALSE", type := (.object "com/example/medis/medis/engine/Truth"), accessFlags := 16409, slot := 1, constantValue := 0 }, { name := "UNKNOWN", type := (.object "com/example/medis/medis/engine/Truth"), accessFlags := 16409, slot := 2, constantValue := 0 }, { name := "$VALUES", type := (.array (.object "com/example/medis/medis/engine/Truth")), accessFlags := 4122, slot := 3, constantValue := 0 }]
  methods := #[k6m0]
  instanceTypes := #[(.object "java/lang/String"), .int, .int]
  staticTypes := #[(.object "com/example/medis/medis/engine/Truth"), (.object "com/example/medis/medis/engine/Truth"), (.object "com/example/medis/medis/engine/Truth"), (.array (.object "com/example/medis/medis/engine/Truth"))]
  resolved := Array.replicate 63 none
  statics := some 0 }

def pool7 : Array CpInfo := pool [(1, .class_ 2), (0, u "java/lang/Math"), (1, .class_ 6), (1, u "java/lang/Object"), (0, u "<init>"), (0, u "()V"), (89, .class_ 100), (1, u "java/lang/Math$RandomNumberGeneratorHolder"), (71, u "negativeZeroFloatBits"), (0, u "J"), (2, u "negativeZeroDoubleBits"), (24, u "min"), (43, u "$assertionsDisabled"), (0, u "Z"), (88, u "(II)I"), (2, u "twoToTheDoubleScaleDown"), (0, u "D"), (4, u "twoToTheDoubleScaleUp"), (9, u "E"), (3, u "PI"), (2, u "TAU"), (2, u "DEGREES_TO_RADIANS"), (0, u "RADIANS_TO_DEGREES")] 94

def k7m0 : Method := { name := "<init>", desc := "()V", sig := { parameters := [], returnType := none }, accessFlags := 2, code := none }
def k7c1 : Code := { maxStack := 2, maxLocals := 2, code := jdk_29_method_69_code, exceptionTable := #[], attributes := #[] }
def k7m1 : Method := { name := "min", desc := "(II)I", sig := { parameters := [.int, .int], returnType := some .int }, accessFlags := 9, code := some k7c1 }
/-- java/lang/Math -/
def k7 : Class := { plain "java/lang/Math" (some 0) with
  accessFlags := 49
  interfaces := #[]
  cf := some (fileOf pool7 1 #[.nestMembers #[98]] #[{ accessFlags := 2, nameIndex := 7, descriptorIndex := 8, attributes := #[] }, { accessFlags := 9, nameIndex := 201, descriptorIndex := 335, attributes := #[] }] 49 4 #[] #[{ accessFlags := 25, nameIndex := 354, descriptorIndex := 339, attributes := #[] }, { accessFlags := 25, nameIndex := 358, descriptorIndex := 339, attributes := #[] }, { accessFlags := 25, nameIndex := 361, descriptorIndex := 339, attributes := #[] }, { accessFlags := 26, nameIndex := 364, descriptorIndex := 339, attributes := #[] }, { accessFlags := 26, nameIndex := 365, descriptorIndex := 339, attributes := #[] }, { accessFlags := 26, nameIndex := 172, descriptorIndex := 173, attributes := #[] }, { accessFlags := 26, nameIndex := 176, descriptorIndex := 173, attributes := #[] }, { accessFlags := 8, nameIndex := 344, descriptorIndex := 339, attributes := #[] }, { accessFlags := 8, nameIndex := 338, descriptorIndex := 339, attributes := #[] }, { accessFlags := 4120, nameIndex := 245, descriptorIndex := 246, attributes := #[] }])
  fields := #[{ name := "E", type := .double, accessFlags := 25, slot := 0, constantValue := 0 }, { name := "PI", type := .double, accessFlags := 25, slot := 1, constantValue := 0 }, { name := "TAU", type := .double, accessFlags := 25, slot := 2, constantValue := 0 }, { name := "DEGREES_TO_RADIANS", type := .double, accessFlags := 26, slot := 3, constantValue := 0 }, { name := "RADIANS_TO_DEGREES", type := .double, accessFlags := 26, slot := 4, constantValue := 0 }, { name := "negativeZeroFloatBits", type := .long, accessFlags := 26, slot := 5, constantValue := 0 }, { name := "negativeZeroDoubleBits", type := .long, accessFlags := 26, slot := 6, constantValue := 0 }, { name := "twoToTheDoubleScaleUp", type := .double, accessFlags := 8, slot := 7, constantValue := 0 }, { name := "twoToTheDoubleScaleDown", type := .double, accessFlags := 8, slot := 8, constantValue := 0 }, { name := "$assertionsDisabled", type := .boolean, accessFlags := 4120, slot := 9, constantValue := 0 }]
  methods := #[k7m0, k7m1]
  instanceTypes := #[]
  staticTypes := #[.double, .double, .double, .double, .double, .long, .long, .double, .double, .boolean]
  resolved := Array.replicate 460 none
  statics := none }

def pool8 : Array CpInfo := pool [(1, u "java/lang/Cloneable"), (0, .class_ 1), (0, u "java/lang/Object"), (0, .class_ 3)] 3

/-- java/lang/Cloneable -/
def k8 : Class := { plain "java/lang/Cloneable" (some 0) with
  accessFlags := 1537
  interfaces := #[]
  cf := some (fileOf pool8 2 #[] #[] 1537 4 #[] #[])
  fields := #[]
  methods := #[]
  instanceTypes := #[]
  staticTypes := #[]
  resolved := Array.replicate 8 none
  statics := none }

/-- the primitive byte -/
def k9 : Class := { plain "byte" none with kind := .primitive 'B', accessFlags := 0x411 }
/-- [B -/
def k10 : Class := { plain "[B" (some 0) with kind := .array 9 .byte, interfaces := #[8, 4], accessFlags := 1041 }

/-- the primitive int -/
def k11 : Class := { plain "int" none with kind := .primitive 'I', accessFlags := 0x411 }
/-- [I -/
def k12 : Class := { plain "[I" (some 0) with kind := .array 11 .int, interfaces := #[8, 4], accessFlags := 1041 }

def heap : Heap := #[{ cls := 6, slots := #[.ref 2, .ref 1, .ref 3, .null], vm := .statics 6 },
  { cls := 6, slots := #[.null, .int 1, .int 0], vm := .none },
  { cls := 6, slots := #[.null, .int 0, .int 0], vm := .none },
  { cls := 6, slots := #[.null, .int 2, .int 0], vm := .none }]
def classes : Array Class := #[k0, k1, k2, k3, k4, k5, k6, k7, k8, k9, k10, k11, k12]
def interned : List (Array UInt16 × Addr) := []
def slotsUsed : Nat := 13
def theMethod : MethodId := ⟨1, 3⟩
def args0 : Array Value := #[.int 5, .int 6]
def aboutOver (below : List Frame) : State where
  vm := { classes := classes, interned := interned.toArray }
  heap := heap
  slotsUsed := slotsUsed
  threads := #[{ frames := .invoking theMethod args0 :: below }]
def below0 : List Frame := [.native { method := ⟨0, 0⟩, args := #[] }]
def about1 : State := aboutOver below0
def p0 : Program := .bare "" "" ""
def e0 : Env := launch0.env 0 0 0
theorem w_frames : about1.frames = Frame.invoking theMethod args0 :: below0 := rfl
set_option maxRecDepth 65536 in
theorem w_args : argsFit about1.vm theMethod args0 = true := by decide +kernel
set_option maxRecDepth 65536 in
theorem w_heap : heapFits about1 = true := by decide +kernel
set_option maxRecDepth 65536 in
theorem w_runnable : about1.curStatus? = some .runnable := by decide +kernel
set_option maxRecDepth 65536 in
theorem w_alone : about1.alone = true := by decide +kernel
set_option maxRecDepth 65536 in
theorem w_named : about1.methodNamed? x = some theMethod := by decide +kernel
set_option maxRecDepth 65536 in
theorem w_hears : about1.hears theMethod below0 = true := by decide +kernel
set_option maxRecDepth 65536 in
theorem w_ripe : about1.ripe theMethod args0 below0 = true := by decide +kernel
theorem w_running : about1.status = .running := rfl
set_option maxRecDepth 65536 in
theorem w_room : about1.hasRoom e0.platform room_1 = true :=
  launch0.hasRoom_least _ room_1 (by decide +kernel) (by decide +kernel) (by decide +kernel) (by decide +kernel) (by decide +kernel) (by decide +kernel)
theorem allAtoms_all (ts : List Jvm.Cond) (a : Array Jvm.Value) (st : Jvm.State) : (allAtoms ts).before a st = ts.all (fun c => c.before a st) := by
  induction ts with
  | nil => rfl
  | cons c t ih =>
    show (Jvm.Cond.and c (allAtoms t)).before a st = _
    rw [Jvm.Cond.before_and, ih, List.all_cons]
def words1 : List Jvm.Cond := Jvm.Cond.code x code maxLocals ret :: tables_1
/-- a 'code' word, met by the world's own term for the bytes: nothing is compared byte by byte -/
theorem code_word {y : MethodName} {bytes : ByteArray} {mx : Nat} {rt : Option FieldType} {a : Array Value} {s : State} {m : MethodId} {meth : Method} {c : Code} (h1 : s.methodNamed? y = some m) (h2 : s.vm.method? m = some meth) (h3 : meth.code = some c) (h4 : c.code = bytes)
    (h5 : (c.maxLocals == mx && c.exceptionTable.isEmpty && decide (c.maxStack ≤ mostOperands) && decide (meth.sig.returnType = rt) && !meth.locks && decide (parseMethodDescriptor y.desc = some meth.sig)) = true) : (Jvm.Cond.code y bytes mx rt).before a s = true := by
  simp only [Bool.and_eq_true, beq_iff_eq, Bool.not_eq_true', decide_eq_true_eq] at h5
  obtain ⟨⟨⟨⟨⟨g1, g2⟩, g3⟩, g4⟩, g5⟩, g6⟩ := h5
  simp [Cond.before, Cond.holds, Cond.value, h1, h2, h3, h4, g1, g2, g3, g4, g5, g6]
def isCode : Jvm.Cond → Bool
  | .code _ _ _ _ => true
  | _ => false
theorem all_split {L : List Jvm.Cond} {P : Jvm.Cond → Bool} (h1 : L.all (fun c => isCode c || P c) = true) (h2 : ∀ c ∈ L.filter isCode, P c = true) : L.all P = true := by
  refine List.all_eq_true.mpr fun c hc => ?_
  have h := List.all_eq_true.mp h1 c hc
  rcases Bool.eq_false_or_eq_true (isCode c) with hi | hi
  · exact h2 c (List.mem_filter.mpr ⟨hc, hi⟩)
  · simpa [hi] using h
set_option maxRecDepth 65536 in
theorem w_c0 : (Jvm.Cond.code x code maxLocals ret).before args0 about1 = true := code_word (m := ⟨1, 3⟩) (meth := k1m3) (c := k1c3) (by decide +kernel) rfl rfl rfl (by decide +kernel)
set_option maxRecDepth 65536 in
theorem w_c1 : (Jvm.Cond.code ({ cls := "com/example/medis/medis/engine/TruthAndPinLaw", name := "pick", desc := "(I)Lcom/example/medis/medis/engine/Truth;" } : Jvm.MethodName) method_2_code (1 : Nat) (Option.some (Jvm.ClassFile.FieldType.object "com/example/medis/medis/engine/Truth"))).before args0 about1 = true := code_word (m := ⟨1, 1⟩) (meth := k1m1) (c := k1c1) (by decide +kernel) rfl rfl rfl (by decide +kernel)
set_option maxRecDepth 65536 in
theorem w_c2 : (Jvm.Cond.code ({ cls := "com/example/medis/medis/engine/Truth", name := "and", desc := "(Lcom/example/medis/medis/engine/Truth;)Lcom/example/medis/medis/engine/Truth;" } : Jvm.MethodName) prog_91_method_5_code (3 : Nat) (Option.some (Jvm.ClassFile.FieldType.object "com/example/medis/medis/engine/Truth"))).before args0 about1 = true := code_word (m := ⟨6, 0⟩) (meth := k6m0) (c := k6c0) (by decide +kernel) rfl rfl rfl (by decide +kernel)
set_option maxRecDepth 65536 in
theorem w_c3 : (Jvm.Cond.code ({ cls := "com/example/medis/medis/engine/TruthAndPinLaw", name := "rank", desc := "(Lcom/example/medis/medis/engine/Truth;)I" } : Jvm.MethodName) method_3_code (1 : Nat) (Option.some Jvm.ClassFile.FieldType.int)).before args0 about1 = true := code_word (m := ⟨1, 2⟩) (meth := k1m2) (c := k1c2) (by decide +kernel) rfl rfl rfl (by decide +kernel)
set_option maxRecDepth 65536 in
theorem w_c4 : (Jvm.Cond.code ({ cls := "java/lang/Math", name := "min", desc := "(II)I" } : Jvm.MethodName) jdk_29_method_69_code (2 : Nat) (Option.some Jvm.ClassFile.FieldType.int)).before args0 about1 = true := code_word (m := ⟨7, 1⟩) (meth := k7m1) (c := k7c1) (by decide +kernel) rfl rfl rfl (by decide +kernel)
def codes1 : List Jvm.Cond := [Jvm.Cond.code x code maxLocals ret, Jvm.Cond.code ({ cls := "com/example/medis/medis/engine/TruthAndPinLaw", name := "pick", desc := "(I)Lcom/example/medis/medis/engine/Truth;" } : Jvm.MethodName) method_2_code (1 : Nat) (Option.some (Jvm.ClassFile.FieldType.object "com/example/medis/medis/engine/Truth")), Jvm.Cond.code ({ cls := "com/example/medis/medis/engine/Truth", name := "and", desc := "(Lcom/example/medis/medis/engine/Truth;)Lcom/example/medis/medis/engine/Truth;" } : Jvm.MethodName) prog_91_method_5_code (3 : Nat) (Option.some (Jvm.ClassFile.FieldType.object "com/example/medis/medis/engine/Truth")), Jvm.Cond.code ({ cls := "com/example/medis/medis/engine/TruthAndPinLaw", name := "rank", desc := "(Lcom/example/medis/medis/engine/Truth;)I" } : Jvm.MethodName) method_3_code (1 : Nat) (Option.some Jvm.ClassFile.FieldType.int), Jvm.Cond.code ({ cls := "java/lang/Math", name := "min", desc := "(II)I" } : Jvm.MethodName) jdk_29_method_69_code (2 : Nat) (Option.some Jvm.ClassFile.FieldType.int)]
set_option maxRecDepth 65536 in
theorem codes_eq : words1.filter isCode = codes1 := rfl
theorem w_codes : ∀ c ∈ words1.filter isCode, c.before args0 about1 = true := by
  rw [codes_eq]
  intro c hc
  simp only [codes1, List.mem_cons, List.not_mem_nil, or_false] at hc
  rcases hc with rfl | rfl | rfl | rfl | rfl
  · exact w_c0
  · exact w_c1
  · exact w_c2
  · exact w_c3
  · exact w_c4
set_option maxRecDepth 65536 in
theorem w_t1 : (words1.take 24).all (fun c => isCode c || c.before args0 about1) = true := by decide +kernel
set_option maxRecDepth 65536 in
theorem w_t2 : (words1.drop 24).all (fun c => isCode c || c.before args0 about1) = true := by decide +kernel
theorem w_tables : (allAtoms (Jvm.Cond.code x code maxLocals ret :: tables_1)).before args0 about1 = true := by
  rw [allAtoms_all]
  show words1.all (fun c => c.before args0 about1) = true
  refine all_split ?_ w_codes
  rw [← List.take_append_drop 24 words1, List.all_append, w_t1, w_t2]
  rfl
set_option maxRecDepth 65536 in
theorem w_case : (Jvm.Cond.and given_1 narrow_1).before args0 about1 = true := by decide +kernel
theorem w_applies : (headSpec (Jvm.Cond.code x code maxLocals ret :: tables_1) room_1).applies x e0.platform about1 = true :=
  (Spec.applies_iff w_frames).mpr ⟨w_running, w_runnable, w_alone, w_named, w_hears, w_ripe, w_room, w_tables⟩
theorem atStart : AtStart classFile x code maxLocals ret World_1 tables_1 room_1 Calls_1 rest_1 Pre_1 launch0 p0 e0 about1 theMethod args0 below0 :=
  ⟨lists_1, trivial, launch0.admits_env _ _ _, launch0.least_env, fairChoices_fair.cas, fairChoices_fair.clock, w_frames, w_args, w_heap, w_applies, trivial, trivial, w_case⟩
end start1
theorem witness_1 : WitnessClaimed_1 := ⟨start1.p0, start1.e0, start1.about1, start1.theMethod, start1.args0, start1.below0, start1.atStart⟩
end Jvm.Pilot.@@N@@
