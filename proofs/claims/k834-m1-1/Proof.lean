import JvmDerived
import JvmDerived.Pilot.@@N@@Statement
import JvmDerived.Pilot.@@N@@Code
set_option linter.unusedVariables false
set_option linter.unusedSimpArgs false
namespace Jvm.OwnK
open Jvm Sem ClassFile Op Lib Jvm.Stand Jvm.Free Jvm.LawKit Jvm.RoadKit
section A
variable {tabs : List Jvm.Cond} {a0 : Array Value} {Z : State} {own nm : String} {code : ByteArray} {ml : Nat} {ret : Option FieldType} {p : Program} {l : Launch} {e : Env} {R : Room} {s : State} {m : MethodId} {args : Array Value} {below : List Frame} {meth : Method} {c : Code} {n0 : Nat} {T : State} {h : Heap} {k n : Nat} {Q : Option Value → Heap → Prop} {G : Outcome → State → List Loc → Prop} {pc : Nat} {ls : Array Slot} {st : List Value}
/-- what stands fast through a method's walk -/
def Cx (tabs : List Jvm.Cond) (a0 : Array Value) (Z : State) (own nm : String) (code : ByteArray) (ml : Nat) (ret : Option FieldType) (p : Program) (s : State) (m : MethodId) (meth : Method) (c : Code) : Prop :=
  p.tables.exec = Jvm.exec ∧ Z.Warmed39 s.vm ∧ c.code = code ∧ c.maxLocals = ml ∧ s.vm.findClass own = some m.cls ∧ meth.sig.returnType = ret ∧ meth.locks = false ∧ meth.name = nm ∧ ∀ d ∈ tabs, d.before a0 Z = true
/-- where the walk stands: the heap h, k cells and n slots made so far, nothing below n0 written -/
def St (p : Program) (l : Launch) (e : Env) (R : Room) (s : State) (m : MethodId) (args : Array Value) (below : List Frame) (meth : Method) (c : Code) (n0 : Nat) (T : State) (h : Heap) (k n : Nat) : Prop :=
  ∃ locs, Stand p l e R s m args below meth c T locs k n ∧ T.heap = h ∧ Fr n0 locs ∧ n0 ≤ s.heap.size
/-- from this frame the method ends, and returns what Q says -/
def Run (p : Program) (e : Env) (below : List Frame) (n0 : Nat) (Q : Option Value → Heap → Prop) (G : Outcome → State → List Loc → Prop) (m : MethodId) (T : State) (pc : Nat) (ls : Array Slot) (st : List Value) : Prop :=
  ∃ s₂ o, Steps p.tables e below (T.setTop (mkF m pc ls st)) s₂ ∧ s₂.status = .running ∧ Ended s₂ below o ∧ ∃ v L, o = .returned v ∧ (Q v s₂.heap ∧ Fr n0 L) ∧ G o s₂ L
theorem Run.step {T' : State} {pc' : Nat} {ls' : Array Slot} {st' : List Value} (f : ∀ t, Steps p.tables e below (T'.setTop (mkF m pc' ls' st')) t → Steps p.tables e below (T.setTop (mkF m pc ls st)) t) (r : Run p e below n0 Q G m T' pc' ls' st') : Run p e below n0 Q G m T pc ls st := by
  obtain ⟨s₂, o, h1, h2⟩ := r
  exact ⟨s₂, o, f _ h1, h2⟩
theorem Run.steps {T' : State} {pc' : Nat} {ls' : Array Slot} {st' : List Value} (f : Steps p.tables e below (T.setTop (mkF m pc ls st)) (T'.setTop (mkF m pc' ls' st'))) (r : Run p e below n0 Q G m T' pc' ls' st') : Run p e below n0 Q G m T pc ls st := Run.step (fun _ q => f.trans q) r
theorem Run.cast {st' : List Value} (q : st = st') (r : Run p e below n0 Q G m T pc ls st') : Run p e below n0 Q G m T pc ls st := q ▸ r
theorem St.at' (X : St p l e R s m args below meth c n0 T h k n) : Jvm.At T m c below := by obtain ⟨_, X, -⟩ := X; exact X.here
theorem St.sz (X : St p l e R s m args below meth c n0 T h k n) : n0 ≤ h.size := by
  obtain ⟨_, X, rfl, -, q⟩ := X
  exact Nat.le_trans q X.same.2.1
theorem Cx.d {r : Except DecodeError (Instr × Nat)} (C : Cx tabs a0 Z own nm code ml ret p s m meth c) (q : decode code pc = r) : decode c.code pc = r := hb C.2.2.1 q
theorem Cx.w {d : Jvm.Cond} (C : Cx tabs a0 Z own nm code ml ret p s m meth c) (q : d ∈ tabs) : d.before a0 Z = true := C.2.2.2.2.2.2.2.2 d q
theorem s_iloadN (pc' : Nat) (C : Cx tabs a0 Z own nm code ml ret p s m meth c) (X : St p l e R s m args below meth c n0 T h k n) {i : Fin 4} {v : Int32} (hd : decode code pc = .ok (.iload_n i, 1)) (hl : ls[i.val]? = some (.val (.int v))) (r : Run p e below n0 Q G m T pc' ls (.int v :: st)) (hp : pc + 1 = pc' := by rfl) : Run p e below n0 Q G m T pc ls st := by
  subst hp
  exact Run.step (fun t q => XS.iloadN X.at' C.1 rfl (C.d hd) hl q) r
theorem s_iload (pc' : Nat) (C : Cx tabs a0 Z own nm code ml ret p s m meth c) (X : St p l e R s m args below meth c n0 T h k n) {i : Nat} {v : Int32} (hd : decode code pc = .ok (.iload i, 2)) (hl : ls[i]? = some (.val (.int v))) (r : Run p e below n0 Q G m T pc' ls (.int v :: st)) (hp : pc + 2 = pc' := by rfl) : Run p e below n0 Q G m T pc ls st := by
  subst hp
  exact Run.step (fun t q => XS.iload X.at' C.1 rfl (C.d hd) hl q) r
theorem s_aloadN (pc' : Nat) (C : Cx tabs a0 Z own nm code ml ret p s m meth c) (X : St p l e R s m args below meth c n0 T h k n) {i : Fin 4} {v : Value} (hd : decode code pc = .ok (.aload_n i, 1)) (hl : ls[i.val]? = some (.val v)) (hv : v.isRef = true) (r : Run p e below n0 Q G m T pc' ls (v :: st)) (hp : pc + 1 = pc' := by rfl) : Run p e below n0 Q G m T pc ls st := by
  subst hp
  exact Run.step (fun t q => XS.aloadN X.at' C.1 rfl (C.d hd) hl hv q) r
theorem s_aload (pc' : Nat) (C : Cx tabs a0 Z own nm code ml ret p s m meth c) (X : St p l e R s m args below meth c n0 T h k n) {i : Nat} {v : Value} (hd : decode code pc = .ok (.aload i, 2)) (hl : ls[i]? = some (.val v)) (hv : v.isRef = true) (r : Run p e below n0 Q G m T pc' ls (v :: st)) (hp : pc + 2 = pc' := by rfl) : Run p e below n0 Q G m T pc ls st := by
  subst hp
  exact Run.step (fun t q => XS.aload X.at' C.1 rfl (C.d hd) hl hv q) r
theorem s_istore (pc' : Nat) (C : Cx tabs a0 Z own nm code ml ret p s m meth c) (X : St p l e R s m args below meth c n0 T h k n) {i : Nat} {v : Int32} {l' : Array Slot} (hd : decode code pc = .ok (.istore i, 2)) (hl : storeLocals ls i (.int v) = some l') (r : Run p e below n0 Q G m T pc' l' st) (hp : pc + 2 = pc' := by rfl) : Run p e below n0 Q G m T pc ls (.int v :: st) := by
  subst hp
  exact Run.step (fun t q => XS.istore X.at' C.1 rfl (C.d hd) rfl hl q) r
theorem s_astoreN (pc' : Nat) (C : Cx tabs a0 Z own nm code ml ret p s m meth c) (X : St p l e R s m args below meth c n0 T h k n) {i : Fin 4} {v : Value} {l' : Array Slot} (hd : decode code pc = .ok (.astore_n i, 1)) (hv : v.isRef = true) (hl : storeLocals ls i.val v = some l') (r : Run p e below n0 Q G m T pc' l' st) (hp : pc + 1 = pc' := by rfl) : Run p e below n0 Q G m T pc ls (v :: st) := by
  subst hp
  exact Run.step (fun t q => XS.astoreN X.at' C.1 rfl (C.d hd) rfl hv hl q) r
theorem s_astore (pc' : Nat) (C : Cx tabs a0 Z own nm code ml ret p s m meth c) (X : St p l e R s m args below meth c n0 T h k n) {i : Nat} {v : Value} {l' : Array Slot} (hd : decode code pc = .ok (.astore i, 2)) (hv : v.isRef = true) (hl : storeLocals ls i v = some l') (r : Run p e below n0 Q G m T pc' l' st) (hp : pc + 2 = pc' := by rfl) : Run p e below n0 Q G m T pc ls (v :: st) := by
  subst hp
  exact Run.step (fun t q => XS.astore X.at' C.1 rfl (C.d hd) rfl hv hl q) r
theorem s_iconst (pc' : Nat) (C : Cx tabs a0 Z own nm code ml ret p s m meth c) (X : St p l e R s m args below meth c n0 T h k n) {i : Int} {z : Int32} (hd : decode code pc = .ok (.iconst i, 1)) (hz : Int32.ofInt i = z) (r : Run p e below n0 Q G m T pc' ls (.int z :: st)) (hp : pc + 1 = pc' := by rfl) : Run p e below n0 Q G m T pc ls st := by
  subst hp
  exact Run.step (fun t q => XS.iconst X.at' C.1 rfl (C.d hd) (by rw [hz]; exact q)) r
theorem s_bipush (pc' : Nat) (C : Cx tabs a0 Z own nm code ml ret p s m meth c) (X : St p l e R s m args below meth c n0 T h k n) {i : Int} {z : Int32} (hd : decode code pc = .ok (.bipush i, 2)) (hz : (Int8.ofInt i).toInt32 = z) (r : Run p e below n0 Q G m T pc' ls (.int z :: st)) (hp : pc + 2 = pc' := by rfl) : Run p e below n0 Q G m T pc ls st := by
  subst hp
  exact Run.step (fun t q => XS.bipush X.at' C.1 rfl (C.d hd) (by rw [hz]; exact q)) r
theorem s_sipush (pc' : Nat) (C : Cx tabs a0 Z own nm code ml ret p s m meth c) (X : St p l e R s m args below meth c n0 T h k n) {i : Int} {z : Int32} (hd : decode code pc = .ok (.sipush i, 3)) (hz : (Int16.ofInt i).toInt32 = z) (r : Run p e below n0 Q G m T pc' ls (.int z :: st)) (hp : pc + 3 = pc' := by rfl) : Run p e below n0 Q G m T pc ls st := by
  subst hp
  exact Run.step (fun t q => XS.sipush X.at' C.1 rfl (C.d hd) (by rw [hz]; exact q)) r
theorem s_aconstNull (pc' : Nat) (C : Cx tabs a0 Z own nm code ml ret p s m meth c) (X : St p l e R s m args below meth c n0 T h k n) (hd : decode code pc = .ok (.aconst_null, 1)) (r : Run p e below n0 Q G m T pc' ls (.null :: st)) (hp : pc + 1 = pc' := by rfl) : Run p e below n0 Q G m T pc ls st := by
  subst hp
  exact Run.step (fun t q => XS.aconstNull X.at' C.1 rfl (C.d hd) q) r
theorem s_iadd (pc' : Nat) (C : Cx tabs a0 Z own nm code ml ret p s m meth c) (X : St p l e R s m args below meth c n0 T h k n) {x y : Int32} (hd : decode code pc = .ok (.iadd, 1)) (r : Run p e below n0 Q G m T pc' ls (.int (x + y) :: st)) (hp : pc + 1 = pc' := by rfl) : Run p e below n0 Q G m T pc ls (.int y :: .int x :: st) := by
  subst hp
  exact Run.step (fun t q => XS.iadd X.at' C.1 rfl (C.d hd) rfl q) r
theorem s_iand (pc' : Nat) (C : Cx tabs a0 Z own nm code ml ret p s m meth c) (X : St p l e R s m args below meth c n0 T h k n) {x y : Int32} (hd : decode code pc = .ok (.iand, 1)) (r : Run p e below n0 Q G m T pc' ls (.int (x &&& y) :: st)) (hp : pc + 1 = pc' := by rfl) : Run p e below n0 Q G m T pc ls (.int y :: .int x :: st) := by
  subst hp
  exact Run.step (fun t q => XS.iand X.at' C.1 rfl (C.d hd) rfl q) r
theorem s_dup (pc' : Nat) (C : Cx tabs a0 Z own nm code ml ret p s m meth c) (X : St p l e R s m args below meth c n0 T h k n) {v : Value} (hd : decode code pc = .ok (.dup, 1)) (hc : v.category = 1) (r : Run p e below n0 Q G m T pc' ls (v :: v :: st)) (hp : pc + 1 = pc' := by rfl) : Run p e below n0 Q G m T pc ls (v :: st) := by
  subst hp
  exact Run.step (fun t q => XS.dup X.at' C.1 rfl (C.d hd) rfl hc q) r
theorem s_goto (pc' : Nat) (C : Cx tabs a0 Z own nm code ml ret p s m meth c) (X : St p l e R s m args below meth c n0 T h k n) {o : Int} (hd : decode code pc = .ok (.goto o, 3)) (r : Run p e below n0 Q G m T pc' ls st) (hp : 0 ≤ (pc : Int) + o ∧ ((pc : Int) + o).toNat = pc' := by decide) : Run p e below n0 Q G m T pc ls st := by
  exact Run.step (fun t q => XS.goto X.at' C.1 rfl rfl (C.d hd) hp.1 hp.2 q) r
theorem s_icmp_lt (pY pN : Nat) (C : Cx tabs a0 Z own nm code ml ret p s m meth c) (X : St p l e R s m args below meth c n0 T h k n) {x y : Int32} {o : Int} (hd : decode code pc = .ok (.if_icmp .lt o, 3)) (ry : x < y → Run p e below n0 Q G m T pY ls st) (rn : ¬ x < y → Run p e below n0 Q G m T pN ls st) (hp : 0 ≤ (pc : Int) + o ∧ ((pc : Int) + o).toNat = pY ∧ pc + 3 = pN := by decide) : Run p e below n0 Q G m T pc ls (.int y :: .int x :: st) := by
  by_cases g : x < y
  · exact Run.step (fun t q => XS.icmpYes X.at' C.1 rfl rfl (C.d hd) rfl (tlt g).1 hp.1 hp.2.1 q) (ry g)
  · obtain rfl := hp.2.2
    exact Run.step (fun t q => XS.icmpNo X.at' C.1 rfl (C.d hd) rfl (flt g).1 q) (rn g)
theorem s_icmp_gt (pY pN : Nat) (C : Cx tabs a0 Z own nm code ml ret p s m meth c) (X : St p l e R s m args below meth c n0 T h k n) {x y : Int32} {o : Int} (hd : decode code pc = .ok (.if_icmp .gt o, 3)) (ry : y < x → Run p e below n0 Q G m T pY ls st) (rn : ¬ y < x → Run p e below n0 Q G m T pN ls st) (hp : 0 ≤ (pc : Int) + o ∧ ((pc : Int) + o).toNat = pY ∧ pc + 3 = pN := by decide) : Run p e below n0 Q G m T pc ls (.int y :: .int x :: st) := by
  by_cases g : y < x
  · exact Run.step (fun t q => XS.icmpYes X.at' C.1 rfl rfl (C.d hd) rfl (tlt g).2.2.1 hp.1 hp.2.1 q) (ry g)
  · obtain rfl := hp.2.2
    exact Run.step (fun t q => XS.icmpNo X.at' C.1 rfl (C.d hd) rfl (flt g).2.2.1 q) (rn g)
theorem s_if_eq (pY pN : Nat) (C : Cx tabs a0 Z own nm code ml ret p s m meth c) (X : St p l e R s m args below meth c n0 T h k n) {x : Int32} {o : Int} (hd : decode code pc = .ok (.ifCond .eq o, 3)) (ry : x = (0 : Int32) → Run p e below n0 Q G m T pY ls st) (rn : ¬ x = (0 : Int32) → Run p e below n0 Q G m T pN ls st) (hp : 0 ≤ (pc : Int) + o ∧ ((pc : Int) + o).toNat = pY ∧ pc + 3 = pN := by decide) : Run p e below n0 Q G m T pc ls (.int x :: st) := by
  by_cases g : x = (0 : Int32)
  · exact Run.step (fun t q => XS.ifYes X.at' C.1 rfl rfl (C.d hd) rfl ((if0 _ _).trans (teq g).1) hp.1 hp.2.1 q) (ry g)
  · obtain rfl := hp.2.2
    exact Run.step (fun t q => XS.ifNo X.at' C.1 rfl (C.d hd) rfl ((if0 _ _).trans (feq g).1) q) (rn g)
theorem s_icmp_ne (pY pN : Nat) (C : Cx tabs a0 Z own nm code ml ret p s m meth c) (X : St p l e R s m args below meth c n0 T h k n) {x y : Int32} {o : Int} (hd : decode code pc = .ok (.if_icmp .ne o, 3)) (ry : ¬ x = y → Run p e below n0 Q G m T pY ls st) (rn : x = y → Run p e below n0 Q G m T pN ls st) (hp : 0 ≤ (pc : Int) + o ∧ ((pc : Int) + o).toNat = pY ∧ pc + 3 = pN := by decide) : Run p e below n0 Q G m T pc ls (.int y :: .int x :: st) := by
  by_cases g : x = y
  · obtain rfl := hp.2.2
    exact Run.step (fun t q => XS.icmpNo X.at' C.1 rfl (C.d hd) rfl (teq g).2 q) (rn g)
  · exact Run.step (fun t q => XS.icmpYes X.at' C.1 rfl rfl (C.d hd) rfl (feq g).2 hp.1 hp.2.1 q) (ry g)
theorem s_if_ne (pY pN : Nat) (C : Cx tabs a0 Z own nm code ml ret p s m meth c) (X : St p l e R s m args below meth c n0 T h k n) {x : Int32} {o : Int} (hd : decode code pc = .ok (.ifCond .ne o, 3)) (ry : ¬ x = (0 : Int32) → Run p e below n0 Q G m T pY ls st) (rn : x = (0 : Int32) → Run p e below n0 Q G m T pN ls st) (hp : 0 ≤ (pc : Int) + o ∧ ((pc : Int) + o).toNat = pY ∧ pc + 3 = pN := by decide) : Run p e below n0 Q G m T pc ls (.int x :: st) := by
  by_cases g : x = (0 : Int32)
  · obtain rfl := hp.2.2
    exact Run.step (fun t q => XS.ifNo X.at' C.1 rfl (C.d hd) rfl ((if0 _ _).trans (teq g).2) q) (rn g)
  · exact Run.step (fun t q => XS.ifYes X.at' C.1 rfl rfl (C.d hd) rfl ((if0 _ _).trans (feq g).2) hp.1 hp.2.1 q) (ry g)
theorem FE_mono {kc ks : Nat} (hk : k ≤ kc) (hn : n ≤ ks) : ∀ (v : Option Value) (t : State) (L : List Loc), FrameEnd s (.returned v) t L k n → FrameEnd s (.returned v) t L kc ks := fun v t L h => ⟨h.1, h.2.1, h.2.2.mono hk hn⟩
theorem Run.done (C : Cx tabs a0 Z own nm code ml ret p s m meth c) (X : St p l e R s m args below meth c n0 T h k n) {v : Option Value} (hv : ret = none → v = none) (hG : ∀ (v : Option Value) (t : State) (L : List Loc), FrameEnd s (.returned v) t L k n → G (.returned v) t L) (q : Q v h) (f : ∀ locs fs, Stand p l e R s m args below meth c T locs k n → (∀ (f : JFrame) (acts : List Action), f.method = m → f.locked = none → f.entered = [] → (doReturn e (T.setTop f) acts v).1 = T.setFrames fs) → Steps p.tables e below (T.setTop (mkF m pc ls st)) (T.setFrames fs)) : Run p e below n0 Q G m T pc ls st := by
  obtain ⟨locs, Y, rfl, N, -⟩ := X
  obtain ⟨fs, hr, hrun, hended, hW, hsame⟩ := Y.leave (v := v) (by rw [C.2.2.2.2.2.1]; exact hv) C.2.2.2.2.2.2.1
  exact ⟨_, _, f locs fs Y hr, hrun, hended, _, _, rfl, ⟨q, N⟩, hG _ _ _ ⟨⟨_, rfl⟩, hW, hsame⟩⟩
theorem s_return (C : Cx tabs a0 Z own nm code ml ret p s m meth c) (X : St p l e R s m args below meth c n0 T h k n) (hd : decode code pc = .ok (.return_, 1)) (hr : ret = none) (q : Q none h) (hG : ∀ (v : Option Value) (t : State) (L : List Loc), FrameEnd s (.returned v) t L k n → G (.returned v) t L := by exact FE_mono (by decide) (by decide)) : Run p e below n0 Q G m T pc ls [] := by
  subst hr
  exact Run.done C X (fun _ => rfl) hG q (fun locs fs Y hr => Y.returnOut C.1 C.2.2.2.2.2.1 (C.d hd) hr)
theorem s_nreturn (C : Cx tabs a0 Z own nm code ml ret p s m meth c) (X : St p l e R s m args below meth c n0 T h k n) {z z' : Int32} {t : FieldType} (hd : decode code pc = .ok (.ireturn, 1)) (hr : ret = some t) (ht : t = .boolean ∨ t = .byte ∨ t = .char ∨ t = .short) (hz : nar t z = z') (q : Q (some (.int z')) h) (hG : ∀ (v : Option Value) (t : State) (L : List Loc), FrameEnd s (.returned v) t L k n → G (.returned v) t L := by exact FE_mono (by decide) (by decide)) : Run p e below n0 Q G m T pc ls (.int z :: st) := by
  subst hr hz
  refine Run.done C X (fun w => by cases w) hG q (fun locs fs Y hr => ?_)
  exact retN Y C.1 C.2.2.2.2.2.1 ht (C.d hd) hr
theorem s_areturn (C : Cx tabs a0 Z own nm code ml ret p s m meth c) (X : St p l e R s m args below meth c n0 T h k n) {v : Value} {t : FieldType} (hd : decode code pc = .ok (.areturn, 1)) (hr : ret = some t) (ht : t.isReference = true) (hv : v.isRef = true) (q : Q (some v) h) (hG : ∀ (v : Option Value) (t : State) (L : List Loc), FrameEnd s (.returned v) t L k n → G (.returned v) t L := by exact FE_mono (by decide) (by decide)) : Run p e below n0 Q G m T pc ls (v :: st) := by
  subst hr
  refine Run.done C X (fun w => by cases w) hG q (fun locs fs Y hr => ?_)
  exact retOut Y C.1 C.2.2.2.2.2.1 (t := t) (by rcases ref_cases hv with rfl | ⟨_, rfl⟩ <;> cases t <;> first | rfl | simp [FieldType.isReference] at ht) (Or.inr (Or.inr (Or.inr (Or.inr ⟨rfl, ht, hv⟩)))) (C.d hd) hr
theorem s_getfield (pc' : Nat) (C : Cx tabs a0 Z own nm code ml ret p s m meth c) (X : St p l e R s m args below meth c n0 T h k n) {R0 O fn d host : String} {idx : Nat} {a : Addr} {v : Value} (hd : decode code pc = .ok (.getfield idx, 3)) (w : Jvm.Cond.fieldLink own idx R0 fn d ∈ tabs ∨ Jvm.Cond.fieldLinkNest own idx R0 fn d host ∈ tabs) (via : Via Z R0 O fn d) (F : Fld Z h a O fn d v) (r : ∀ T', St p l e R s m args below meth c n0 T' h k n → Run p e below n0 Q G m T' pc' ls (v :: st)) (hp : pc + 3 = pc' := by rfl) : Run p e below n0 Q G m T pc ls (.ref a :: st) := by
  subst hp
  obtain ⟨locs, Y, eT, N, q⟩ := X
  obtain ⟨T', Y', e', f⟩ := getF (host := host) Y C.1 C.2.1 C.2.2.2.2.1 (w.imp C.w C.w) via eT F (g := mkF m pc ls (.ref a :: st)) rfl rfl (C.d hd)
  exact Run.step f (r T' ⟨locs, Y', e', N, q⟩)
theorem s_getstatic (pc' : Nat) (C : Cx tabs a0 Z own nm code ml ret p s m meth c) (X : St p l e R s m args below meth c n0 T h k n) {R0 O fn d host : String} {idx : Nat} {v : Value} (hd : decode code pc = .ok (.getstatic idx, 3)) (w : Jvm.Cond.fieldLink own idx R0 fn d ∈ tabs ∨ Jvm.Cond.fieldLinkNest own idx R0 fn d host ∈ tabs) (via : Via Z R0 O fn d) (F : Sta Z h O fn d v) (r : ∀ T', St p l e R s m args below meth c n0 T' h k n → Run p e below n0 Q G m T' pc' ls (v :: st)) (hp : pc + 3 = pc' := by rfl) : Run p e below n0 Q G m T pc ls st := by
  subst hp
  obtain ⟨locs, Y, eT, N, q⟩ := X
  obtain ⟨T', Y', e', f⟩ := getS2 (host := host) Y C.1 C.2.1 C.2.2.2.2.1 (w.imp C.w C.w) via eT F (g := mkF m pc ls st) rfl (C.d hd)
  exact Run.step f (r T' ⟨locs, Y', e', N, q⟩)
theorem s_putfield (pc' : Nat) (C : Cx tabs a0 Z own nm code ml ret p s m meth c) (X : St p l e R s m args below meth c n0 T h k n) {R0 O fn d host K : String} {idx kk : Nat} {ty : FieldType} {a : Addr} {v old : Value} (hd : decode code pc = .ok (.putfield idx, 3)) (w : Jvm.Cond.fieldLink own idx R0 fn d ∈ tabs ∨ Jvm.Cond.fieldLinkNest own idx R0 fn d host ∈ tabs) (via : Via Z R0 O fn d) (F : Fld Z h a O fn d old) (E : Exa Z h a K) (L : Jvm.Cond.lays K O fn d ∈ tabs ∨ (Jvm.Cond.laysFinal K O fn d ∈ tabs ∧ own = O ∧ nm = "<init>")) (wi : Jvm.Cond.instantiable K kk ∈ tabs) (hty : parseFieldDescriptor d = some ty) (hn : narrow ty v = v) (hf : fits ty v = true) (ge : n0 ≤ a)
    (r : ∀ T' h', St p l e R s m args below meth c n0 T' h' k n → Wr h h' a (RoadKit.slotOf Z O fn d) v → Run p e below n0 Q G m T' pc' ls st) (hp : pc + 3 = pc' := by rfl) : Run p e below n0 Q G m T pc ls (v :: .ref a :: st) := by
  subst hp
  obtain ⟨locs, Y, eT, N, q⟩ := X
  obtain ⟨T', h', Y', e', W, f⟩ := putF (host := host) Y C.1 C.2.1 C.2.2.2.2.1 (w.imp C.w C.w) via eT F E (L.imp C.w fun z => ⟨C.w z.1, z.2.1, C.2.2.2.2.2.2.2.1.trans z.2.2⟩) (C.w wi) hty hn hf (g := mkF m pc ls (v :: .ref a :: st)) rfl rfl (C.d hd)
  exact Run.step f (r T' h' ⟨_, Y', e', Fr.snoc Y' N ge, q⟩ W)
theorem s_new (pc' : Nat) (C : Cx tabs a0 Z own nm code ml ret p s m meth c) (X : St p l e R s m args below meth c n0 T h k n) {K : String} {idx nn : Nat} (hd : decode code pc = .ok (.new idx, 3)) (w1 : Jvm.Cond.classLink own idx K ∈ tabs) (w2 : Jvm.Cond.instantiable K nn ∈ tabs) (w3 : Jvm.Cond.initialized K ∈ tabs)
    (r : ∀ T' h' b, h.size = b → St p l e R s m args below meth c n0 T' h' (k + 1) (n + nn) → Ext h h' → Exa Z h' b K → (∀ {O fn d : String} {ty : FieldType}, Laid Z a0 K O fn d → parseFieldDescriptor d = some ty → Fld Z h' b O fn d (defaultValue ty)) → n0 ≤ b → Run p e below n0 Q G m T' pc' ls (.ref b :: st)) (hp : pc + 3 = pc' := by rfl) (hc : k + 1 ≤ R.cells ∧ n + nn ≤ R.slots := by decide) : Run p e below n0 Q G m T pc ls st := by
  subst hp
  have hz := X.sz
  obtain ⟨locs, Y, eT, N, q⟩ := X
  obtain ⟨T', h', Y', e', E, A, D, -, f⟩ := newO Y C.1 C.2.1 C.2.2.2.2.1 (C.w w1) (C.w w2) (C.w w3) eT (g := mkF m pc ls st) rfl (C.d hd) hc.1 hc.2
  exact Run.step f (r T' h' _ rfl ⟨locs, Y', e', N, q⟩ E A D hz)
theorem s_objInit (pc' : Nat) (C : Cx tabs a0 Z own nm code ml ret p s m meth c) (X : St p l e R s m args below meth c n0 T h k n) {idx W : Nat} {a : Addr} (hd : decode code pc = .ok (.invokespecial idx, 3)) (w1 : Jvm.Cond.methodLink own idx Lib.objectInit ∈ tabs) (w2 : Jvm.Cond.instanceMethod Lib.objectInit ∈ tabs) (w3 : Jvm.Cond.code Lib.objectInit ⟨#[0xb1]⟩ 1 none ∈ tabs) (hsz : ls.size = ml) (hW : (st.map fun v => v.category).sum = W) (hf : 1 ≤ R.frames ∧ W + 12 ≤ R.locals)
    (r : ∀ T', St p l e R s m args below meth c n0 T' h k n → Run p e below n0 Q G m T' pc' ls st) (hp : pc + 3 = pc' := by rfl) : Run p e below n0 Q G m T pc ls (.ref a :: st) := by
  subst hp
  obtain ⟨locs, Y, eT, N, q⟩ := X
  obtain ⟨T', Y', e', f⟩ := initO Y C.1 C.2.1 C.2.2.2.2.1 (C.w w1) (C.w w2) (C.w w3) eT (g := mkF m pc ls (.ref a :: st)) rfl (hsz.trans C.2.2.2.1.symm) rfl (C.d hd) hf.1 (W := W) (by show 2 * 0 + _ ≤ _; rw [hW]; omega) hf.2
  exact Run.step f (r T' ⟨locs, Y', e', N, q⟩)
theorem s_instY (pc' : Nat) (C : Cx tabs a0 Z own nm code ml ret p s m meth c) (X : St p l e R s m args below meth c n0 T h k n) {K : String} {idx : Nat} {a : Addr} (hd : decode code pc = .ok (.instanceof idx, 3)) (w : Jvm.Cond.classLink own idx K ∈ tabs) (F : Ins Z h a K true) (r : ∀ T', St p l e R s m args below meth c n0 T' h k n → Run p e below n0 Q G m T' pc' ls (.int 1 :: st)) (hp : pc + 3 = pc' := by rfl) : Run p e below n0 Q G m T pc ls (.ref a :: st) := by
  subst hp
  obtain ⟨locs, Y, eT, N, q⟩ := X
  obtain ⟨T', Y', e', f⟩ := instY Y C.1 C.2.1 C.2.2.2.2.1 (C.w w) eT F (g := mkF m pc ls (.ref a :: st)) rfl rfl (C.d hd)
  exact Run.step f (r T' ⟨locs, Y', e', N, q⟩)
theorem s_instN (pc' : Nat) (C : Cx tabs a0 Z own nm code ml ret p s m meth c) (X : St p l e R s m args below meth c n0 T h k n) {K K0 : String} {idx : Nat} {a : Addr} (hd : decode code pc = .ok (.instanceof idx, 3)) (w : Jvm.Cond.classLink own idx K ∈ tabs) (E : Exa Z h a K0) (F : ∃ c t, Z.vm.findClass K0 = some c ∧ Z.vm.findClass K = some t ∧ Z.vm.assignable c t = false) (r : ∀ T', St p l e R s m args below meth c n0 T' h k n → Run p e below n0 Q G m T' pc' ls (.int 0 :: st)) (hp : pc + 3 = pc' := by rfl) : Run p e below n0 Q G m T pc ls (.ref a :: st) := by
  subst hp
  obtain ⟨locs, Y, eT, N, q⟩ := X
  obtain ⟨T', Y', e', f⟩ := instNo Y C.1 C.2.1 C.2.2.2.2.1 (C.w w) eT E F (g := mkF m pc ls (.ref a :: st)) rfl rfl (C.d hd)
  exact Run.step f (r T' ⟨locs, Y', e', N, q⟩)
theorem s_instNull (pc' : Nat) (C : Cx tabs a0 Z own nm code ml ret p s m meth c) (X : St p l e R s m args below meth c n0 T h k n) {idx : Nat} (hd : decode code pc = .ok (.instanceof idx, 3)) (r : Run p e below n0 Q G m T pc' ls (.int 0 :: st)) (hp : pc + 3 = pc' := by rfl) : Run p e below n0 Q G m T pc ls (.null :: st) := by
  subst hp
  obtain ⟨locs, Y, eT, N, q⟩ := X
  exact Run.step (Y.instanceofNull C.1 (g := mkF m pc ls (.null :: st)) rfl rfl (C.d hd)) r
theorem s_castY (pc' : Nat) (C : Cx tabs a0 Z own nm code ml ret p s m meth c) (X : St p l e R s m args below meth c n0 T h k n) {K : String} {idx : Nat} {a : Addr} (hd : decode code pc = .ok (.checkcast idx, 3)) (w : Jvm.Cond.classLink own idx K ∈ tabs) (F : Ins Z h a K true) (r : ∀ T', St p l e R s m args below meth c n0 T' h k n → Run p e below n0 Q G m T' pc' ls (.ref a :: st)) (hp : pc + 3 = pc' := by rfl) : Run p e below n0 Q G m T pc ls (.ref a :: st) := by
  subst hp
  obtain ⟨locs, Y, eT, N, q⟩ := X
  obtain ⟨T', Y', e', f⟩ := castY Y C.1 C.2.1 C.2.2.2.2.1 (C.w w) eT F (g := mkF m pc ls (.ref a :: st)) rfl rfl (C.d hd)
  exact Run.step f (r T' ⟨locs, Y', e', N, q⟩)
theorem s_aaload (pc' : Nat) (C : Cx tabs a0 Z own nm code ml ret p s m meth c) (X : St p l e R s m args below meth c n0 T h k n) {a : Addr} {kA : ClassId} {z j : Int32} {v : Value} {ty : FieldType} {vs : List Value} {dv : Value} (hd : decode code pc = .ok (.aaload, 1)) (F : Arv Z h a kA ty z vs dv) (ht : ty.isReference = true) (hj : ¬ j < 0 ∧ j < z) (hv : vs.getD j.toNatClampNeg dv = v)
    (r : Run p e below n0 Q G m T pc' ls (v :: st)) (hp : pc + 1 = pc' := by rfl) : Run p e below n0 Q G m T pc ls (.int j :: .ref a :: st) := by
  subst hp
  obtain ⟨locs, Y, eT, N, q⟩ := X
  obtain ⟨cl, A, q1, S, q3, H, G⟩ := F
  exact Run.step (fun t q => Y.aaload C.1 (j := j) (v := v) (by rw [eT]; exact A.1) (State.isArrayOf_alike C.2.1.alike A.2.1) ht A.2.2 (inb_of S hj) (H.at (inb_of S hj) hv) (g := mkF m pc ls (.int j :: .ref a :: st)) rfl rfl (C.d hd) t q) r
/-- a method's contract at given arguments and a given heap -/
def Met (l : Launch) (Z : State) (y : MethodName) (bytes : ByteArray) (ml : Nat) (ret : Option FieldType) (rm : Room) (ws : List Jvm.Cond) (as : Array Value) (h : Heap) (n0 : Nat) (Q : Option Value → Heap → Prop) : Prop :=
  MetFree l y (head1 (Jvm.Cond.code y bytes ml ret :: ws) rm) (fun a U => a = as ∧ Z.Warmed39 U.vm ∧ U.heap = h) (fun _ _ _ _ _ => True) (fun _ U o U' => ∃ v L, o = .returned v ∧ (Q v U'.heap ∧ Fr n0 L) ∧ FrameEnd U o U' L rm.cells rm.slots)
theorem Met.mk {y : MethodName} {rm : Room} {ws : List Jvm.Cond} {as : Array Value} {ls0 : Array Slot} (hpl : plainFor y = true) (hw : ∀ d ∈ tabs, d.before a0 Z = true) (hn : n0 ≤ h.size) (hef : ∀ m, entryFrame m as ml = mkF m 0 ls0 [])
    (body : ∀ p e s m below meth c T, Cx tabs a0 Z y.cls y.name code ml ret p s m meth c → St p l e rm s m as below meth c n0 T h 0 0 → Run p e below n0 Q (fun o t L => FrameEnd s o t L rm.cells rm.slots) m T 0 ls0 []) : Met l Z y code ml ret rm ws as h n0 Q := by
  refine MetFree.of_bodySF hpl hisR ?_
  intro p e s m args below meth c s₁ Bd hml0 hP hK
  obtain ⟨rfl, hZ, rfl⟩ := hP
  have X0 : Stand p l e rm s m args below meth c s₁ [] 0 0 := Stand.of_body Bd
  have e0 : s₁.heap = s.heap := by rw [Bd.state]; rfl
  have r := body p e s m below meth c s₁ ⟨Bd.exec, hZ, Bd.bytes, hml0, findClass_of_methodNamed Bd.named, Bd.returns, Bd.notSynchronized, (name_of_methodNamed Bd.named Bd.method).1, hw⟩ ⟨[], X0, e0, Fr.nil n0, hn⟩
  obtain ⟨s₂, o, h1, h2⟩ := r
  exact ⟨s₂, o, castTop (hef m) h1, h2⟩
theorem s_callS (pc' : Nat) (argsL rest : List Value) (W : Nat) (C : Cx tabs a0 Z own nm code ml ret p s m meth c) (X : St p l e R s m args below meth c n0 T h k n) {idx : Nat} {y : MethodName} {bytes : ByteArray} {maxL : Nat} {rt : Option FieldType} {rm : Room} {stk : List Value} {Q1 : Option Value → Heap → Prop} (hd : decode code pc = .ok (.invokestatic idx, 3)) (w1 : Jvm.Cond.methodLink own idx y ∈ tabs) (w2 : Jvm.Cond.static y ∈ tabs) (w3 : Jvm.Cond.initialized y.cls ∈ tabs) (w4 : Jvm.Cond.code y bytes maxL rt ∈ tabs)
    (M : Met l Z y bytes maxL rt rm [] argsL.toArray h n0 Q1) (hlen : ∀ sig, parseMethodDescriptor y.desc = some sig → argsL.length = sig.parameters.length) (hs : stk = argsL.reverse ++ rest) (hsz : ls.size = ml) (hW : (rest.map fun v => v.category).sum = W)
    (r : ∀ T' v h', St p l e R s m args below meth c n0 T' h' (k + rm.cells) (n + rm.slots) → Q1 v h' → Run p e below n0 Q G m T' pc' ls (v.toList ++ rest)) (hp : pc + 3 = pc' := by rfl) (hr : rm.frames + 1 ≤ R.frames ∧ W + (maxL + 11) + rm.locals ≤ R.locals ∧ k + rm.cells ≤ R.cells ∧ n + rm.slots ≤ R.slots := by decide) (hy : y.cls ≠ "java/lang/invoke/MethodHandle" ∧ y.cls ≠ "java/lang/invoke/VarHandle" := by decide) : Run p e below n0 Q G m T pc ls stk := by
  subst hp hs
  obtain ⟨locs, Y, eT, N, q⟩ := X
  obtain ⟨v, _, ⟨T1, L1, k1, n1⟩, -, Y', ⟨Lc, hQ, l1, y1, z1⟩, f⟩ := Jvm.LawKit.callS Y C.1 C.2.2.2.2.1 (mvT C.2.1 (C.w w1)) (mvT C.2.1 (C.w w2)) (mvT C.2.1 (C.w w3)) (mvT C.2.1 (C.w w4)) hy (backOf (W := W) (Q := fun v h L => Q1 v h ∧ Fr n0 L) M C.2.1 (C.w w4) (C.w w3) hr.1 hr.2.1) (g := mkF m pc ls (argsL.reverse ++ rest)) rfl (hsz.trans C.2.2.2.1.symm) (argsL := argsL) (rest := rest) hlen rfl (by show 2 * 0 + _ ≤ _; rw [hW]; omega) (C.d hd) (fun _ _ => ⟨rfl, eT, hr.2.2.1, hr.2.2.2⟩)
  dsimp only [Pt.U, Pt.locs, Pt.cells, Pt.slots] at Y' l1 y1 z1 f hQ
  subst l1 y1 z1
  exact Run.step f (r T1 v _ ⟨_, Y', rfl, Fr.app N hQ.2, q⟩ hQ.1)
theorem s_callC (pc' : Nat) (argsL rest : List Value) (W : Nat) (C : Cx tabs a0 Z own nm code ml ret p s m meth c) (X : St p l e R s m args below meth c n0 T h k n) {idx : Nat} {y : MethodName} {bytes : ByteArray} {maxL : Nat} {rm : Room} {stk : List Value} {Q1 : Option Value → Heap → Prop} {a : Addr} (hd : decode code pc = .ok (.invokespecial idx, 3)) (hi : y.name = "<init>") (w1 : Jvm.Cond.methodLink own idx y ∈ tabs) (w2 : Jvm.Cond.instanceMethod y ∈ tabs) (w3 : Jvm.Cond.initialized y.cls ∈ tabs) (w4 : Jvm.Cond.code y bytes maxL none ∈ tabs)
    (M : Met l Z y bytes maxL none rm [] (.ref a :: argsL).toArray h n0 Q1) (hlen : ∀ sig, parseMethodDescriptor y.desc = some sig → argsL.length = sig.parameters.length) (hs : stk = argsL.reverse ++ .ref a :: rest) (hsz : ls.size = ml) (hW : (rest.map fun v => v.category).sum = W)
    (r : ∀ T' v h', St p l e R s m args below meth c n0 T' h' (k + rm.cells) (n + rm.slots) → Q1 v h' → Run p e below n0 Q G m T' pc' ls (v.toList ++ rest)) (hp : pc + 3 = pc' := by rfl) (hr : rm.frames + 1 ≤ R.frames ∧ W + (maxL + 11) + rm.locals ≤ R.locals ∧ k + rm.cells ≤ R.cells ∧ n + rm.slots ≤ R.slots := by decide) (hy : y.cls ≠ "java/lang/invoke/MethodHandle" ∧ y.cls ≠ "java/lang/invoke/VarHandle" := by decide) : Run p e below n0 Q G m T pc ls stk := by
  subst hp hs
  obtain ⟨locs, Y, eT, N, q⟩ := X
  obtain ⟨v, _, ⟨T1, L1, k1, n1⟩, -, Y', ⟨Lc, hQ, l1, y1, z1⟩, f⟩ := Y.specialBack C.1 (y := y) hi C.2.2.2.2.1 (mvT C.2.1 (C.w w1)) (mvT C.2.1 (C.w w2)) (mvT C.2.1 (C.w w4)) hy (backOf (W := W) (Q := fun v h L => Q1 v h ∧ Fr n0 L) M C.2.1 (C.w w4) (C.w w3) hr.1 hr.2.1) (g := mkF m pc ls (argsL.reverse ++ .ref a :: rest)) rfl (hsz.trans C.2.2.2.1.symm) (Steps.refl _) (a := a) (argsL := argsL) (rest := rest) hlen rfl (by show 2 * 0 + _ ≤ _; rw [hW]; omega) (C.d hd) (fun _ _ => ⟨rfl, eT, hr.2.2.1, hr.2.2.2⟩)
  dsimp only [Pt.U, Pt.locs, Pt.cells, Pt.slots] at Y' l1 y1 z1 f hQ
  subst l1 y1 z1
  exact Run.steps f (r T1 v _ ⟨_, Y', rfl, Fr.app N hQ.2, q⟩ hQ.1)
theorem s_callV (pc' : Nat) (argsL rest : List Value) (W : Nat) (C : Cx tabs a0 Z own nm code ml ret p s m meth c) (X : St p l e R s m args below meth c n0 T h k n) {idx : Nat} {y : MethodName} {bytes : ByteArray} {maxL : Nat} {rt : Option FieldType} {rm : Room} {stk : List Value} {Q1 : Option Value → Heap → Prop} {y0 : MethodName} {K : String} {a : Addr} (hd : decode code pc = .ok (.invokevirtual idx, 3)) (w1 : Jvm.Cond.methodLink own idx y0 ∈ tabs) (w2 : Jvm.Cond.declares y0 ∈ tabs) (hnf : NotFace s y0) (w5 : Jvm.Cond.selects K y0 y ∈ tabs) (w6 : Jvm.Cond.instanceMethod y ∈ tabs) (w3 : Jvm.Cond.initialized y.cls ∈ tabs) (w4 : Jvm.Cond.code y bytes maxL rt ∈ tabs)
    (E : Exa Z h a K) (M : Met l Z y bytes maxL rt rm [] (.ref a :: argsL).toArray h n0 Q1) (hlen : ∀ sig, parseMethodDescriptor y0.desc = some sig → argsL.length = sig.parameters.length) (hs : stk = argsL.reverse ++ .ref a :: rest) (hsz : ls.size = ml) (hW : (rest.map fun v => v.category).sum = W)
    (r : ∀ T' v h', St p l e R s m args below meth c n0 T' h' (k + rm.cells) (n + rm.slots) → Q1 v h' → Run p e below n0 Q G m T' pc' ls (v.toList ++ rest)) (hp : pc + 3 = pc' := by rfl) (hr : rm.frames + 1 ≤ R.frames ∧ W + (maxL + 11) + rm.locals ≤ R.locals ∧ k + rm.cells ≤ R.cells ∧ n + rm.slots ≤ R.slots := by decide) (hy : y0.cls ≠ "java/lang/invoke/MethodHandle" ∧ y0.cls ≠ "java/lang/invoke/VarHandle" := by decide) : Run p e below n0 Q G m T pc ls stk := by
  subst hp hs
  obtain ⟨locs, Y, eT, N, q⟩ := X
  obtain ⟨cq, kq, qa, qb, qc⟩ := isOf C.2.1 eT E
  obtain ⟨v, _, ⟨T1, L1, k1, n1⟩, -, Y', ⟨Lc, hQ, l1, y1, z1⟩, f⟩ := Y.virtualBack C.1 (y := y0) (z := y) C.2.2.2.2.1 (mvT C.2.1 (C.w w1)) (mvT C.2.1 (C.w w2)) hnf (mvT C.2.1 (C.w w5)) (mvT C.2.1 (C.w w6)) hy (backOf (W := W) (Q := fun v h L => Q1 v h ∧ Fr n0 L) M C.2.1 (C.w w4) (C.w w3) hr.1 hr.2.1) qa qc (g := mkF m pc ls (argsL.reverse ++ .ref a :: rest)) rfl (hsz.trans C.2.2.2.1.symm) (Steps.refl _) (argsL := argsL) (rest := rest) hlen rfl (by show 2 * 0 + _ ≤ _; rw [hW]; omega) (C.d hd) (fun _ _ => ⟨rfl, eT, hr.2.2.1, hr.2.2.2⟩)
  dsimp only [Pt.U, Pt.locs, Pt.cells, Pt.slots] at Y' l1 y1 z1 f hQ
  subst l1 y1 z1
  exact Run.steps f (r T1 v _ ⟨_, Y', rfl, Fr.app N hQ.2, q⟩ hQ.1)
end A
end Jvm.OwnK
namespace Jvm.Pilot.@@N@@
open Jvm Jvm.ClassFile Sem Op Lib Jvm.Free Jvm.Stand Jvm.LawKit Jvm.RoadKit Bundle Jvm.OwnK Jvm.Pilot.@@N@@.Jvm.D
theorem pn_com_example_libring_libring_slots_SlotRange : plainName "com/example/libring/libring/slots/SlotRange" = true := by first | (simp [plainName, overriddenIn]; done) | decide +kernel
theorem d1_0 : decode prog_15_method_1_code 0 = .ok (.aload_n 0, 1) := by decide +kernel
theorem d1_1 : decode prog_15_method_1_code 1 = .ok (.invokespecial 1, 3) := by decide +kernel
theorem d1_4 : decode prog_15_method_1_code 4 = .ok (.aload_n 0, 1) := by decide +kernel
theorem d1_5 : decode prog_15_method_1_code 5 = .ok (.iload_n 1, 1) := by decide +kernel
theorem d1_6 : decode prog_15_method_1_code 6 = .ok (.putfield 7, 3) := by decide +kernel
theorem d1_9 : decode prog_15_method_1_code 9 = .ok (.aload_n 0, 1) := by decide +kernel
theorem d1_10 : decode prog_15_method_1_code 10 = .ok (.iload_n 2, 1) := by decide +kernel
theorem d1_11 : decode prog_15_method_1_code 11 = .ok (.putfield 13, 3) := by decide +kernel
theorem d1_14 : decode prog_15_method_1_code 14 = .ok (.return_, 1) := by decide +kernel
theorem d3_0 : decode prog_15_method_4_code 0 = .ok (.aload_n 1, 1) := by decide +kernel
theorem d3_1 : decode prog_15_method_4_code 1 = .ok (.instanceof 8, 3) := by decide +kernel
theorem d3_4 : decode prog_15_method_4_code 4 = .ok (.ifCond .ne 5, 3) := by decide +kernel
theorem d3_9 : decode prog_15_method_4_code 9 = .ok (.aload_n 1, 1) := by decide +kernel
theorem d3_10 : decode prog_15_method_4_code 10 = .ok (.checkcast 8, 3) := by decide +kernel
theorem d3_13 : decode prog_15_method_4_code 13 = .ok (.astore_n 2, 1) := by decide +kernel
theorem d3_14 : decode prog_15_method_4_code 14 = .ok (.aload_n 0, 1) := by decide +kernel
theorem d3_15 : decode prog_15_method_4_code 15 = .ok (.getfield 7, 3) := by decide +kernel
theorem d3_18 : decode prog_15_method_4_code 18 = .ok (.aload_n 2, 1) := by decide +kernel
theorem d3_19 : decode prog_15_method_4_code 19 = .ok (.getfield 7, 3) := by decide +kernel
theorem d3_22 : decode prog_15_method_4_code 22 = .ok (.if_icmp .ne 18, 3) := by decide +kernel
theorem d3_40 : decode prog_15_method_4_code 40 = .ok (.iconst 0, 1) := by decide +kernel
theorem kc_iconst_0 : Int32.ofInt 0 = (0 : Int32) := by decide +kernel
theorem d3_41 : decode prog_15_method_4_code 41 = .ok (.ireturn, 1) := by decide +kernel
theorem d3_25 : decode prog_15_method_4_code 25 = .ok (.aload_n 0, 1) := by decide +kernel
theorem d3_26 : decode prog_15_method_4_code 26 = .ok (.getfield 13, 3) := by decide +kernel
theorem d3_29 : decode prog_15_method_4_code 29 = .ok (.aload_n 2, 1) := by decide +kernel
theorem d3_30 : decode prog_15_method_4_code 30 = .ok (.getfield 13, 3) := by decide +kernel
theorem d3_33 : decode prog_15_method_4_code 33 = .ok (.if_icmp .ne 7, 3) := by decide +kernel
theorem d3_36 : decode prog_15_method_4_code 36 = .ok (.iconst 1, 1) := by decide +kernel
theorem kc_iconst_1 : Int32.ofInt 1 = (1 : Int32) := by decide +kernel
theorem d3_37 : decode prog_15_method_4_code 37 = .ok (.goto 4, 3) := by decide +kernel
theorem d3_7 : decode prog_15_method_4_code 7 = .ok (.iconst 0, 1) := by decide +kernel
theorem d3_8 : decode prog_15_method_4_code 8 = .ok (.ireturn, 1) := by decide +kernel
theorem pn_java_lang_Number : plainName "java/lang/Number" = true := by first | (simp [plainName, overriddenIn]; done) | decide +kernel
theorem d6_0 : decode jdk_18_method_1_code 0 = .ok (.aload_n 0, 1) := by decide +kernel
theorem d6_1 : decode jdk_18_method_1_code 1 = .ok (.invokespecial 1, 3) := by decide +kernel
theorem d6_4 : decode jdk_18_method_1_code 4 = .ok (.return_, 1) := by decide +kernel
theorem pn_java_lang_Integer : plainName "java/lang/Integer" = true := by first | (simp [plainName, overriddenIn]; done) | decide +kernel
theorem d5_0 : decode jdk_33_method_23_code 0 = .ok (.aload_n 0, 1) := by decide +kernel
theorem d5_1 : decode jdk_33_method_23_code 1 = .ok (.invokespecial 202, 3) := by decide +kernel
theorem pd___V : parseMethodDescriptor "()V" = some ⟨[], none⟩ := by decide +kernel
theorem d5_4 : decode jdk_33_method_23_code 4 = .ok (.aload_n 0, 1) := by decide +kernel
theorem d5_5 : decode jdk_33_method_23_code 5 = .ok (.iload_n 1, 1) := by decide +kernel
theorem d5_6 : decode jdk_33_method_23_code 6 = .ok (.putfield 205, 3) := by decide +kernel
theorem d5_9 : decode jdk_33_method_23_code 9 = .ok (.return_, 1) := by decide +kernel
theorem d4_0 : decode jdk_33_method_22_code 0 = .ok (.iload_n 0, 1) := by decide +kernel
theorem d4_1 : decode jdk_33_method_22_code 1 = .ok (.bipush (-128), 2) := by decide +kernel
theorem kc_bipush_m128 : (Int8.ofInt (-128)).toInt32 = (-128 : Int32) := by decide +kernel
theorem d4_3 : decode jdk_33_method_22_code 3 = .ok (.if_icmp .lt 20, 3) := by decide +kernel
theorem d4_23 : decode jdk_33_method_22_code 23 = .ok (.new 1, 3) := by decide +kernel
theorem d4_26 : decode jdk_33_method_22_code 26 = .ok (.dup, 1) := by decide +kernel
theorem d4_27 : decode jdk_33_method_22_code 27 = .ok (.iload_n 0, 1) := by decide +kernel
theorem d4_28 : decode jdk_33_method_22_code 28 = .ok (.invokespecial 199, 3) := by decide +kernel
theorem pd__I_V : parseMethodDescriptor "(I)V" = some ⟨[.int], none⟩ := by decide +kernel
theorem d4_31 : decode jdk_33_method_22_code 31 = .ok (.areturn, 1) := by decide +kernel
theorem d4_6 : decode jdk_33_method_22_code 6 = .ok (.iload_n 0, 1) := by decide +kernel
theorem d4_7 : decode jdk_33_method_22_code 7 = .ok (.getstatic 191, 3) := by decide +kernel
theorem d4_10 : decode jdk_33_method_22_code 10 = .ok (.if_icmp .gt 13, 3) := by decide +kernel
theorem d4_13 : decode jdk_33_method_22_code 13 = .ok (.getstatic 195, 3) := by decide +kernel
theorem d4_16 : decode jdk_33_method_22_code 16 = .ok (.iload_n 0, 1) := by decide +kernel
theorem d4_17 : decode jdk_33_method_22_code 17 = .ok (.sipush 128, 3) := by decide +kernel
theorem kc_sipush_128 : (Int16.ofInt 128).toInt32 = (128 : Int32) := by decide +kernel
theorem d4_20 : decode jdk_33_method_22_code 20 = .ok (.iadd, 1) := by decide +kernel
theorem d4_21 : decode jdk_33_method_22_code 21 = .ok (.aaload, 1) := by decide +kernel
theorem d4_22 : decode jdk_33_method_22_code 22 = .ok (.areturn, 1) := by decide +kernel
theorem pn_com_example_libring_libring_slots_SlotRangeEqualsPinLaw : plainName "com/example/libring/libring/slots/SlotRangeEqualsPinLaw" = true := by first | (simp [plainName, overriddenIn]; done) | decide +kernel
theorem kc_iconst_4 : Int32.ofInt 4 = (4 : Int32) := by decide +kernel
theorem kc_bipush_8 : (Int8.ofInt 8).toInt32 = (8 : Int32) := by decide +kernel
theorem pd__II_V : parseMethodDescriptor "(II)V" = some ⟨[.int, .int], none⟩ := by decide +kernel
theorem kc_iconst_3 : Int32.ofInt 3 = (3 : Int32) := by decide +kernel
theorem kc_iconst_2 : Int32.ofInt 2 = (2 : Int32) := by decide +kernel
theorem pd__Ljava_lang_Object__Z : parseMethodDescriptor "(Ljava/lang/Object;)Z" = some ⟨[(.object "java/lang/Object")], some .boolean⟩ := by decide +kernel
theorem pd__I_Ljava_lang_Integer_ : parseMethodDescriptor "(I)Ljava/lang/Integer;" = some ⟨[.int], some (.object "java/lang/Integer")⟩ := by decide +kernel
theorem own_root {Z : State} {a0 : Array Value} {O K : String} {n : Nat} (w : (Jvm.Cond.noSuperclass O).before a0 Z = true) (wk : (Jvm.Cond.instantiable K n).before a0 Z = true) (hn : O ≠ K) : NS Z O K := by
  obtain ⟨c, k, h1, h2, h3, -, -⟩ := Cond.noSuperclass_spec w
  obtain ⟨t, kt, g1, -⟩ := Cond.instantiable_spec wk
  have ne := ids_ne h1 g1 hn
  refine ⟨c, t, h1, g1, fun fuel => ?_⟩
  cases fuel with
  | zero => rfl
  | succ f => simp [Vm.isSubclassAux, ne, h2, h3]
theorem own_nsno {Z : State} {a0 : Array Value} {D S K : String} {n : Nat} (w : (Jvm.Cond.superclass D S).before a0 Z = true) (wk : (Jvm.Cond.instantiable K n).before a0 Z = true) (q : NS Z D K) (hn : D ≠ K) : ∃ c t, Z.vm.findClass D = some c ∧ Z.vm.findClass K = some t ∧ Z.vm.assignable c t = false := by
  obtain ⟨c, t, h0, g0, n3⟩ := q
  obtain ⟨p, k, kp, h1, h2, h3, h4, h5, -, h7⟩ := Cond.superclass_spec h0 w
  obtain ⟨t', k', g1, g2, g5, g7, -⟩ := Cond.instantiable_spec wk
  cases g0.symm.trans g1
  have ne := ids_ne h0 g0 hn
  have g8 : k'.isInterface = false := (Bool.or_eq_false_iff.mp g7).1
  refine ⟨c, t, h0, g0, ?_⟩
  show Z.vm.assignableAux (255 + 1) c t = false
  simp [Vm.assignableAux, ne, h2, g2, h5, g5, g8, Vm.isSubclass, n3]
theorem own_no {Z : State} {a0 : Array Value} {n : Nat} (w1 : (Jvm.Cond.superclass "java/lang/Integer" "java/lang/Number").before a0 Z = true) (w2 : (Jvm.Cond.superclass "java/lang/Number" "java/lang/Object").before a0 Z = true) (w3 : (Jvm.Cond.noSuperclass "java/lang/Object").before a0 Z = true) (w4 : (Jvm.Cond.instantiable "com/example/libring/libring/slots/SlotRange" n).before a0 Z = true) :
    ∃ c t, Z.vm.findClass "java/lang/Integer" = some c ∧ Z.vm.findClass "com/example/libring/libring/slots/SlotRange" = some t ∧ Z.vm.assignable c t = false :=
  own_nsno w1 w4 (NS.step w1 (NS.step w2 (own_root w3 w4 (by decide)) (by decide)) (by decide)) (by decide)
theorem own_sub {args : Array Value} {s : State} {j : Int32} (hj : ¬ j < 0) : (Term.sub (Term.index 0) (Term.int 128)).eval args s none [j.toNatClampNeg] s = some (.int (j - 128)) := by
  have h := idx_at (args := args) (s := s) (first := s) (o := none) hj
  have h2 : (Term.int 128).eval args s none [j.toNatClampNeg] s = some (.int 128) := rfl
  simp only [Term.eval] at h h2 ⊢
  rw [h]
  rfl
theorem own_lenOf {s : State} {args : Array Value} {t : Term} {a : Addr} {cl : Cell} {z : Int32} (et : t.eval args s none [] s = some (.ref a)) (fin : s.arrayAt? a = some cl) (L : (Term.length t).eval args s none [] s = some (.int z)) : cl.slots.size < 2 ^ 31 ∧ cl.slots.size.toInt32 = z := by
  have hl : cl.slots.size < 2 ^ 31 := by
    by_cases g : cl.slots.size < 2 ^ 31
    · exact g
    · simp [Term.eval, et, fin, g] at L
  exact ⟨hl, Value.int.inj (Option.some.inj ((len_f et fin hl).symm.trans L))⟩
theorem own_i128 {x : Int32} (h1 : ¬ x.toInt < -128) (h2 : ¬ 127 < x.toInt) : ¬ x + 128 < 0 ∧ x + 128 < 256 := by
  have q := c_iadd x 128
  have r := rng32 (x + 128)
  have k0 : (0 : Int32).toInt = 0 := by decide
  have k1 : (128 : Int32).toInt = 128 := by decide
  have k2 : (256 : Int32).toInt = 256 := by decide
  rw [Int32.lt_iff_toInt_lt, Int32.lt_iff_toInt_lt]
  omega
theorem own_arvOf {Z : State} {h : Heap} {a : Addr} {c : Cell} {ty : FieldType} {z : Int32} {P : Addr → Prop} (A : Arr Z h a c ty) (hs : c.slots.size = z.toNatClampNeg) (hz : ¬ z < 0) (hr : refKind ty = true ∨ True)
    (H : ∀ j : Int32, ¬ (j < 0 ∨ c.slots.size ≤ j.toNatClampNeg) → ∃ b : Addr, c.slots[j.toNatClampNeg]? = some (.ref b) ∧ P b) (hf : ∀ b : Addr, fits ty (.ref b) = true) (hm : c.slots.size < 2 ^ 31) :
    ∃ vs : List Value, Arv Z h a c.cls ty z vs .null ∧ ∀ j : Int32, ¬ j < 0 ∧ j < z → ∃ b : Addr, vs.getD j.toNatClampNeg .null = .ref b ∧ P b := by
  have e : ∀ i, i < c.slots.size → c.slots[i]? = some (c.slots.toList.getD i .null) := by
    intro i hi
    rw [List.getD_eq_getElem?_getD, Array.getElem?_toList, Array.getElem?_eq_getElem hi]; rfl
  refine ⟨c.slots.toList, ⟨c, A, rfl, hs, hz, e, fun i hi => ?_⟩, fun j hj => ?_⟩
  · have q := idx_in hi hm
    have hm' : i < 2 ^ 31 := Nat.lt_trans hi hm
    obtain ⟨b, h1, -⟩ := H i.toInt32 q
    have t : (i.toInt32).toNatClampNeg = i := by
      have z1 := nat_of (fun x => q (Or.inl x))
      have z2 := len_toInt hm'
      omega
    rw [t, e i hi] at h1
    rw [Option.some.inj h1]; exact hf b
  · have q := inb_of hs hj
    obtain ⟨b, h1, h2⟩ := H j q
    rw [e _ (Nat.lt_of_not_le fun x => q (Or.inr x))] at h1
    exact ⟨b, Option.some.inj h1, h2⟩
set_option maxRecDepth 65536 in
set_option maxHeartbeats 40000000 in
theorem rm_init (l : Launch) (Z : State) (a0 : Array Value) (hw : ∀ d ∈ tables_1, d.before a0 Z = true) (o : Addr) (x1 x2 : Int32) (h0 : Heap) (n0 : Nat) (Z0 : n0 ≤ h0.size) (F_o_first : Fld Z h0 o "com/example/libring/libring/slots/SlotRange" "first" "I" (.int 0)) (F_o_last : Fld Z h0 o "com/example/libring/libring/slots/SlotRange" "last" "I" (.int 0)) (E_o : Exa Z h0 o "com/example/libring/libring/slots/SlotRange") (g_o : n0 ≤ o) :
    Met l Z (⟨"com/example/libring/libring/slots/SlotRange", "<init>", "(II)V"⟩ : MethodName) prog_15_method_1_code 3 none { frames := 1, cells := 0, slots := 0, locals := 12 } [] #[(.ref o), (.int x1), (.int x2)] h0 n0 (fun v h => v = none ∧ Keep h0 h [o] ∧ Exa Z h o "com/example/libring/libring/slots/SlotRange" ∧ Fld Z h o "com/example/libring/libring/slots/SlotRange" "first" "I" (.int x1) ∧ Fld Z h o "com/example/libring/libring/slots/SlotRange" "last" "I" (.int x2)) := by
  refine Met.mk (tabs := tables_1) (a0 := a0) (ls0 := #[.val (.ref o), .val (.int x1), .val (.int x2)]) (plainFor_of_name pn_com_example_libring_libring_slots_SlotRange) hw Z0 (fun m => by first | (simp [entryFrame, mkF, argsToLocals, Value.category]; done) | rfl) ?_
  intro p e s m below meth c T C X
  have Kp : Keep h0 h0 [o] := Keep.refl _ _
  refine s_aloadN 1 C X d1_0 rfl rfl ?_
  refine s_objInit 4 C X d1_1 (List.mem_of_getElem? (i := 6) rfl) (List.mem_of_getElem? (i := 7) rfl) (List.mem_of_getElem? (i := 8) rfl) rfl (W := 0) rfl (by decide) (fun T X => ?_)
  refine s_aloadN 5 C X d1_4 rfl rfl ?_
  refine s_iloadN 6 C X d1_5 rfl ?_
  refine s_putfield 9 C X (host := "") d1_6 (Or.inl (List.mem_of_getElem? (i := 9) rfl)) Via.refl F_o_first E_o (Or.inr ⟨(List.mem_of_getElem? (i := 10) rfl), rfl, rfl⟩) (List.mem_of_getElem? (i := 1) rfl) (ty := .int) (by decide) rfl rfl g_o (fun T _ X W => ?_)
  have F_o_first := F_o_first.same W
  have F_o_last := F_o_last.other W (Or.inr (slot_ne (Or.inr (hw _ (List.mem_of_getElem? (i := 12) rfl))) (Or.inr (hw _ (List.mem_of_getElem? (i := 10) rfl))) (by decide) (t := .int) (t' := .int) (by decide) (by decide)))
  have E_o := E_o.wr W
  have Kp := Kp.wr W (Or.inl (by simp))
  refine s_aloadN 10 C X d1_9 rfl rfl ?_
  refine s_iloadN 11 C X d1_10 rfl ?_
  refine s_putfield 14 C X (host := "") d1_11 (Or.inl (List.mem_of_getElem? (i := 11) rfl)) Via.refl F_o_last E_o (Or.inr ⟨(List.mem_of_getElem? (i := 12) rfl), rfl, rfl⟩) (List.mem_of_getElem? (i := 1) rfl) (ty := .int) (by decide) rfl rfl g_o (fun T _ X W => ?_)
  have F_o_first := F_o_first.other W (Or.inr (slot_ne (Or.inr (hw _ (List.mem_of_getElem? (i := 10) rfl))) (Or.inr (hw _ (List.mem_of_getElem? (i := 12) rfl))) (by decide) (t := .int) (t' := .int) (by decide) (by decide)))
  have F_o_last := F_o_last.same W
  have E_o := E_o.wr W
  have Kp := Kp.wr W (Or.inl (by simp))
  refine s_return C X d1_14 rfl ?_
  exact ⟨rfl, Kp, E_o, F_o_first, F_o_last⟩
set_option maxRecDepth 65536 in
set_option maxHeartbeats 40000000 in
theorem rm_eq (l : Launch) (Z : State) (a0 : Array Value) (hw : ∀ d ∈ tables_1, d.before a0 Z = true) (o b : Addr) (x1 x2 y1 y2 : Int32) (h0 : Heap) (n0 : Nat) (Z0 : n0 ≤ h0.size) (F_o_first : Fld Z h0 o "com/example/libring/libring/slots/SlotRange" "first" "I" (.int x1)) (F_o_last : Fld Z h0 o "com/example/libring/libring/slots/SlotRange" "last" "I" (.int x2)) (F_b_first : Fld Z h0 b "com/example/libring/libring/slots/SlotRange" "first" "I" (.int y1)) (F_b_last : Fld Z h0 b "com/example/libring/libring/slots/SlotRange" "last" "I" (.int y2)) (E_b : Exa Z h0 b "com/example/libring/libring/slots/SlotRange") :
    Met l Z (⟨"com/example/libring/libring/slots/SlotRange", "equals", "(Ljava/lang/Object;)Z"⟩ : MethodName) prog_15_method_4_code 3 (some .boolean) { frames := 0, cells := 0, slots := 0, locals := 0 } [] #[(.ref o), (.ref b)] h0 n0 (fun v h => ((v = some (.int 1) ∧ x1.toInt = y1.toInt ∧ x2.toInt = y2.toInt) ∨ (v = some (.int 0) ∧ ¬ (x1.toInt = y1.toInt ∧ x2.toInt = y2.toInt))) ∧ h = h0) := by
  refine Met.mk (tabs := tables_1) (a0 := a0) (ls0 := #[.val (.ref o), .val (.ref b), .unset]) (plainFor_of_name pn_com_example_libring_libring_slots_SlotRange) hw Z0 (fun m => by first | (simp [entryFrame, mkF, argsToLocals, Value.category]; done) | rfl) ?_
  intro p e s m below meth c T C X
  refine s_aloadN 1 C X d3_0 rfl rfl ?_
  refine s_instY 4 C X d3_1 (List.mem_of_getElem? (i := 18) rfl) (Ins.self E_b) (fun T X => ?_)
  refine s_if_ne 9 7 C X d3_4 (fun _ => ?_) (fun c => absurd c (by decide))
  refine s_aloadN 10 C X d3_9 rfl rfl ?_
  refine s_castY 13 C X d3_10 (List.mem_of_getElem? (i := 18) rfl) (Ins.self E_b) (fun T X => ?_)
  refine s_astoreN 14 C X (l' := #[.val (.ref o), .val (.ref b), .val (.ref b)]) d3_13 rfl rfl ?_
  refine s_aloadN 15 C X d3_14 rfl rfl ?_
  refine s_getfield 18 C X (host := "") d3_15 (Or.inl (List.mem_of_getElem? (i := 9) rfl)) Via.refl F_o_first (fun T X => ?_)
  refine s_aloadN 19 C X d3_18 rfl rfl ?_
  refine s_getfield 22 C X (host := "") d3_19 (Or.inl (List.mem_of_getElem? (i := 9) rfl)) Via.refl F_b_first (fun T X => ?_)
  refine s_icmp_ne 40 25 C X d3_22 (fun c22 => ?_) (fun c22 => ?_)
  · have t_c22 : ¬ ((x1).toInt = (y1).toInt) := fun q => c22 (Int32.toInt_inj.mp q)
    refine s_iconst 41 C X d3_40 kc_iconst_0 ?_
    refine s_nreturn C X d3_41 rfl (by simp) rfl ?_
    exact ⟨Or.inr ⟨rfl, by omega⟩, rfl⟩
  have t_c22 : (x1).toInt = (y1).toInt := congrArg Int32.toInt c22
  refine s_aloadN 26 C X d3_25 rfl rfl ?_
  refine s_getfield 29 C X (host := "") d3_26 (Or.inl (List.mem_of_getElem? (i := 11) rfl)) Via.refl F_o_last (fun T X => ?_)
  refine s_aloadN 30 C X d3_29 rfl rfl ?_
  refine s_getfield 33 C X (host := "") d3_30 (Or.inl (List.mem_of_getElem? (i := 11) rfl)) Via.refl F_b_last (fun T X => ?_)
  refine s_icmp_ne 40 36 C X d3_33 (fun c33 => ?_) (fun c33 => ?_)
  · have t_c33 : ¬ ((x2).toInt = (y2).toInt) := fun q => c33 (Int32.toInt_inj.mp q)
    refine s_iconst 41 C X d3_40 kc_iconst_0 ?_
    refine s_nreturn C X d3_41 rfl (by simp) rfl ?_
    exact ⟨Or.inr ⟨rfl, by omega⟩, rfl⟩
  have t_c33 : (x2).toInt = (y2).toInt := congrArg Int32.toInt c33
  refine s_iconst 37 C X d3_36 kc_iconst_1 ?_
  refine s_goto 41 C X d3_37 ?_
  refine s_nreturn C X d3_41 rfl (by simp) rfl ?_
  exact ⟨Or.inl ⟨rfl, by omega⟩, rfl⟩
set_option maxRecDepth 65536 in
set_option maxHeartbeats 40000000 in
theorem rm_eqN (l : Launch) (Z : State) (a0 : Array Value) (hw : ∀ d ∈ tables_1, d.before a0 Z = true) (o : Addr) (h0 : Heap) (n0 : Nat) (Z0 : n0 ≤ h0.size)  :
    Met l Z (⟨"com/example/libring/libring/slots/SlotRange", "equals", "(Ljava/lang/Object;)Z"⟩ : MethodName) prog_15_method_4_code 3 (some .boolean) { frames := 0, cells := 0, slots := 0, locals := 0 } [] #[(.ref o), .null] h0 n0 (fun v h => v = some (.int 0) ∧ h = h0) := by
  refine Met.mk (tabs := tables_1) (a0 := a0) (ls0 := #[.val (.ref o), .val .null, .unset]) (plainFor_of_name pn_com_example_libring_libring_slots_SlotRange) hw Z0 (fun m => by first | (simp [entryFrame, mkF, argsToLocals, Value.category]; done) | rfl) ?_
  intro p e s m below meth c T C X
  refine s_aloadN 1 C X d3_0 rfl rfl ?_
  refine s_instNull 4 C X d3_1 ?_
  refine s_if_ne 9 7 C X d3_4 (fun c => absurd (by decide : (0 : Int32) = (0 : Int32)) c) (fun _ => ?_)
  refine s_iconst 8 C X d3_7 kc_iconst_0 ?_
  refine s_nreturn C X d3_8 rfl (by simp) rfl ?_
  exact ⟨rfl, rfl⟩
set_option maxRecDepth 65536 in
set_option maxHeartbeats 40000000 in
theorem rm_eqI (l : Launch) (Z : State) (a0 : Array Value) (hw : ∀ d ∈ tables_1, d.before a0 Z = true) (o b : Addr) (h0 : Heap) (n0 : Nat) (Z0 : n0 ≤ h0.size) (E_b : Exa Z h0 b "java/lang/Integer") :
    Met l Z (⟨"com/example/libring/libring/slots/SlotRange", "equals", "(Ljava/lang/Object;)Z"⟩ : MethodName) prog_15_method_4_code 3 (some .boolean) { frames := 0, cells := 0, slots := 0, locals := 0 } [] #[(.ref o), (.ref b)] h0 n0 (fun v h => v = some (.int 0) ∧ h = h0) := by
  refine Met.mk (tabs := tables_1) (a0 := a0) (ls0 := #[.val (.ref o), .val (.ref b), .unset]) (plainFor_of_name pn_com_example_libring_libring_slots_SlotRange) hw Z0 (fun m => by first | (simp [entryFrame, mkF, argsToLocals, Value.category]; done) | rfl) ?_
  intro p e s m below meth c T C X
  refine s_aloadN 1 C X d3_0 rfl rfl ?_
  refine s_instN 4 C X d3_1 (List.mem_of_getElem? (i := 18) rfl) E_b (own_no (C.w (List.mem_of_getElem? (i := 27) rfl)) (C.w (List.mem_of_getElem? (i := 28) rfl)) (C.w (List.mem_of_getElem? (i := 29) rfl)) (C.w (List.mem_of_getElem? (i := 1) rfl))) (fun T X => ?_)
  refine s_if_ne 9 7 C X d3_4 (fun c => absurd (by decide : (0 : Int32) = (0 : Int32)) c) (fun _ => ?_)
  refine s_iconst 8 C X d3_7 kc_iconst_0 ?_
  refine s_nreturn C X d3_8 rfl (by simp) rfl ?_
  exact ⟨rfl, rfl⟩
set_option maxRecDepth 65536 in
set_option maxHeartbeats 40000000 in
theorem rm_num (l : Launch) (Z : State) (a0 : Array Value) (hw : ∀ d ∈ tables_1, d.before a0 Z = true) (o : Addr) (h0 : Heap) (n0 : Nat) (Z0 : n0 ≤ h0.size)  :
    Met l Z (⟨"java/lang/Number", "<init>", "()V"⟩ : MethodName) jdk_18_method_1_code 1 none { frames := 1, cells := 0, slots := 0, locals := 12 } [] #[(.ref o)] h0 n0 (fun v h => v = none ∧ h = h0) := by
  refine Met.mk (tabs := tables_1) (a0 := a0) (ls0 := #[.val (.ref o)]) (plainFor_of_name pn_java_lang_Number) hw Z0 (fun m => by first | (simp [entryFrame, mkF, argsToLocals, Value.category]; done) | rfl) ?_
  intro p e s m below meth c T C X
  refine s_aloadN 1 C X d6_0 rfl rfl ?_
  refine s_objInit 4 C X d6_1 (List.mem_of_getElem? (i := 42) rfl) (List.mem_of_getElem? (i := 7) rfl) (List.mem_of_getElem? (i := 8) rfl) rfl (W := 0) rfl (by decide) (fun T X => ?_)
  refine s_return C X d6_4 rfl ?_
  exact ⟨rfl, rfl⟩
set_option maxRecDepth 65536 in
set_option maxHeartbeats 40000000 in
theorem rm_int (l : Launch) (Z : State) (a0 : Array Value) (hw : ∀ d ∈ tables_1, d.before a0 Z = true) (o : Addr) (x : Int32) (h0 : Heap) (n0 : Nat) (Z0 : n0 ≤ h0.size) (F_o_value : Fld Z h0 o "java/lang/Integer" "value" "I" (.int 0)) (E_o : Exa Z h0 o "java/lang/Integer") (g_o : n0 ≤ o) :
    Met l Z (⟨"java/lang/Integer", "<init>", "(I)V"⟩ : MethodName) jdk_33_method_23_code 2 none { frames := 2, cells := 0, slots := 0, locals := 24 } [] #[(.ref o), (.int x)] h0 n0 (fun v h => v = none ∧ Keep h0 h [o] ∧ Exa Z h o "java/lang/Integer") := by
  refine Met.mk (tabs := tables_1) (a0 := a0) (ls0 := #[.val (.ref o), .val (.int x)]) (plainFor_of_name pn_java_lang_Integer) hw Z0 (fun m => by first | (simp [entryFrame, mkF, argsToLocals, Value.category]; done) | rfl) ?_
  intro p e s m below meth c T C X
  have Kp : Keep h0 h0 [o] := Keep.refl _ _
  refine s_aloadN 1 C X d5_0 rfl rfl ?_
  refine s_callC 4 [] [] 0 C X d5_1 rfl (List.mem_of_getElem? (i := 36) rfl) (List.mem_of_getElem? (i := 37) rfl) (List.mem_of_getElem? (i := 40) rfl) (List.mem_of_getElem? (i := 41) rfl) (rm_num l Z a0 hw o _ n0 X.sz) (lenOf pd___V rfl) rfl rfl rfl (fun T v h0 X q => ?_)
  obtain ⟨rfl, hE⟩ := q
  rw [hE] at X
  refine Run.cast (st' := []) rfl ?_
  refine s_aloadN 5 C X d5_4 rfl rfl ?_
  refine s_iloadN 6 C X d5_5 rfl ?_
  refine s_putfield 9 C X (host := "") d5_6 (Or.inl (List.mem_of_getElem? (i := 43) rfl)) Via.refl F_o_value E_o (Or.inr ⟨(List.mem_of_getElem? (i := 44) rfl), rfl, rfl⟩) (List.mem_of_getElem? (i := 31) rfl) (ty := .int) (by decide) rfl rfl g_o (fun T _ X W => ?_)
  have F_o_value := F_o_value.same W
  have E_o := E_o.wr W
  have Kp := Kp.wr W (Or.inl (by simp))
  refine s_return C X d5_9 rfl ?_
  exact ⟨rfl, Kp, E_o⟩
set_option maxRecDepth 65536 in
set_option maxHeartbeats 40000000 in
theorem rm_val (l : Launch) (Z : State) (a0 : Array Value) (hw : ∀ d ∈ tables_1, d.before a0 Z = true) (x : Int32) (ac : Addr) (k_ac : ClassId) (vsC : List Value) (h0 : Heap) (n0 : Nat) (Z0 : n0 ≤ h0.size) (Od : Old Z n0 h0) (S_high : Sta Z Z.heap "java/lang/Integer$IntegerCache" "high" "I" (.int 127)) (S_cache : Sta Z Z.heap "java/lang/Integer$IntegerCache" "cache" "[Ljava/lang/Integer;" (.ref ac)) (A_ac : Arv Z h0 ac k_ac (.object "java/lang/Integer") 256 vsC .null) (HC : ∀ j : Int32, ¬ j < 0 ∧ j < 256 → ∃ y : Addr, vsC.getD j.toNatClampNeg .null = .ref y ∧ Exa Z Z.heap y "java/lang/Integer") :
    Met l Z (⟨"java/lang/Integer", "valueOf", "(I)Ljava/lang/Integer;"⟩ : MethodName) jdk_33_method_22_code 1 (some (.object "java/lang/Integer")) { frames := 3, cells := 1, slots := 1, locals := 38 } [] #[(.int x)] h0 n0 (fun v h => ∃ y, v = some (.ref y) ∧ Keep h0 h [] ∧ Exa Z h y "java/lang/Integer") := by
  refine Met.mk (tabs := tables_1) (a0 := a0) (ls0 := #[.val (.int x)]) (plainFor_of_name pn_java_lang_Integer) hw Z0 (fun m => by first | (simp [entryFrame, mkF, argsToLocals, Value.category]; done) | rfl) ?_
  intro p e s m below meth c T C X
  have Kp : Keep h0 h0 [] := Keep.refl _ _
  refine s_iloadN 1 C X d4_0 rfl ?_
  refine s_bipush 3 C X d4_1 kc_bipush_m128 ?_
  refine s_icmp_lt 23 6 C X d4_3 (fun c3 => ?_) (fun c3 => ?_)
  · have t_c3 : (x).toInt < (-128 : Int) := Int32.lt_iff_toInt_lt.mp c3
    refine s_new 26 C X d4_23 (List.mem_of_getElem? (i := 30) rfl) (List.mem_of_getElem? (i := 31) rfl) (List.mem_of_getElem? (i := 22) rfl) (fun T _ o1 hb_o1 X E E_o1 D g_o1 => ?_)
    have ne_ac_o1 : ac ≠ o1 := Nat.ne_of_lt (Nat.lt_of_lt_of_le A_ac.lt (Nat.le_of_eq hb_o1))
    have sz_o1 := Nat.le_trans Kp.1 (Nat.le_of_eq hb_o1)
    have Od := Od.ext E
    have A_ac := A_ac.ext E
    have Kp := Kp.ext E
    have F_o1_value : Fld Z _ o1 "java/lang/Integer" "value" "I" (.int (0 : Int32)) := D (Or.inr (hw _ (List.mem_of_getElem? (i := 44) rfl))) (ty := .int) (by decide)
    refine s_dup 27 C X d4_26 rfl ?_
    refine s_iloadN 28 C X d4_27 rfl ?_
    refine s_callC 31 [(.int x)] [(.ref o1)] 1 C X d4_28 rfl (List.mem_of_getElem? (i := 32) rfl) (List.mem_of_getElem? (i := 33) rfl) (List.mem_of_getElem? (i := 22) rfl) (List.mem_of_getElem? (i := 35) rfl) (rm_int l Z a0 hw o1 x _ n0 X.sz F_o1_value E_o1 g_o1) (lenOf pd__I_V rfl) rfl rfl rfl (fun T v h1 X q => ?_)
    obtain ⟨rfl, Kc, _⟩ := q
    have Od := Od.keep Kc (allS g_o1 all0)
    have Kp := Kp.trans Kc (allS (Or.inr sz_o1) all0)
    have E_o1 := E_o1.keep Kc
    refine Run.cast (st' := [(.ref o1)]) rfl ?_
    refine s_areturn C X d4_31 rfl rfl rfl ?_
    exact ⟨_, rfl, Kp, E_o1⟩
  have t_c3 : ¬ ((x).toInt < (-128 : Int)) := fun q => c3 (Int32.lt_iff_toInt_lt.mpr q)
  refine s_iloadN 7 C X d4_6 rfl ?_
  refine s_getstatic 10 C X (host := "") d4_7 (Or.inl (List.mem_of_getElem? (i := 24) rfl)) Via.refl (S_high.ext Od.2) (fun T X => ?_)
  refine s_icmp_gt 23 13 C X d4_10 (fun c10 => ?_) (fun c10 => ?_)
  · have t_c10 : (127 : Int) < (x).toInt := Int32.lt_iff_toInt_lt.mp c10
    refine s_new 26 C X d4_23 (List.mem_of_getElem? (i := 30) rfl) (List.mem_of_getElem? (i := 31) rfl) (List.mem_of_getElem? (i := 22) rfl) (fun T _ o3 hb_o3 X E E_o3 D g_o3 => ?_)
    have ne_ac_o3 : ac ≠ o3 := Nat.ne_of_lt (Nat.lt_of_lt_of_le A_ac.lt (Nat.le_of_eq hb_o3))
    have sz_o3 := Nat.le_trans Kp.1 (Nat.le_of_eq hb_o3)
    have Od := Od.ext E
    have A_ac := A_ac.ext E
    have Kp := Kp.ext E
    have F_o3_value : Fld Z _ o3 "java/lang/Integer" "value" "I" (.int (0 : Int32)) := D (Or.inr (hw _ (List.mem_of_getElem? (i := 44) rfl))) (ty := .int) (by decide)
    refine s_dup 27 C X d4_26 rfl ?_
    refine s_iloadN 28 C X d4_27 rfl ?_
    refine s_callC 31 [(.int x)] [(.ref o3)] 1 C X d4_28 rfl (List.mem_of_getElem? (i := 32) rfl) (List.mem_of_getElem? (i := 33) rfl) (List.mem_of_getElem? (i := 22) rfl) (List.mem_of_getElem? (i := 35) rfl) (rm_int l Z a0 hw o3 x _ n0 X.sz F_o3_value E_o3 g_o3) (lenOf pd__I_V rfl) rfl rfl rfl (fun T v h3 X q => ?_)
    obtain ⟨rfl, Kc, _⟩ := q
    have Od := Od.keep Kc (allS g_o3 all0)
    have Kp := Kp.trans Kc (allS (Or.inr sz_o3) all0)
    have E_o3 := E_o3.keep Kc
    refine Run.cast (st' := [(.ref o3)]) rfl ?_
    refine s_areturn C X d4_31 rfl rfl rfl ?_
    exact ⟨_, rfl, Kp, E_o3⟩
  have t_c10 : ¬ ((127 : Int) < (x).toInt) := fun q => c10 (Int32.lt_iff_toInt_lt.mpr q)
  refine s_getstatic 16 C X (host := "") d4_13 (Or.inl (List.mem_of_getElem? (i := 26) rfl)) Via.refl (S_cache.ext Od.2) (fun T X => ?_)
  refine s_iloadN 17 C X d4_16 rfl ?_
  refine s_sipush 20 C X d4_17 kc_sipush_128 ?_
  refine s_iadd 21 C X d4_20 ?_
  obtain ⟨y, hy1, hy2⟩ := HC _ (own_i128 t_c3 t_c10)
  have E_y := hy2.ext Od.2
  refine s_aaload 22 C X d4_21 A_ac rfl (own_i128 t_c3 t_c10) (v := (.ref y)) hy1 ?_
  refine s_areturn C X d4_22 rfl rfl rfl ?_
  exact ⟨_, rfl, Kp, E_y⟩
set_option maxRecDepth 65536 in
set_option maxHeartbeats 40000000 in
theorem rm0 (l : Launch) (Z : State) (a0 : Array Value) (hw : ∀ d ∈ tables_1, d.before a0 Z = true) (x0 x1 x2 x3 x4 : Int32) (ac : Addr) (k_ac : ClassId) (vsC : List Value) (h0 : Heap) (n0 : Nat) (Z0 : n0 ≤ h0.size) (Od : Old Z n0 h0) (S_high : Sta Z Z.heap "java/lang/Integer$IntegerCache" "high" "I" (.int 127)) (S_cache : Sta Z Z.heap "java/lang/Integer$IntegerCache" "cache" "[Ljava/lang/Integer;" (.ref ac)) (A_ac : Arv Z h0 ac k_ac (.object "java/lang/Integer") 256 vsC .null) (HC : ∀ j : Int32, ¬ j < 0 ∧ j < 256 → ∃ y : Addr, vsC.getD j.toNatClampNeg .null = .ref y ∧ Exa Z Z.heap y "java/lang/Integer") :
    Met l Z x code maxLocals ret room_1 tables_1 #[(.int x0), (.int x1), (.int x2), (.int x3), (.int x4)] h0 n0 (fun v h => v = some (.int 1)) := by
  refine Met.mk (tabs := tables_1) (a0 := a0) (ls0 := #[.val (.int x0), .val (.int x1), .val (.int x2), .val (.int x3), .val (.int x4), .unset, .unset, .unset, .unset, .unset, .unset]) (plainFor_of_name pn_com_example_libring_libring_slots_SlotRangeEqualsPinLaw) hw Z0 (fun m => by first | (simp [entryFrame, mkF, argsToLocals, Value.category, maxLocals]; done) | rfl) ?_
  intro p e s m below meth c T C X
  refine s_iload 2 C X at_0 rfl ?_
  refine s_iconst 3 C X at_2 kc_iconst_4 ?_
  refine s_iand 4 C X at_3 ?_
  refine s_if_eq 11 7 C X at_4 (fun c4 => ?_) (fun c4 => ?_)
  · have t_c4 : ((x4 &&& (4 : Int32))).toInt = (0 : Int) := congrArg Int32.toInt c4
    refine s_iloadN 12 C X at_11 rfl ?_
    refine s_istore 14 C X (l' := #[.val (.int x0), .val (.int x1), .val (.int x2), .val (.int x3), .val (.int x4), .val (.int x2), .unset, .unset, .unset, .unset, .unset]) at_12 rfl ?_
    refine s_iload 16 C X at_14 rfl ?_
    refine s_bipush 18 C X at_16 kc_bipush_8 ?_
    refine s_iand 19 C X at_18 ?_
    refine s_if_eq 26 22 C X at_19 (fun c19 => ?_) (fun c19 => ?_)
    · have t_c19 : ((x4 &&& (8 : Int32))).toInt = (0 : Int) := congrArg Int32.toInt c19
      refine s_iloadN 27 C X at_26 rfl ?_
      refine s_istore 29 C X (l' := #[.val (.int x0), .val (.int x1), .val (.int x2), .val (.int x3), .val (.int x4), .val (.int x2), .val (.int x3), .unset, .unset, .unset, .unset]) at_27 rfl ?_
      refine s_new 32 C X at_29 (List.mem_of_getElem? (i := 0) rfl) (List.mem_of_getElem? (i := 1) rfl) (List.mem_of_getElem? (i := 2) rfl) (fun T _ o1 hb_o1 X E E_o1 D g_o1 => ?_)
      have ne_ac_o1 : ac ≠ o1 := Nat.ne_of_lt (Nat.lt_of_lt_of_le A_ac.lt (Nat.le_of_eq hb_o1))
      have Od := Od.ext E
      have A_ac := A_ac.ext E
      have F_o1_first : Fld Z _ o1 "com/example/libring/libring/slots/SlotRange" "first" "I" (.int (0 : Int32)) := D (Or.inr (hw _ (List.mem_of_getElem? (i := 10) rfl))) (ty := .int) (by decide)
      have F_o1_last : Fld Z _ o1 "com/example/libring/libring/slots/SlotRange" "last" "I" (.int (0 : Int32)) := D (Or.inr (hw _ (List.mem_of_getElem? (i := 12) rfl))) (ty := .int) (by decide)
      refine s_dup 33 C X at_32 rfl ?_
      refine s_iloadN 34 C X at_33 rfl ?_
      refine s_iloadN 35 C X at_34 rfl ?_
      refine s_callC 38 [(.int x0), (.int x1)] [(.ref o1)] 1 C X at_35 rfl (List.mem_of_getElem? (i := 3) rfl) (List.mem_of_getElem? (i := 4) rfl) (List.mem_of_getElem? (i := 2) rfl) (List.mem_of_getElem? (i := 5) rfl) (rm_init l Z a0 hw o1 x0 x1 _ n0 X.sz F_o1_first F_o1_last E_o1 g_o1) (lenOf pd__II_V rfl) rfl rfl rfl (fun T v h1 X q => ?_)
      obtain ⟨rfl, Kc, _, F_o1_first, F_o1_last⟩ := q
      have Od := Od.keep Kc (allS g_o1 all0)
      have A_ac := A_ac.keep Kc (ninS ne_ac_o1 nin0)
      have E_o1 := E_o1.keep Kc
      refine Run.cast (st' := [(.ref o1)]) rfl ?_
      refine s_astore 40 C X (l' := #[.val (.int x0), .val (.int x1), .val (.int x2), .val (.int x3), .val (.int x4), .val (.int x2), .val (.int x3), .val (.ref o1), .unset, .unset, .unset]) at_38 rfl rfl ?_
      refine s_new 43 C X at_40 (List.mem_of_getElem? (i := 0) rfl) (List.mem_of_getElem? (i := 1) rfl) (List.mem_of_getElem? (i := 2) rfl) (fun T _ o3 hb_o3 X E E_o3 D g_o3 => ?_)
      have ne_ac_o3 : ac ≠ o3 := Nat.ne_of_lt (Nat.lt_of_lt_of_le A_ac.lt (Nat.le_of_eq hb_o3))
      have ne_o1_o3 : o1 ≠ o3 := Nat.ne_of_lt (Nat.lt_of_lt_of_le E_o1.lt (Nat.le_of_eq hb_o3))
      have Od := Od.ext E
      have A_ac := A_ac.ext E
      have E_o1 := E_o1.ext E
      have F_o1_first := F_o1_first.ext E
      have F_o1_last := F_o1_last.ext E
      have F_o3_first : Fld Z _ o3 "com/example/libring/libring/slots/SlotRange" "first" "I" (.int (0 : Int32)) := D (Or.inr (hw _ (List.mem_of_getElem? (i := 10) rfl))) (ty := .int) (by decide)
      have F_o3_last : Fld Z _ o3 "com/example/libring/libring/slots/SlotRange" "last" "I" (.int (0 : Int32)) := D (Or.inr (hw _ (List.mem_of_getElem? (i := 12) rfl))) (ty := .int) (by decide)
      refine s_dup 44 C X at_43 rfl ?_
      refine s_iload 46 C X at_44 rfl ?_
      refine s_iload 48 C X at_46 rfl ?_
      refine s_callC 51 [(.int x2), (.int x3)] [(.ref o3)] 1 C X at_48 rfl (List.mem_of_getElem? (i := 3) rfl) (List.mem_of_getElem? (i := 4) rfl) (List.mem_of_getElem? (i := 2) rfl) (List.mem_of_getElem? (i := 5) rfl) (rm_init l Z a0 hw o3 x2 x3 _ n0 X.sz F_o3_first F_o3_last E_o3 g_o3) (lenOf pd__II_V rfl) rfl rfl rfl (fun T v h3 X q => ?_)
      obtain ⟨rfl, Kc, _, F_o3_first, F_o3_last⟩ := q
      have Od := Od.keep Kc (allS g_o3 all0)
      have A_ac := A_ac.keep Kc (ninS ne_ac_o3 nin0)
      have E_o1 := E_o1.keep Kc
      have F_o1_first := F_o1_first.keep Kc (ninS ne_o1_o3 nin0)
      have F_o1_last := F_o1_last.keep Kc (ninS ne_o1_o3 nin0)
      have E_o3 := E_o3.keep Kc
      refine Run.cast (st' := [(.ref o3)]) rfl ?_
      refine s_astore 53 C X (l' := #[.val (.int x0), .val (.int x1), .val (.int x2), .val (.int x3), .val (.int x4), .val (.int x2), .val (.int x3), .val (.ref o1), .val (.ref o3), .unset, .unset]) at_51 rfl rfl ?_
      refine s_iload 55 C X at_53 rfl ?_
      refine s_iconst 56 C X at_55 kc_iconst_3 ?_
      refine s_iand 57 C X at_56 ?_
      obtain ⟨mode, e_mode⟩ : ∃ zz_ : Int32, zz_ = (x4 &&& (3 : Int32)) := ⟨_, rfl⟩
      refine Run.cast (st' := [(.int mode)]) (by subst e_mode; rfl) ?_
      refine s_istore 59 C X (l' := #[.val (.int x0), .val (.int x1), .val (.int x2), .val (.int x3), .val (.int x4), .val (.int x2), .val (.int x3), .val (.ref o1), .val (.ref o3), .val (.int mode), .unset]) at_57 rfl ?_
      refine s_iload 61 C X at_59 rfl ?_
      refine s_if_ne 113 64 C X at_61 (fun c61 => ?_) (fun c61 => ?_)
      · have t_c61 : ¬ ((mode).toInt = (0 : Int)) := fun q => c61 (Int32.toInt_inj.mp q)
        refine s_iload 115 C X at_113 rfl ?_
        refine s_iconst 116 C X at_115 kc_iconst_1 ?_
        refine s_icmp_ne 134 119 C X at_116 (fun c116 => ?_) (fun c116 => ?_)
        · have t_c116 : ¬ ((mode).toInt = (1 : Int)) := fun q => c116 (Int32.toInt_inj.mp q)
          refine s_iload 136 C X at_134 rfl ?_
          refine s_iconst 137 C X at_136 kc_iconst_2 ?_
          refine s_icmp_ne 158 140 C X at_137 (fun c137 => ?_) (fun c137 => ?_)
          · have t_c137 : ¬ ((mode).toInt = (2 : Int)) := fun q => c137 (Int32.toInt_inj.mp q)
            refine s_aload 160 C X at_158 rfl rfl ?_
            refine s_aload 162 C X at_160 rfl rfl ?_
            refine s_callV 165 [(.ref o1)] [] 0 C X at_162 (List.mem_of_getElem? (i := 13) rfl) (List.mem_of_getElem? (i := 14) rfl) (notFace_of_selects (args := #[]) (mvT C.2.1 (C.w (List.mem_of_getElem? (i := 16) rfl)))) (List.mem_of_getElem? (i := 16) rfl) (List.mem_of_getElem? (i := 15) rfl) (List.mem_of_getElem? (i := 2) rfl) (List.mem_of_getElem? (i := 17) rfl) E_o1 (rm_eq l Z a0 hw o1 o1 x0 x1 x0 x1 _ n0 X.sz F_o1_first F_o1_last F_o1_first F_o1_last E_o1) (lenOf pd__Ljava_lang_Object__Z rfl) rfl rfl rfl (fun T v h4 X q => ?_)
            obtain ⟨⟨rfl, b162⟩ | ⟨rfl, b162⟩, hE⟩ := q
            · rw [hE] at X
              refine Run.cast (st' := [(.int (1 : Int32))]) rfl ?_
              refine s_nreturn C X at_165 rfl (by simp) rfl ?_
              rfl
            · rw [hE] at X
              refine Run.cast (st' := [(.int (0 : Int32))]) rfl ?_
              refine s_nreturn C X at_165 rfl (by simp) rfl ?_
              exfalso
              omega
          have t_c137 : (mode).toInt = (2 : Int) := congrArg Int32.toInt c137
          refine s_aload 142 C X at_140 rfl rfl ?_
          refine s_iloadN 143 C X at_142 rfl ?_
          refine s_callS 146 [(.int x0)] [(.ref o1)] 1 C X at_143 (List.mem_of_getElem? (i := 20) rfl) (List.mem_of_getElem? (i := 21) rfl) (List.mem_of_getElem? (i := 22) rfl) (List.mem_of_getElem? (i := 23) rfl) (rm_val l Z a0 hw x0 ac k_ac vsC _ n0 X.sz Od S_high S_cache A_ac HC) (lenOf pd__I_Ljava_lang_Integer_ rfl) rfl rfl rfl (fun T v h5 X q => ?_)
          obtain ⟨y, rfl, Kc, E_y⟩ := q
          have Od := Od.keep Kc all0
          have A_ac := A_ac.keep Kc nin0
          have E_o1 := E_o1.keep Kc
          have F_o1_first := F_o1_first.keep Kc nin0
          have F_o1_last := F_o1_last.keep Kc nin0
          have E_o3 := E_o3.keep Kc
          have F_o3_first := F_o3_first.keep Kc nin0
          have F_o3_last := F_o3_last.keep Kc nin0
          refine Run.cast (st' := [(.ref y), (.ref o1)]) rfl ?_
          refine s_callV 149 [(.ref y)] [] 0 C X at_146 (List.mem_of_getElem? (i := 13) rfl) (List.mem_of_getElem? (i := 14) rfl) (notFace_of_selects (args := #[]) (mvT C.2.1 (C.w (List.mem_of_getElem? (i := 16) rfl)))) (List.mem_of_getElem? (i := 16) rfl) (List.mem_of_getElem? (i := 15) rfl) (List.mem_of_getElem? (i := 2) rfl) (List.mem_of_getElem? (i := 17) rfl) E_o1 (rm_eqI l Z a0 hw o1 y _ n0 X.sz E_y) (lenOf pd__Ljava_lang_Object__Z rfl) rfl rfl rfl (fun T v h6 X q => ?_)
          obtain ⟨rfl, hE⟩ := q
          rw [hE] at X
          refine Run.cast (st' := [(.int (0 : Int32))]) rfl ?_
          refine s_if_ne 156 152 C X at_149 (fun c => absurd (by decide : (0 : Int32) = (0 : Int32)) c) (fun _ => ?_)
          refine s_iconst 153 C X at_152 kc_iconst_1 ?_
          refine s_goto 157 C X at_153 ?_
          refine s_nreturn C X at_157 rfl (by simp) rfl ?_
          rfl
        have t_c116 : (mode).toInt = (1 : Int) := congrArg Int32.toInt c116
        refine s_aload 121 C X at_119 rfl rfl ?_
        refine s_aconstNull 122 C X at_121 ?_
        refine s_callV 125 [.null] [] 0 C X at_122 (List.mem_of_getElem? (i := 13) rfl) (List.mem_of_getElem? (i := 14) rfl) (notFace_of_selects (args := #[]) (mvT C.2.1 (C.w (List.mem_of_getElem? (i := 16) rfl)))) (List.mem_of_getElem? (i := 16) rfl) (List.mem_of_getElem? (i := 15) rfl) (List.mem_of_getElem? (i := 2) rfl) (List.mem_of_getElem? (i := 17) rfl) E_o1 (rm_eqN l Z a0 hw o1 _ n0 X.sz) (lenOf pd__Ljava_lang_Object__Z rfl) rfl rfl rfl (fun T v h7 X q => ?_)
        obtain ⟨rfl, hE⟩ := q
        rw [hE] at X
        refine Run.cast (st' := [(.int (0 : Int32))]) rfl ?_
        refine s_if_ne 132 128 C X at_125 (fun c => absurd (by decide : (0 : Int32) = (0 : Int32)) c) (fun _ => ?_)
        refine s_iconst 129 C X at_128 kc_iconst_1 ?_
        refine s_goto 133 C X at_129 ?_
        refine s_nreturn C X at_133 rfl (by simp) rfl ?_
        rfl
      have t_c61 : (mode).toInt = (0 : Int) := congrArg Int32.toInt c61
      refine s_iloadN 65 C X at_64 rfl ?_
      refine s_iload 67 C X at_65 rfl ?_
      refine s_icmp_ne 80 70 C X at_67 (fun c67 => ?_) (fun c67 => ?_)
      · have t_c67 : ¬ ((x0).toInt = (x2).toInt) := fun q => c67 (Int32.toInt_inj.mp q)
        refine s_iconst 81 C X at_80 kc_iconst_0 ?_
        refine s_istore 83 C X (l' := #[.val (.int x0), .val (.int x1), .val (.int x2), .val (.int x3), .val (.int x4), .val (.int x2), .val (.int x3), .val (.ref o1), .val (.ref o3), .val (.int mode), .val (.int (0 : Int32))]) at_81 rfl ?_
        refine s_aload 85 C X at_83 rfl rfl ?_
        refine s_aload 87 C X at_85 rfl rfl ?_
        refine s_callV 90 [(.ref o3)] [] 0 C X at_87 (List.mem_of_getElem? (i := 13) rfl) (List.mem_of_getElem? (i := 14) rfl) (notFace_of_selects (args := #[]) (mvT C.2.1 (C.w (List.mem_of_getElem? (i := 16) rfl)))) (List.mem_of_getElem? (i := 16) rfl) (List.mem_of_getElem? (i := 15) rfl) (List.mem_of_getElem? (i := 2) rfl) (List.mem_of_getElem? (i := 17) rfl) E_o1 (rm_eq l Z a0 hw o1 o3 x0 x1 x2 x3 _ n0 X.sz F_o1_first F_o1_last F_o3_first F_o3_last E_o3) (lenOf pd__Ljava_lang_Object__Z rfl) rfl rfl rfl (fun T v h8 X q => ?_)
        obtain ⟨⟨rfl, b87⟩ | ⟨rfl, b87⟩, hE⟩ := q
        · rw [hE] at X
          refine Run.cast (st' := [(.int (1 : Int32))]) rfl ?_
          refine s_iload 92 C X at_90 rfl ?_
          refine s_icmp_ne 111 95 C X at_92 (fun _ => ?_) (fun c => absurd c (by decide))
          refine s_iconst 112 C X at_111 kc_iconst_0 ?_
          refine s_nreturn C X at_112 rfl (by simp) rfl ?_
          exfalso
          omega
        · rw [hE] at X
          refine Run.cast (st' := [(.int (0 : Int32))]) rfl ?_
          refine s_iload 92 C X at_90 rfl ?_
          refine s_icmp_ne 111 95 C X at_92 (fun c => absurd (by decide : (0 : Int32) = (0 : Int32)) c) (fun _ => ?_)
          refine s_aload 97 C X at_95 rfl rfl ?_
          refine s_aload 99 C X at_97 rfl rfl ?_
          refine s_callV 102 [(.ref o1)] [] 0 C X at_99 (List.mem_of_getElem? (i := 13) rfl) (List.mem_of_getElem? (i := 14) rfl) (notFace_of_selects (args := #[]) (mvT C.2.1 (C.w (List.mem_of_getElem? (i := 16) rfl)))) (List.mem_of_getElem? (i := 16) rfl) (List.mem_of_getElem? (i := 15) rfl) (List.mem_of_getElem? (i := 2) rfl) (List.mem_of_getElem? (i := 17) rfl) E_o3 (rm_eq l Z a0 hw o3 o1 x2 x3 x0 x1 _ n0 X.sz F_o3_first F_o3_last F_o1_first F_o1_last E_o1) (lenOf pd__Ljava_lang_Object__Z rfl) rfl rfl rfl (fun T v h9 X q => ?_)
          obtain ⟨⟨rfl, b99⟩ | ⟨rfl, b99⟩, hE⟩ := q
          · rw [hE] at X
            refine Run.cast (st' := [(.int (1 : Int32))]) rfl ?_
            refine s_iload 104 C X at_102 rfl ?_
            refine s_icmp_ne 111 107 C X at_104 (fun _ => ?_) (fun c => absurd c (by decide))
            refine s_iconst 112 C X at_111 kc_iconst_0 ?_
            refine s_nreturn C X at_112 rfl (by simp) rfl ?_
            exfalso
            omega
          · rw [hE] at X
            refine Run.cast (st' := [(.int (0 : Int32))]) rfl ?_
            refine s_iload 104 C X at_102 rfl ?_
            refine s_icmp_ne 111 107 C X at_104 (fun c => absurd (by decide : (0 : Int32) = (0 : Int32)) c) (fun _ => ?_)
            refine s_iconst 108 C X at_107 kc_iconst_1 ?_
            refine s_goto 112 C X at_108 ?_
            refine s_nreturn C X at_112 rfl (by simp) rfl ?_
            rfl
      have t_c67 : (x0).toInt = (x2).toInt := congrArg Int32.toInt c67
      refine s_iloadN 71 C X at_70 rfl ?_
      refine s_iload 73 C X at_71 rfl ?_
      refine s_icmp_ne 80 76 C X at_73 (fun c73 => ?_) (fun c73 => ?_)
      · have t_c73 : ¬ ((x1).toInt = (x3).toInt) := fun q => c73 (Int32.toInt_inj.mp q)
        refine s_iconst 81 C X at_80 kc_iconst_0 ?_
        refine s_istore 83 C X (l' := #[.val (.int x0), .val (.int x1), .val (.int x2), .val (.int x3), .val (.int x4), .val (.int x2), .val (.int x3), .val (.ref o1), .val (.ref o3), .val (.int mode), .val (.int (0 : Int32))]) at_81 rfl ?_
        refine s_aload 85 C X at_83 rfl rfl ?_
        refine s_aload 87 C X at_85 rfl rfl ?_
        refine s_callV 90 [(.ref o3)] [] 0 C X at_87 (List.mem_of_getElem? (i := 13) rfl) (List.mem_of_getElem? (i := 14) rfl) (notFace_of_selects (args := #[]) (mvT C.2.1 (C.w (List.mem_of_getElem? (i := 16) rfl)))) (List.mem_of_getElem? (i := 16) rfl) (List.mem_of_getElem? (i := 15) rfl) (List.mem_of_getElem? (i := 2) rfl) (List.mem_of_getElem? (i := 17) rfl) E_o1 (rm_eq l Z a0 hw o1 o3 x0 x1 x2 x3 _ n0 X.sz F_o1_first F_o1_last F_o3_first F_o3_last E_o3) (lenOf pd__Ljava_lang_Object__Z rfl) rfl rfl rfl (fun T v h10 X q => ?_)
        obtain ⟨⟨rfl, b87⟩ | ⟨rfl, b87⟩, hE⟩ := q
        · rw [hE] at X
          refine Run.cast (st' := [(.int (1 : Int32))]) rfl ?_
          refine s_iload 92 C X at_90 rfl ?_
          refine s_icmp_ne 111 95 C X at_92 (fun _ => ?_) (fun c => absurd c (by decide))
          refine s_iconst 112 C X at_111 kc_iconst_0 ?_
          refine s_nreturn C X at_112 rfl (by simp) rfl ?_
          exfalso
          omega
        · rw [hE] at X
          refine Run.cast (st' := [(.int (0 : Int32))]) rfl ?_
          refine s_iload 92 C X at_90 rfl ?_
          refine s_icmp_ne 111 95 C X at_92 (fun c => absurd (by decide : (0 : Int32) = (0 : Int32)) c) (fun _ => ?_)
          refine s_aload 97 C X at_95 rfl rfl ?_
          refine s_aload 99 C X at_97 rfl rfl ?_
          refine s_callV 102 [(.ref o1)] [] 0 C X at_99 (List.mem_of_getElem? (i := 13) rfl) (List.mem_of_getElem? (i := 14) rfl) (notFace_of_selects (args := #[]) (mvT C.2.1 (C.w (List.mem_of_getElem? (i := 16) rfl)))) (List.mem_of_getElem? (i := 16) rfl) (List.mem_of_getElem? (i := 15) rfl) (List.mem_of_getElem? (i := 2) rfl) (List.mem_of_getElem? (i := 17) rfl) E_o3 (rm_eq l Z a0 hw o3 o1 x2 x3 x0 x1 _ n0 X.sz F_o3_first F_o3_last F_o1_first F_o1_last E_o1) (lenOf pd__Ljava_lang_Object__Z rfl) rfl rfl rfl (fun T v h11 X q => ?_)
          obtain ⟨⟨rfl, b99⟩ | ⟨rfl, b99⟩, hE⟩ := q
          · rw [hE] at X
            refine Run.cast (st' := [(.int (1 : Int32))]) rfl ?_
            refine s_iload 104 C X at_102 rfl ?_
            refine s_icmp_ne 111 107 C X at_104 (fun _ => ?_) (fun c => absurd c (by decide))
            refine s_iconst 112 C X at_111 kc_iconst_0 ?_
            refine s_nreturn C X at_112 rfl (by simp) rfl ?_
            exfalso
            omega
          · rw [hE] at X
            refine Run.cast (st' := [(.int (0 : Int32))]) rfl ?_
            refine s_iload 104 C X at_102 rfl ?_
            refine s_icmp_ne 111 107 C X at_104 (fun c => absurd (by decide : (0 : Int32) = (0 : Int32)) c) (fun _ => ?_)
            refine s_iconst 108 C X at_107 kc_iconst_1 ?_
            refine s_goto 112 C X at_108 ?_
            refine s_nreturn C X at_112 rfl (by simp) rfl ?_
            rfl
      have t_c73 : (x1).toInt = (x3).toInt := congrArg Int32.toInt c73
      refine s_iconst 77 C X at_76 kc_iconst_1 ?_
      refine s_goto 81 C X at_77 ?_
      refine s_istore 83 C X (l' := #[.val (.int x0), .val (.int x1), .val (.int x2), .val (.int x3), .val (.int x4), .val (.int x2), .val (.int x3), .val (.ref o1), .val (.ref o3), .val (.int mode), .val (.int (1 : Int32))]) at_81 rfl ?_
      refine s_aload 85 C X at_83 rfl rfl ?_
      refine s_aload 87 C X at_85 rfl rfl ?_
      refine s_callV 90 [(.ref o3)] [] 0 C X at_87 (List.mem_of_getElem? (i := 13) rfl) (List.mem_of_getElem? (i := 14) rfl) (notFace_of_selects (args := #[]) (mvT C.2.1 (C.w (List.mem_of_getElem? (i := 16) rfl)))) (List.mem_of_getElem? (i := 16) rfl) (List.mem_of_getElem? (i := 15) rfl) (List.mem_of_getElem? (i := 2) rfl) (List.mem_of_getElem? (i := 17) rfl) E_o1 (rm_eq l Z a0 hw o1 o3 x0 x1 x2 x3 _ n0 X.sz F_o1_first F_o1_last F_o3_first F_o3_last E_o3) (lenOf pd__Ljava_lang_Object__Z rfl) rfl rfl rfl (fun T v h12 X q => ?_)
      obtain ⟨⟨rfl, b87⟩ | ⟨rfl, b87⟩, hE⟩ := q
      · rw [hE] at X
        refine Run.cast (st' := [(.int (1 : Int32))]) rfl ?_
        refine s_iload 92 C X at_90 rfl ?_
        refine s_icmp_ne 111 95 C X at_92 (fun c => absurd (by decide : (1 : Int32) = (1 : Int32)) c) (fun _ => ?_)
        refine s_aload 97 C X at_95 rfl rfl ?_
        refine s_aload 99 C X at_97 rfl rfl ?_
        refine s_callV 102 [(.ref o1)] [] 0 C X at_99 (List.mem_of_getElem? (i := 13) rfl) (List.mem_of_getElem? (i := 14) rfl) (notFace_of_selects (args := #[]) (mvT C.2.1 (C.w (List.mem_of_getElem? (i := 16) rfl)))) (List.mem_of_getElem? (i := 16) rfl) (List.mem_of_getElem? (i := 15) rfl) (List.mem_of_getElem? (i := 2) rfl) (List.mem_of_getElem? (i := 17) rfl) E_o3 (rm_eq l Z a0 hw o3 o1 x2 x3 x0 x1 _ n0 X.sz F_o3_first F_o3_last F_o1_first F_o1_last E_o1) (lenOf pd__Ljava_lang_Object__Z rfl) rfl rfl rfl (fun T v h13 X q => ?_)
        obtain ⟨⟨rfl, b99⟩ | ⟨rfl, b99⟩, hE⟩ := q
        · rw [hE] at X
          refine Run.cast (st' := [(.int (1 : Int32))]) rfl ?_
          refine s_iload 104 C X at_102 rfl ?_
          refine s_icmp_ne 111 107 C X at_104 (fun c => absurd (by decide : (1 : Int32) = (1 : Int32)) c) (fun _ => ?_)
          refine s_iconst 108 C X at_107 kc_iconst_1 ?_
          refine s_goto 112 C X at_108 ?_
          refine s_nreturn C X at_112 rfl (by simp) rfl ?_
          rfl
        · rw [hE] at X
          refine Run.cast (st' := [(.int (0 : Int32))]) rfl ?_
          refine s_iload 104 C X at_102 rfl ?_
          refine s_icmp_ne 111 107 C X at_104 (fun _ => ?_) (fun c => absurd c (by decide))
          refine s_iconst 112 C X at_111 kc_iconst_0 ?_
          refine s_nreturn C X at_112 rfl (by simp) rfl ?_
          exfalso
          omega
      · rw [hE] at X
        refine Run.cast (st' := [(.int (0 : Int32))]) rfl ?_
        refine s_iload 92 C X at_90 rfl ?_
        refine s_icmp_ne 111 95 C X at_92 (fun _ => ?_) (fun c => absurd c (by decide))
        refine s_iconst 112 C X at_111 kc_iconst_0 ?_
        refine s_nreturn C X at_112 rfl (by simp) rfl ?_
        exfalso
        omega
    have t_c19 : ¬ (((x4 &&& (8 : Int32))).toInt = (0 : Int)) := fun q => c19 (Int32.toInt_inj.mp q)
    refine s_iloadN 23 C X at_22 rfl ?_
    refine s_goto 27 C X at_23 ?_
    refine s_istore 29 C X (l' := #[.val (.int x0), .val (.int x1), .val (.int x2), .val (.int x3), .val (.int x4), .val (.int x2), .val (.int x1), .unset, .unset, .unset, .unset]) at_27 rfl ?_
    refine s_new 32 C X at_29 (List.mem_of_getElem? (i := 0) rfl) (List.mem_of_getElem? (i := 1) rfl) (List.mem_of_getElem? (i := 2) rfl) (fun T _ o15 hb_o15 X E E_o15 D g_o15 => ?_)
    have ne_ac_o15 : ac ≠ o15 := Nat.ne_of_lt (Nat.lt_of_lt_of_le A_ac.lt (Nat.le_of_eq hb_o15))
    have Od := Od.ext E
    have A_ac := A_ac.ext E
    have F_o15_first : Fld Z _ o15 "com/example/libring/libring/slots/SlotRange" "first" "I" (.int (0 : Int32)) := D (Or.inr (hw _ (List.mem_of_getElem? (i := 10) rfl))) (ty := .int) (by decide)
    have F_o15_last : Fld Z _ o15 "com/example/libring/libring/slots/SlotRange" "last" "I" (.int (0 : Int32)) := D (Or.inr (hw _ (List.mem_of_getElem? (i := 12) rfl))) (ty := .int) (by decide)
    refine s_dup 33 C X at_32 rfl ?_
    refine s_iloadN 34 C X at_33 rfl ?_
    refine s_iloadN 35 C X at_34 rfl ?_
    refine s_callC 38 [(.int x0), (.int x1)] [(.ref o15)] 1 C X at_35 rfl (List.mem_of_getElem? (i := 3) rfl) (List.mem_of_getElem? (i := 4) rfl) (List.mem_of_getElem? (i := 2) rfl) (List.mem_of_getElem? (i := 5) rfl) (rm_init l Z a0 hw o15 x0 x1 _ n0 X.sz F_o15_first F_o15_last E_o15 g_o15) (lenOf pd__II_V rfl) rfl rfl rfl (fun T v h15 X q => ?_)
    obtain ⟨rfl, Kc, _, F_o15_first, F_o15_last⟩ := q
    have Od := Od.keep Kc (allS g_o15 all0)
    have A_ac := A_ac.keep Kc (ninS ne_ac_o15 nin0)
    have E_o15 := E_o15.keep Kc
    refine Run.cast (st' := [(.ref o15)]) rfl ?_
    refine s_astore 40 C X (l' := #[.val (.int x0), .val (.int x1), .val (.int x2), .val (.int x3), .val (.int x4), .val (.int x2), .val (.int x1), .val (.ref o15), .unset, .unset, .unset]) at_38 rfl rfl ?_
    refine s_new 43 C X at_40 (List.mem_of_getElem? (i := 0) rfl) (List.mem_of_getElem? (i := 1) rfl) (List.mem_of_getElem? (i := 2) rfl) (fun T _ o17 hb_o17 X E E_o17 D g_o17 => ?_)
    have ne_ac_o17 : ac ≠ o17 := Nat.ne_of_lt (Nat.lt_of_lt_of_le A_ac.lt (Nat.le_of_eq hb_o17))
    have ne_o15_o17 : o15 ≠ o17 := Nat.ne_of_lt (Nat.lt_of_lt_of_le E_o15.lt (Nat.le_of_eq hb_o17))
    have Od := Od.ext E
    have A_ac := A_ac.ext E
    have E_o15 := E_o15.ext E
    have F_o15_first := F_o15_first.ext E
    have F_o15_last := F_o15_last.ext E
    have F_o17_first : Fld Z _ o17 "com/example/libring/libring/slots/SlotRange" "first" "I" (.int (0 : Int32)) := D (Or.inr (hw _ (List.mem_of_getElem? (i := 10) rfl))) (ty := .int) (by decide)
    have F_o17_last : Fld Z _ o17 "com/example/libring/libring/slots/SlotRange" "last" "I" (.int (0 : Int32)) := D (Or.inr (hw _ (List.mem_of_getElem? (i := 12) rfl))) (ty := .int) (by decide)
    refine s_dup 44 C X at_43 rfl ?_
    refine s_iload 46 C X at_44 rfl ?_
    refine s_iload 48 C X at_46 rfl ?_
    refine s_callC 51 [(.int x2), (.int x1)] [(.ref o17)] 1 C X at_48 rfl (List.mem_of_getElem? (i := 3) rfl) (List.mem_of_getElem? (i := 4) rfl) (List.mem_of_getElem? (i := 2) rfl) (List.mem_of_getElem? (i := 5) rfl) (rm_init l Z a0 hw o17 x2 x1 _ n0 X.sz F_o17_first F_o17_last E_o17 g_o17) (lenOf pd__II_V rfl) rfl rfl rfl (fun T v h17 X q => ?_)
    obtain ⟨rfl, Kc, _, F_o17_first, F_o17_last⟩ := q
    have Od := Od.keep Kc (allS g_o17 all0)
    have A_ac := A_ac.keep Kc (ninS ne_ac_o17 nin0)
    have E_o15 := E_o15.keep Kc
    have F_o15_first := F_o15_first.keep Kc (ninS ne_o15_o17 nin0)
    have F_o15_last := F_o15_last.keep Kc (ninS ne_o15_o17 nin0)
    have E_o17 := E_o17.keep Kc
    refine Run.cast (st' := [(.ref o17)]) rfl ?_
    refine s_astore 53 C X (l' := #[.val (.int x0), .val (.int x1), .val (.int x2), .val (.int x3), .val (.int x4), .val (.int x2), .val (.int x1), .val (.ref o15), .val (.ref o17), .unset, .unset]) at_51 rfl rfl ?_
    refine s_iload 55 C X at_53 rfl ?_
    refine s_iconst 56 C X at_55 kc_iconst_3 ?_
    refine s_iand 57 C X at_56 ?_
    obtain ⟨mode, e_mode⟩ : ∃ zz_ : Int32, zz_ = (x4 &&& (3 : Int32)) := ⟨_, rfl⟩
    refine Run.cast (st' := [(.int mode)]) (by subst e_mode; rfl) ?_
    refine s_istore 59 C X (l' := #[.val (.int x0), .val (.int x1), .val (.int x2), .val (.int x3), .val (.int x4), .val (.int x2), .val (.int x1), .val (.ref o15), .val (.ref o17), .val (.int mode), .unset]) at_57 rfl ?_
    refine s_iload 61 C X at_59 rfl ?_
    refine s_if_ne 113 64 C X at_61 (fun c61 => ?_) (fun c61 => ?_)
    · have t_c61 : ¬ ((mode).toInt = (0 : Int)) := fun q => c61 (Int32.toInt_inj.mp q)
      refine s_iload 115 C X at_113 rfl ?_
      refine s_iconst 116 C X at_115 kc_iconst_1 ?_
      refine s_icmp_ne 134 119 C X at_116 (fun c116 => ?_) (fun c116 => ?_)
      · have t_c116 : ¬ ((mode).toInt = (1 : Int)) := fun q => c116 (Int32.toInt_inj.mp q)
        refine s_iload 136 C X at_134 rfl ?_
        refine s_iconst 137 C X at_136 kc_iconst_2 ?_
        refine s_icmp_ne 158 140 C X at_137 (fun c137 => ?_) (fun c137 => ?_)
        · have t_c137 : ¬ ((mode).toInt = (2 : Int)) := fun q => c137 (Int32.toInt_inj.mp q)
          refine s_aload 160 C X at_158 rfl rfl ?_
          refine s_aload 162 C X at_160 rfl rfl ?_
          refine s_callV 165 [(.ref o15)] [] 0 C X at_162 (List.mem_of_getElem? (i := 13) rfl) (List.mem_of_getElem? (i := 14) rfl) (notFace_of_selects (args := #[]) (mvT C.2.1 (C.w (List.mem_of_getElem? (i := 16) rfl)))) (List.mem_of_getElem? (i := 16) rfl) (List.mem_of_getElem? (i := 15) rfl) (List.mem_of_getElem? (i := 2) rfl) (List.mem_of_getElem? (i := 17) rfl) E_o15 (rm_eq l Z a0 hw o15 o15 x0 x1 x0 x1 _ n0 X.sz F_o15_first F_o15_last F_o15_first F_o15_last E_o15) (lenOf pd__Ljava_lang_Object__Z rfl) rfl rfl rfl (fun T v h18 X q => ?_)
          obtain ⟨⟨rfl, b162⟩ | ⟨rfl, b162⟩, hE⟩ := q
          · rw [hE] at X
            refine Run.cast (st' := [(.int (1 : Int32))]) rfl ?_
            refine s_nreturn C X at_165 rfl (by simp) rfl ?_
            rfl
          · rw [hE] at X
            refine Run.cast (st' := [(.int (0 : Int32))]) rfl ?_
            refine s_nreturn C X at_165 rfl (by simp) rfl ?_
            exfalso
            omega
        have t_c137 : (mode).toInt = (2 : Int) := congrArg Int32.toInt c137
        refine s_aload 142 C X at_140 rfl rfl ?_
        refine s_iloadN 143 C X at_142 rfl ?_
        refine s_callS 146 [(.int x0)] [(.ref o15)] 1 C X at_143 (List.mem_of_getElem? (i := 20) rfl) (List.mem_of_getElem? (i := 21) rfl) (List.mem_of_getElem? (i := 22) rfl) (List.mem_of_getElem? (i := 23) rfl) (rm_val l Z a0 hw x0 ac k_ac vsC _ n0 X.sz Od S_high S_cache A_ac HC) (lenOf pd__I_Ljava_lang_Integer_ rfl) rfl rfl rfl (fun T v h19 X q => ?_)
        obtain ⟨y, rfl, Kc, E_y⟩ := q
        have Od := Od.keep Kc all0
        have A_ac := A_ac.keep Kc nin0
        have E_o15 := E_o15.keep Kc
        have F_o15_first := F_o15_first.keep Kc nin0
        have F_o15_last := F_o15_last.keep Kc nin0
        have E_o17 := E_o17.keep Kc
        have F_o17_first := F_o17_first.keep Kc nin0
        have F_o17_last := F_o17_last.keep Kc nin0
        refine Run.cast (st' := [(.ref y), (.ref o15)]) rfl ?_
        refine s_callV 149 [(.ref y)] [] 0 C X at_146 (List.mem_of_getElem? (i := 13) rfl) (List.mem_of_getElem? (i := 14) rfl) (notFace_of_selects (args := #[]) (mvT C.2.1 (C.w (List.mem_of_getElem? (i := 16) rfl)))) (List.mem_of_getElem? (i := 16) rfl) (List.mem_of_getElem? (i := 15) rfl) (List.mem_of_getElem? (i := 2) rfl) (List.mem_of_getElem? (i := 17) rfl) E_o15 (rm_eqI l Z a0 hw o15 y _ n0 X.sz E_y) (lenOf pd__Ljava_lang_Object__Z rfl) rfl rfl rfl (fun T v h20 X q => ?_)
        obtain ⟨rfl, hE⟩ := q
        rw [hE] at X
        refine Run.cast (st' := [(.int (0 : Int32))]) rfl ?_
        refine s_if_ne 156 152 C X at_149 (fun c => absurd (by decide : (0 : Int32) = (0 : Int32)) c) (fun _ => ?_)
        refine s_iconst 153 C X at_152 kc_iconst_1 ?_
        refine s_goto 157 C X at_153 ?_
        refine s_nreturn C X at_157 rfl (by simp) rfl ?_
        rfl
      have t_c116 : (mode).toInt = (1 : Int) := congrArg Int32.toInt c116
      refine s_aload 121 C X at_119 rfl rfl ?_
      refine s_aconstNull 122 C X at_121 ?_
      refine s_callV 125 [.null] [] 0 C X at_122 (List.mem_of_getElem? (i := 13) rfl) (List.mem_of_getElem? (i := 14) rfl) (notFace_of_selects (args := #[]) (mvT C.2.1 (C.w (List.mem_of_getElem? (i := 16) rfl)))) (List.mem_of_getElem? (i := 16) rfl) (List.mem_of_getElem? (i := 15) rfl) (List.mem_of_getElem? (i := 2) rfl) (List.mem_of_getElem? (i := 17) rfl) E_o15 (rm_eqN l Z a0 hw o15 _ n0 X.sz) (lenOf pd__Ljava_lang_Object__Z rfl) rfl rfl rfl (fun T v h21 X q => ?_)
      obtain ⟨rfl, hE⟩ := q
      rw [hE] at X
      refine Run.cast (st' := [(.int (0 : Int32))]) rfl ?_
      refine s_if_ne 132 128 C X at_125 (fun c => absurd (by decide : (0 : Int32) = (0 : Int32)) c) (fun _ => ?_)
      refine s_iconst 129 C X at_128 kc_iconst_1 ?_
      refine s_goto 133 C X at_129 ?_
      refine s_nreturn C X at_133 rfl (by simp) rfl ?_
      rfl
    have t_c61 : (mode).toInt = (0 : Int) := congrArg Int32.toInt c61
    refine s_iloadN 65 C X at_64 rfl ?_
    refine s_iload 67 C X at_65 rfl ?_
    refine s_icmp_ne 80 70 C X at_67 (fun c67 => ?_) (fun c67 => ?_)
    · have t_c67 : ¬ ((x0).toInt = (x2).toInt) := fun q => c67 (Int32.toInt_inj.mp q)
      refine s_iconst 81 C X at_80 kc_iconst_0 ?_
      refine s_istore 83 C X (l' := #[.val (.int x0), .val (.int x1), .val (.int x2), .val (.int x3), .val (.int x4), .val (.int x2), .val (.int x1), .val (.ref o15), .val (.ref o17), .val (.int mode), .val (.int (0 : Int32))]) at_81 rfl ?_
      refine s_aload 85 C X at_83 rfl rfl ?_
      refine s_aload 87 C X at_85 rfl rfl ?_
      refine s_callV 90 [(.ref o17)] [] 0 C X at_87 (List.mem_of_getElem? (i := 13) rfl) (List.mem_of_getElem? (i := 14) rfl) (notFace_of_selects (args := #[]) (mvT C.2.1 (C.w (List.mem_of_getElem? (i := 16) rfl)))) (List.mem_of_getElem? (i := 16) rfl) (List.mem_of_getElem? (i := 15) rfl) (List.mem_of_getElem? (i := 2) rfl) (List.mem_of_getElem? (i := 17) rfl) E_o15 (rm_eq l Z a0 hw o15 o17 x0 x1 x2 x1 _ n0 X.sz F_o15_first F_o15_last F_o17_first F_o17_last E_o17) (lenOf pd__Ljava_lang_Object__Z rfl) rfl rfl rfl (fun T v h22 X q => ?_)
      obtain ⟨⟨rfl, b87⟩ | ⟨rfl, b87⟩, hE⟩ := q
      · rw [hE] at X
        refine Run.cast (st' := [(.int (1 : Int32))]) rfl ?_
        refine s_iload 92 C X at_90 rfl ?_
        refine s_icmp_ne 111 95 C X at_92 (fun _ => ?_) (fun c => absurd c (by decide))
        refine s_iconst 112 C X at_111 kc_iconst_0 ?_
        refine s_nreturn C X at_112 rfl (by simp) rfl ?_
        exfalso
        omega
      · rw [hE] at X
        refine Run.cast (st' := [(.int (0 : Int32))]) rfl ?_
        refine s_iload 92 C X at_90 rfl ?_
        refine s_icmp_ne 111 95 C X at_92 (fun c => absurd (by decide : (0 : Int32) = (0 : Int32)) c) (fun _ => ?_)
        refine s_aload 97 C X at_95 rfl rfl ?_
        refine s_aload 99 C X at_97 rfl rfl ?_
        refine s_callV 102 [(.ref o15)] [] 0 C X at_99 (List.mem_of_getElem? (i := 13) rfl) (List.mem_of_getElem? (i := 14) rfl) (notFace_of_selects (args := #[]) (mvT C.2.1 (C.w (List.mem_of_getElem? (i := 16) rfl)))) (List.mem_of_getElem? (i := 16) rfl) (List.mem_of_getElem? (i := 15) rfl) (List.mem_of_getElem? (i := 2) rfl) (List.mem_of_getElem? (i := 17) rfl) E_o17 (rm_eq l Z a0 hw o17 o15 x2 x1 x0 x1 _ n0 X.sz F_o17_first F_o17_last F_o15_first F_o15_last E_o15) (lenOf pd__Ljava_lang_Object__Z rfl) rfl rfl rfl (fun T v h23 X q => ?_)
        obtain ⟨⟨rfl, b99⟩ | ⟨rfl, b99⟩, hE⟩ := q
        · rw [hE] at X
          refine Run.cast (st' := [(.int (1 : Int32))]) rfl ?_
          refine s_iload 104 C X at_102 rfl ?_
          refine s_icmp_ne 111 107 C X at_104 (fun _ => ?_) (fun c => absurd c (by decide))
          refine s_iconst 112 C X at_111 kc_iconst_0 ?_
          refine s_nreturn C X at_112 rfl (by simp) rfl ?_
          exfalso
          omega
        · rw [hE] at X
          refine Run.cast (st' := [(.int (0 : Int32))]) rfl ?_
          refine s_iload 104 C X at_102 rfl ?_
          refine s_icmp_ne 111 107 C X at_104 (fun c => absurd (by decide : (0 : Int32) = (0 : Int32)) c) (fun _ => ?_)
          refine s_iconst 108 C X at_107 kc_iconst_1 ?_
          refine s_goto 112 C X at_108 ?_
          refine s_nreturn C X at_112 rfl (by simp) rfl ?_
          rfl
    have t_c67 : (x0).toInt = (x2).toInt := congrArg Int32.toInt c67
    refine s_iloadN 71 C X at_70 rfl ?_
    refine s_iload 73 C X at_71 rfl ?_
    refine s_icmp_ne 80 76 C X at_73 (fun c => absurd rfl c) (fun _ => ?_)
    refine s_iconst 77 C X at_76 kc_iconst_1 ?_
    refine s_goto 81 C X at_77 ?_
    refine s_istore 83 C X (l' := #[.val (.int x0), .val (.int x1), .val (.int x2), .val (.int x3), .val (.int x4), .val (.int x2), .val (.int x1), .val (.ref o15), .val (.ref o17), .val (.int mode), .val (.int (1 : Int32))]) at_81 rfl ?_
    refine s_aload 85 C X at_83 rfl rfl ?_
    refine s_aload 87 C X at_85 rfl rfl ?_
    refine s_callV 90 [(.ref o17)] [] 0 C X at_87 (List.mem_of_getElem? (i := 13) rfl) (List.mem_of_getElem? (i := 14) rfl) (notFace_of_selects (args := #[]) (mvT C.2.1 (C.w (List.mem_of_getElem? (i := 16) rfl)))) (List.mem_of_getElem? (i := 16) rfl) (List.mem_of_getElem? (i := 15) rfl) (List.mem_of_getElem? (i := 2) rfl) (List.mem_of_getElem? (i := 17) rfl) E_o15 (rm_eq l Z a0 hw o15 o17 x0 x1 x2 x1 _ n0 X.sz F_o15_first F_o15_last F_o17_first F_o17_last E_o17) (lenOf pd__Ljava_lang_Object__Z rfl) rfl rfl rfl (fun T v h24 X q => ?_)
    obtain ⟨⟨rfl, b87⟩ | ⟨rfl, b87⟩, hE⟩ := q
    · rw [hE] at X
      refine Run.cast (st' := [(.int (1 : Int32))]) rfl ?_
      refine s_iload 92 C X at_90 rfl ?_
      refine s_icmp_ne 111 95 C X at_92 (fun c => absurd (by decide : (1 : Int32) = (1 : Int32)) c) (fun _ => ?_)
      refine s_aload 97 C X at_95 rfl rfl ?_
      refine s_aload 99 C X at_97 rfl rfl ?_
      refine s_callV 102 [(.ref o15)] [] 0 C X at_99 (List.mem_of_getElem? (i := 13) rfl) (List.mem_of_getElem? (i := 14) rfl) (notFace_of_selects (args := #[]) (mvT C.2.1 (C.w (List.mem_of_getElem? (i := 16) rfl)))) (List.mem_of_getElem? (i := 16) rfl) (List.mem_of_getElem? (i := 15) rfl) (List.mem_of_getElem? (i := 2) rfl) (List.mem_of_getElem? (i := 17) rfl) E_o17 (rm_eq l Z a0 hw o17 o15 x2 x1 x0 x1 _ n0 X.sz F_o17_first F_o17_last F_o15_first F_o15_last E_o15) (lenOf pd__Ljava_lang_Object__Z rfl) rfl rfl rfl (fun T v h25 X q => ?_)
      obtain ⟨⟨rfl, b99⟩ | ⟨rfl, b99⟩, hE⟩ := q
      · rw [hE] at X
        refine Run.cast (st' := [(.int (1 : Int32))]) rfl ?_
        refine s_iload 104 C X at_102 rfl ?_
        refine s_icmp_ne 111 107 C X at_104 (fun c => absurd (by decide : (1 : Int32) = (1 : Int32)) c) (fun _ => ?_)
        refine s_iconst 108 C X at_107 kc_iconst_1 ?_
        refine s_goto 112 C X at_108 ?_
        refine s_nreturn C X at_112 rfl (by simp) rfl ?_
        rfl
      · rw [hE] at X
        refine Run.cast (st' := [(.int (0 : Int32))]) rfl ?_
        refine s_iload 104 C X at_102 rfl ?_
        refine s_icmp_ne 111 107 C X at_104 (fun _ => ?_) (fun c => absurd c (by decide))
        refine s_iconst 112 C X at_111 kc_iconst_0 ?_
        refine s_nreturn C X at_112 rfl (by simp) rfl ?_
        exfalso
        omega
    · rw [hE] at X
      refine Run.cast (st' := [(.int (0 : Int32))]) rfl ?_
      refine s_iload 92 C X at_90 rfl ?_
      refine s_icmp_ne 111 95 C X at_92 (fun _ => ?_) (fun c => absurd c (by decide))
      refine s_iconst 112 C X at_111 kc_iconst_0 ?_
      refine s_nreturn C X at_112 rfl (by simp) rfl ?_
      exfalso
      omega
  have t_c4 : ¬ (((x4 &&& (4 : Int32))).toInt = (0 : Int)) := fun q => c4 (Int32.toInt_inj.mp q)
  refine s_iloadN 8 C X at_7 rfl ?_
  refine s_goto 12 C X at_8 ?_
  refine s_istore 14 C X (l' := #[.val (.int x0), .val (.int x1), .val (.int x2), .val (.int x3), .val (.int x4), .val (.int x0), .unset, .unset, .unset, .unset, .unset]) at_12 rfl ?_
  refine s_iload 16 C X at_14 rfl ?_
  refine s_bipush 18 C X at_16 kc_bipush_8 ?_
  refine s_iand 19 C X at_18 ?_
  refine s_if_eq 26 22 C X at_19 (fun c19 => ?_) (fun c19 => ?_)
  · have t_c19 : ((x4 &&& (8 : Int32))).toInt = (0 : Int) := congrArg Int32.toInt c19
    refine s_iloadN 27 C X at_26 rfl ?_
    refine s_istore 29 C X (l' := #[.val (.int x0), .val (.int x1), .val (.int x2), .val (.int x3), .val (.int x4), .val (.int x0), .val (.int x3), .unset, .unset, .unset, .unset]) at_27 rfl ?_
    refine s_new 32 C X at_29 (List.mem_of_getElem? (i := 0) rfl) (List.mem_of_getElem? (i := 1) rfl) (List.mem_of_getElem? (i := 2) rfl) (fun T _ o27 hb_o27 X E E_o27 D g_o27 => ?_)
    have ne_ac_o27 : ac ≠ o27 := Nat.ne_of_lt (Nat.lt_of_lt_of_le A_ac.lt (Nat.le_of_eq hb_o27))
    have Od := Od.ext E
    have A_ac := A_ac.ext E
    have F_o27_first : Fld Z _ o27 "com/example/libring/libring/slots/SlotRange" "first" "I" (.int (0 : Int32)) := D (Or.inr (hw _ (List.mem_of_getElem? (i := 10) rfl))) (ty := .int) (by decide)
    have F_o27_last : Fld Z _ o27 "com/example/libring/libring/slots/SlotRange" "last" "I" (.int (0 : Int32)) := D (Or.inr (hw _ (List.mem_of_getElem? (i := 12) rfl))) (ty := .int) (by decide)
    refine s_dup 33 C X at_32 rfl ?_
    refine s_iloadN 34 C X at_33 rfl ?_
    refine s_iloadN 35 C X at_34 rfl ?_
    refine s_callC 38 [(.int x0), (.int x1)] [(.ref o27)] 1 C X at_35 rfl (List.mem_of_getElem? (i := 3) rfl) (List.mem_of_getElem? (i := 4) rfl) (List.mem_of_getElem? (i := 2) rfl) (List.mem_of_getElem? (i := 5) rfl) (rm_init l Z a0 hw o27 x0 x1 _ n0 X.sz F_o27_first F_o27_last E_o27 g_o27) (lenOf pd__II_V rfl) rfl rfl rfl (fun T v h27 X q => ?_)
    obtain ⟨rfl, Kc, _, F_o27_first, F_o27_last⟩ := q
    have Od := Od.keep Kc (allS g_o27 all0)
    have A_ac := A_ac.keep Kc (ninS ne_ac_o27 nin0)
    have E_o27 := E_o27.keep Kc
    refine Run.cast (st' := [(.ref o27)]) rfl ?_
    refine s_astore 40 C X (l' := #[.val (.int x0), .val (.int x1), .val (.int x2), .val (.int x3), .val (.int x4), .val (.int x0), .val (.int x3), .val (.ref o27), .unset, .unset, .unset]) at_38 rfl rfl ?_
    refine s_new 43 C X at_40 (List.mem_of_getElem? (i := 0) rfl) (List.mem_of_getElem? (i := 1) rfl) (List.mem_of_getElem? (i := 2) rfl) (fun T _ o29 hb_o29 X E E_o29 D g_o29 => ?_)
    have ne_ac_o29 : ac ≠ o29 := Nat.ne_of_lt (Nat.lt_of_lt_of_le A_ac.lt (Nat.le_of_eq hb_o29))
    have ne_o27_o29 : o27 ≠ o29 := Nat.ne_of_lt (Nat.lt_of_lt_of_le E_o27.lt (Nat.le_of_eq hb_o29))
    have Od := Od.ext E
    have A_ac := A_ac.ext E
    have E_o27 := E_o27.ext E
    have F_o27_first := F_o27_first.ext E
    have F_o27_last := F_o27_last.ext E
    have F_o29_first : Fld Z _ o29 "com/example/libring/libring/slots/SlotRange" "first" "I" (.int (0 : Int32)) := D (Or.inr (hw _ (List.mem_of_getElem? (i := 10) rfl))) (ty := .int) (by decide)
    have F_o29_last : Fld Z _ o29 "com/example/libring/libring/slots/SlotRange" "last" "I" (.int (0 : Int32)) := D (Or.inr (hw _ (List.mem_of_getElem? (i := 12) rfl))) (ty := .int) (by decide)
    refine s_dup 44 C X at_43 rfl ?_
    refine s_iload 46 C X at_44 rfl ?_
    refine s_iload 48 C X at_46 rfl ?_
    refine s_callC 51 [(.int x0), (.int x3)] [(.ref o29)] 1 C X at_48 rfl (List.mem_of_getElem? (i := 3) rfl) (List.mem_of_getElem? (i := 4) rfl) (List.mem_of_getElem? (i := 2) rfl) (List.mem_of_getElem? (i := 5) rfl) (rm_init l Z a0 hw o29 x0 x3 _ n0 X.sz F_o29_first F_o29_last E_o29 g_o29) (lenOf pd__II_V rfl) rfl rfl rfl (fun T v h29 X q => ?_)
    obtain ⟨rfl, Kc, _, F_o29_first, F_o29_last⟩ := q
    have Od := Od.keep Kc (allS g_o29 all0)
    have A_ac := A_ac.keep Kc (ninS ne_ac_o29 nin0)
    have E_o27 := E_o27.keep Kc
    have F_o27_first := F_o27_first.keep Kc (ninS ne_o27_o29 nin0)
    have F_o27_last := F_o27_last.keep Kc (ninS ne_o27_o29 nin0)
    have E_o29 := E_o29.keep Kc
    refine Run.cast (st' := [(.ref o29)]) rfl ?_
    refine s_astore 53 C X (l' := #[.val (.int x0), .val (.int x1), .val (.int x2), .val (.int x3), .val (.int x4), .val (.int x0), .val (.int x3), .val (.ref o27), .val (.ref o29), .unset, .unset]) at_51 rfl rfl ?_
    refine s_iload 55 C X at_53 rfl ?_
    refine s_iconst 56 C X at_55 kc_iconst_3 ?_
    refine s_iand 57 C X at_56 ?_
    obtain ⟨mode, e_mode⟩ : ∃ zz_ : Int32, zz_ = (x4 &&& (3 : Int32)) := ⟨_, rfl⟩
    refine Run.cast (st' := [(.int mode)]) (by subst e_mode; rfl) ?_
    refine s_istore 59 C X (l' := #[.val (.int x0), .val (.int x1), .val (.int x2), .val (.int x3), .val (.int x4), .val (.int x0), .val (.int x3), .val (.ref o27), .val (.ref o29), .val (.int mode), .unset]) at_57 rfl ?_
    refine s_iload 61 C X at_59 rfl ?_
    refine s_if_ne 113 64 C X at_61 (fun c61 => ?_) (fun c61 => ?_)
    · have t_c61 : ¬ ((mode).toInt = (0 : Int)) := fun q => c61 (Int32.toInt_inj.mp q)
      refine s_iload 115 C X at_113 rfl ?_
      refine s_iconst 116 C X at_115 kc_iconst_1 ?_
      refine s_icmp_ne 134 119 C X at_116 (fun c116 => ?_) (fun c116 => ?_)
      · have t_c116 : ¬ ((mode).toInt = (1 : Int)) := fun q => c116 (Int32.toInt_inj.mp q)
        refine s_iload 136 C X at_134 rfl ?_
        refine s_iconst 137 C X at_136 kc_iconst_2 ?_
        refine s_icmp_ne 158 140 C X at_137 (fun c137 => ?_) (fun c137 => ?_)
        · have t_c137 : ¬ ((mode).toInt = (2 : Int)) := fun q => c137 (Int32.toInt_inj.mp q)
          refine s_aload 160 C X at_158 rfl rfl ?_
          refine s_aload 162 C X at_160 rfl rfl ?_
          refine s_callV 165 [(.ref o27)] [] 0 C X at_162 (List.mem_of_getElem? (i := 13) rfl) (List.mem_of_getElem? (i := 14) rfl) (notFace_of_selects (args := #[]) (mvT C.2.1 (C.w (List.mem_of_getElem? (i := 16) rfl)))) (List.mem_of_getElem? (i := 16) rfl) (List.mem_of_getElem? (i := 15) rfl) (List.mem_of_getElem? (i := 2) rfl) (List.mem_of_getElem? (i := 17) rfl) E_o27 (rm_eq l Z a0 hw o27 o27 x0 x1 x0 x1 _ n0 X.sz F_o27_first F_o27_last F_o27_first F_o27_last E_o27) (lenOf pd__Ljava_lang_Object__Z rfl) rfl rfl rfl (fun T v h30 X q => ?_)
          obtain ⟨⟨rfl, b162⟩ | ⟨rfl, b162⟩, hE⟩ := q
          · rw [hE] at X
            refine Run.cast (st' := [(.int (1 : Int32))]) rfl ?_
            refine s_nreturn C X at_165 rfl (by simp) rfl ?_
            rfl
          · rw [hE] at X
            refine Run.cast (st' := [(.int (0 : Int32))]) rfl ?_
            refine s_nreturn C X at_165 rfl (by simp) rfl ?_
            exfalso
            omega
        have t_c137 : (mode).toInt = (2 : Int) := congrArg Int32.toInt c137
        refine s_aload 142 C X at_140 rfl rfl ?_
        refine s_iloadN 143 C X at_142 rfl ?_
        refine s_callS 146 [(.int x0)] [(.ref o27)] 1 C X at_143 (List.mem_of_getElem? (i := 20) rfl) (List.mem_of_getElem? (i := 21) rfl) (List.mem_of_getElem? (i := 22) rfl) (List.mem_of_getElem? (i := 23) rfl) (rm_val l Z a0 hw x0 ac k_ac vsC _ n0 X.sz Od S_high S_cache A_ac HC) (lenOf pd__I_Ljava_lang_Integer_ rfl) rfl rfl rfl (fun T v h31 X q => ?_)
        obtain ⟨y, rfl, Kc, E_y⟩ := q
        have Od := Od.keep Kc all0
        have A_ac := A_ac.keep Kc nin0
        have E_o27 := E_o27.keep Kc
        have F_o27_first := F_o27_first.keep Kc nin0
        have F_o27_last := F_o27_last.keep Kc nin0
        have E_o29 := E_o29.keep Kc
        have F_o29_first := F_o29_first.keep Kc nin0
        have F_o29_last := F_o29_last.keep Kc nin0
        refine Run.cast (st' := [(.ref y), (.ref o27)]) rfl ?_
        refine s_callV 149 [(.ref y)] [] 0 C X at_146 (List.mem_of_getElem? (i := 13) rfl) (List.mem_of_getElem? (i := 14) rfl) (notFace_of_selects (args := #[]) (mvT C.2.1 (C.w (List.mem_of_getElem? (i := 16) rfl)))) (List.mem_of_getElem? (i := 16) rfl) (List.mem_of_getElem? (i := 15) rfl) (List.mem_of_getElem? (i := 2) rfl) (List.mem_of_getElem? (i := 17) rfl) E_o27 (rm_eqI l Z a0 hw o27 y _ n0 X.sz E_y) (lenOf pd__Ljava_lang_Object__Z rfl) rfl rfl rfl (fun T v h32 X q => ?_)
        obtain ⟨rfl, hE⟩ := q
        rw [hE] at X
        refine Run.cast (st' := [(.int (0 : Int32))]) rfl ?_
        refine s_if_ne 156 152 C X at_149 (fun c => absurd (by decide : (0 : Int32) = (0 : Int32)) c) (fun _ => ?_)
        refine s_iconst 153 C X at_152 kc_iconst_1 ?_
        refine s_goto 157 C X at_153 ?_
        refine s_nreturn C X at_157 rfl (by simp) rfl ?_
        rfl
      have t_c116 : (mode).toInt = (1 : Int) := congrArg Int32.toInt c116
      refine s_aload 121 C X at_119 rfl rfl ?_
      refine s_aconstNull 122 C X at_121 ?_
      refine s_callV 125 [.null] [] 0 C X at_122 (List.mem_of_getElem? (i := 13) rfl) (List.mem_of_getElem? (i := 14) rfl) (notFace_of_selects (args := #[]) (mvT C.2.1 (C.w (List.mem_of_getElem? (i := 16) rfl)))) (List.mem_of_getElem? (i := 16) rfl) (List.mem_of_getElem? (i := 15) rfl) (List.mem_of_getElem? (i := 2) rfl) (List.mem_of_getElem? (i := 17) rfl) E_o27 (rm_eqN l Z a0 hw o27 _ n0 X.sz) (lenOf pd__Ljava_lang_Object__Z rfl) rfl rfl rfl (fun T v h33 X q => ?_)
      obtain ⟨rfl, hE⟩ := q
      rw [hE] at X
      refine Run.cast (st' := [(.int (0 : Int32))]) rfl ?_
      refine s_if_ne 132 128 C X at_125 (fun c => absurd (by decide : (0 : Int32) = (0 : Int32)) c) (fun _ => ?_)
      refine s_iconst 129 C X at_128 kc_iconst_1 ?_
      refine s_goto 133 C X at_129 ?_
      refine s_nreturn C X at_133 rfl (by simp) rfl ?_
      rfl
    have t_c61 : (mode).toInt = (0 : Int) := congrArg Int32.toInt c61
    refine s_iloadN 65 C X at_64 rfl ?_
    refine s_iload 67 C X at_65 rfl ?_
    refine s_icmp_ne 80 70 C X at_67 (fun c => absurd rfl c) (fun _ => ?_)
    refine s_iloadN 71 C X at_70 rfl ?_
    refine s_iload 73 C X at_71 rfl ?_
    refine s_icmp_ne 80 76 C X at_73 (fun c73 => ?_) (fun c73 => ?_)
    · have t_c73 : ¬ ((x1).toInt = (x3).toInt) := fun q => c73 (Int32.toInt_inj.mp q)
      refine s_iconst 81 C X at_80 kc_iconst_0 ?_
      refine s_istore 83 C X (l' := #[.val (.int x0), .val (.int x1), .val (.int x2), .val (.int x3), .val (.int x4), .val (.int x0), .val (.int x3), .val (.ref o27), .val (.ref o29), .val (.int mode), .val (.int (0 : Int32))]) at_81 rfl ?_
      refine s_aload 85 C X at_83 rfl rfl ?_
      refine s_aload 87 C X at_85 rfl rfl ?_
      refine s_callV 90 [(.ref o29)] [] 0 C X at_87 (List.mem_of_getElem? (i := 13) rfl) (List.mem_of_getElem? (i := 14) rfl) (notFace_of_selects (args := #[]) (mvT C.2.1 (C.w (List.mem_of_getElem? (i := 16) rfl)))) (List.mem_of_getElem? (i := 16) rfl) (List.mem_of_getElem? (i := 15) rfl) (List.mem_of_getElem? (i := 2) rfl) (List.mem_of_getElem? (i := 17) rfl) E_o27 (rm_eq l Z a0 hw o27 o29 x0 x1 x0 x3 _ n0 X.sz F_o27_first F_o27_last F_o29_first F_o29_last E_o29) (lenOf pd__Ljava_lang_Object__Z rfl) rfl rfl rfl (fun T v h34 X q => ?_)
      obtain ⟨⟨rfl, b87⟩ | ⟨rfl, b87⟩, hE⟩ := q
      · rw [hE] at X
        refine Run.cast (st' := [(.int (1 : Int32))]) rfl ?_
        refine s_iload 92 C X at_90 rfl ?_
        refine s_icmp_ne 111 95 C X at_92 (fun _ => ?_) (fun c => absurd c (by decide))
        refine s_iconst 112 C X at_111 kc_iconst_0 ?_
        refine s_nreturn C X at_112 rfl (by simp) rfl ?_
        exfalso
        omega
      · rw [hE] at X
        refine Run.cast (st' := [(.int (0 : Int32))]) rfl ?_
        refine s_iload 92 C X at_90 rfl ?_
        refine s_icmp_ne 111 95 C X at_92 (fun c => absurd (by decide : (0 : Int32) = (0 : Int32)) c) (fun _ => ?_)
        refine s_aload 97 C X at_95 rfl rfl ?_
        refine s_aload 99 C X at_97 rfl rfl ?_
        refine s_callV 102 [(.ref o27)] [] 0 C X at_99 (List.mem_of_getElem? (i := 13) rfl) (List.mem_of_getElem? (i := 14) rfl) (notFace_of_selects (args := #[]) (mvT C.2.1 (C.w (List.mem_of_getElem? (i := 16) rfl)))) (List.mem_of_getElem? (i := 16) rfl) (List.mem_of_getElem? (i := 15) rfl) (List.mem_of_getElem? (i := 2) rfl) (List.mem_of_getElem? (i := 17) rfl) E_o29 (rm_eq l Z a0 hw o29 o27 x0 x3 x0 x1 _ n0 X.sz F_o29_first F_o29_last F_o27_first F_o27_last E_o27) (lenOf pd__Ljava_lang_Object__Z rfl) rfl rfl rfl (fun T v h35 X q => ?_)
        obtain ⟨⟨rfl, b99⟩ | ⟨rfl, b99⟩, hE⟩ := q
        · rw [hE] at X
          refine Run.cast (st' := [(.int (1 : Int32))]) rfl ?_
          refine s_iload 104 C X at_102 rfl ?_
          refine s_icmp_ne 111 107 C X at_104 (fun _ => ?_) (fun c => absurd c (by decide))
          refine s_iconst 112 C X at_111 kc_iconst_0 ?_
          refine s_nreturn C X at_112 rfl (by simp) rfl ?_
          exfalso
          omega
        · rw [hE] at X
          refine Run.cast (st' := [(.int (0 : Int32))]) rfl ?_
          refine s_iload 104 C X at_102 rfl ?_
          refine s_icmp_ne 111 107 C X at_104 (fun c => absurd (by decide : (0 : Int32) = (0 : Int32)) c) (fun _ => ?_)
          refine s_iconst 108 C X at_107 kc_iconst_1 ?_
          refine s_goto 112 C X at_108 ?_
          refine s_nreturn C X at_112 rfl (by simp) rfl ?_
          rfl
    have t_c73 : (x1).toInt = (x3).toInt := congrArg Int32.toInt c73
    refine s_iconst 77 C X at_76 kc_iconst_1 ?_
    refine s_goto 81 C X at_77 ?_
    refine s_istore 83 C X (l' := #[.val (.int x0), .val (.int x1), .val (.int x2), .val (.int x3), .val (.int x4), .val (.int x0), .val (.int x3), .val (.ref o27), .val (.ref o29), .val (.int mode), .val (.int (1 : Int32))]) at_81 rfl ?_
    refine s_aload 85 C X at_83 rfl rfl ?_
    refine s_aload 87 C X at_85 rfl rfl ?_
    refine s_callV 90 [(.ref o29)] [] 0 C X at_87 (List.mem_of_getElem? (i := 13) rfl) (List.mem_of_getElem? (i := 14) rfl) (notFace_of_selects (args := #[]) (mvT C.2.1 (C.w (List.mem_of_getElem? (i := 16) rfl)))) (List.mem_of_getElem? (i := 16) rfl) (List.mem_of_getElem? (i := 15) rfl) (List.mem_of_getElem? (i := 2) rfl) (List.mem_of_getElem? (i := 17) rfl) E_o27 (rm_eq l Z a0 hw o27 o29 x0 x1 x0 x3 _ n0 X.sz F_o27_first F_o27_last F_o29_first F_o29_last E_o29) (lenOf pd__Ljava_lang_Object__Z rfl) rfl rfl rfl (fun T v h36 X q => ?_)
    obtain ⟨⟨rfl, b87⟩ | ⟨rfl, b87⟩, hE⟩ := q
    · rw [hE] at X
      refine Run.cast (st' := [(.int (1 : Int32))]) rfl ?_
      refine s_iload 92 C X at_90 rfl ?_
      refine s_icmp_ne 111 95 C X at_92 (fun c => absurd (by decide : (1 : Int32) = (1 : Int32)) c) (fun _ => ?_)
      refine s_aload 97 C X at_95 rfl rfl ?_
      refine s_aload 99 C X at_97 rfl rfl ?_
      refine s_callV 102 [(.ref o27)] [] 0 C X at_99 (List.mem_of_getElem? (i := 13) rfl) (List.mem_of_getElem? (i := 14) rfl) (notFace_of_selects (args := #[]) (mvT C.2.1 (C.w (List.mem_of_getElem? (i := 16) rfl)))) (List.mem_of_getElem? (i := 16) rfl) (List.mem_of_getElem? (i := 15) rfl) (List.mem_of_getElem? (i := 2) rfl) (List.mem_of_getElem? (i := 17) rfl) E_o29 (rm_eq l Z a0 hw o29 o27 x0 x3 x0 x1 _ n0 X.sz F_o29_first F_o29_last F_o27_first F_o27_last E_o27) (lenOf pd__Ljava_lang_Object__Z rfl) rfl rfl rfl (fun T v h37 X q => ?_)
      obtain ⟨⟨rfl, b99⟩ | ⟨rfl, b99⟩, hE⟩ := q
      · rw [hE] at X
        refine Run.cast (st' := [(.int (1 : Int32))]) rfl ?_
        refine s_iload 104 C X at_102 rfl ?_
        refine s_icmp_ne 111 107 C X at_104 (fun c => absurd (by decide : (1 : Int32) = (1 : Int32)) c) (fun _ => ?_)
        refine s_iconst 108 C X at_107 kc_iconst_1 ?_
        refine s_goto 112 C X at_108 ?_
        refine s_nreturn C X at_112 rfl (by simp) rfl ?_
        rfl
      · rw [hE] at X
        refine Run.cast (st' := [(.int (0 : Int32))]) rfl ?_
        refine s_iload 104 C X at_102 rfl ?_
        refine s_icmp_ne 111 107 C X at_104 (fun _ => ?_) (fun c => absurd c (by decide))
        refine s_iconst 112 C X at_111 kc_iconst_0 ?_
        refine s_nreturn C X at_112 rfl (by simp) rfl ?_
        exfalso
        omega
    · rw [hE] at X
      refine Run.cast (st' := [(.int (0 : Int32))]) rfl ?_
      refine s_iload 92 C X at_90 rfl ?_
      refine s_icmp_ne 111 95 C X at_92 (fun _ => ?_) (fun c => absurd c (by decide))
      refine s_iconst 112 C X at_111 kc_iconst_0 ?_
      refine s_nreturn C X at_112 rfl (by simp) rfl ?_
      exfalso
      omega
  have t_c19 : ¬ (((x4 &&& (8 : Int32))).toInt = (0 : Int)) := fun q => c19 (Int32.toInt_inj.mp q)
  refine s_iloadN 23 C X at_22 rfl ?_
  refine s_goto 27 C X at_23 ?_
  refine s_istore 29 C X (l' := #[.val (.int x0), .val (.int x1), .val (.int x2), .val (.int x3), .val (.int x4), .val (.int x0), .val (.int x1), .unset, .unset, .unset, .unset]) at_27 rfl ?_
  refine s_new 32 C X at_29 (List.mem_of_getElem? (i := 0) rfl) (List.mem_of_getElem? (i := 1) rfl) (List.mem_of_getElem? (i := 2) rfl) (fun T _ o39 hb_o39 X E E_o39 D g_o39 => ?_)
  have ne_ac_o39 : ac ≠ o39 := Nat.ne_of_lt (Nat.lt_of_lt_of_le A_ac.lt (Nat.le_of_eq hb_o39))
  have Od := Od.ext E
  have A_ac := A_ac.ext E
  have F_o39_first : Fld Z _ o39 "com/example/libring/libring/slots/SlotRange" "first" "I" (.int (0 : Int32)) := D (Or.inr (hw _ (List.mem_of_getElem? (i := 10) rfl))) (ty := .int) (by decide)
  have F_o39_last : Fld Z _ o39 "com/example/libring/libring/slots/SlotRange" "last" "I" (.int (0 : Int32)) := D (Or.inr (hw _ (List.mem_of_getElem? (i := 12) rfl))) (ty := .int) (by decide)
  refine s_dup 33 C X at_32 rfl ?_
  refine s_iloadN 34 C X at_33 rfl ?_
  refine s_iloadN 35 C X at_34 rfl ?_
  refine s_callC 38 [(.int x0), (.int x1)] [(.ref o39)] 1 C X at_35 rfl (List.mem_of_getElem? (i := 3) rfl) (List.mem_of_getElem? (i := 4) rfl) (List.mem_of_getElem? (i := 2) rfl) (List.mem_of_getElem? (i := 5) rfl) (rm_init l Z a0 hw o39 x0 x1 _ n0 X.sz F_o39_first F_o39_last E_o39 g_o39) (lenOf pd__II_V rfl) rfl rfl rfl (fun T v h39 X q => ?_)
  obtain ⟨rfl, Kc, _, F_o39_first, F_o39_last⟩ := q
  have Od := Od.keep Kc (allS g_o39 all0)
  have A_ac := A_ac.keep Kc (ninS ne_ac_o39 nin0)
  have E_o39 := E_o39.keep Kc
  refine Run.cast (st' := [(.ref o39)]) rfl ?_
  refine s_astore 40 C X (l' := #[.val (.int x0), .val (.int x1), .val (.int x2), .val (.int x3), .val (.int x4), .val (.int x0), .val (.int x1), .val (.ref o39), .unset, .unset, .unset]) at_38 rfl rfl ?_
  refine s_new 43 C X at_40 (List.mem_of_getElem? (i := 0) rfl) (List.mem_of_getElem? (i := 1) rfl) (List.mem_of_getElem? (i := 2) rfl) (fun T _ o41 hb_o41 X E E_o41 D g_o41 => ?_)
  have ne_ac_o41 : ac ≠ o41 := Nat.ne_of_lt (Nat.lt_of_lt_of_le A_ac.lt (Nat.le_of_eq hb_o41))
  have ne_o39_o41 : o39 ≠ o41 := Nat.ne_of_lt (Nat.lt_of_lt_of_le E_o39.lt (Nat.le_of_eq hb_o41))
  have Od := Od.ext E
  have A_ac := A_ac.ext E
  have E_o39 := E_o39.ext E
  have F_o39_first := F_o39_first.ext E
  have F_o39_last := F_o39_last.ext E
  have F_o41_first : Fld Z _ o41 "com/example/libring/libring/slots/SlotRange" "first" "I" (.int (0 : Int32)) := D (Or.inr (hw _ (List.mem_of_getElem? (i := 10) rfl))) (ty := .int) (by decide)
  have F_o41_last : Fld Z _ o41 "com/example/libring/libring/slots/SlotRange" "last" "I" (.int (0 : Int32)) := D (Or.inr (hw _ (List.mem_of_getElem? (i := 12) rfl))) (ty := .int) (by decide)
  refine s_dup 44 C X at_43 rfl ?_
  refine s_iload 46 C X at_44 rfl ?_
  refine s_iload 48 C X at_46 rfl ?_
  refine s_callC 51 [(.int x0), (.int x1)] [(.ref o41)] 1 C X at_48 rfl (List.mem_of_getElem? (i := 3) rfl) (List.mem_of_getElem? (i := 4) rfl) (List.mem_of_getElem? (i := 2) rfl) (List.mem_of_getElem? (i := 5) rfl) (rm_init l Z a0 hw o41 x0 x1 _ n0 X.sz F_o41_first F_o41_last E_o41 g_o41) (lenOf pd__II_V rfl) rfl rfl rfl (fun T v h41 X q => ?_)
  obtain ⟨rfl, Kc, _, F_o41_first, F_o41_last⟩ := q
  have Od := Od.keep Kc (allS g_o41 all0)
  have A_ac := A_ac.keep Kc (ninS ne_ac_o41 nin0)
  have E_o39 := E_o39.keep Kc
  have F_o39_first := F_o39_first.keep Kc (ninS ne_o39_o41 nin0)
  have F_o39_last := F_o39_last.keep Kc (ninS ne_o39_o41 nin0)
  have E_o41 := E_o41.keep Kc
  refine Run.cast (st' := [(.ref o41)]) rfl ?_
  refine s_astore 53 C X (l' := #[.val (.int x0), .val (.int x1), .val (.int x2), .val (.int x3), .val (.int x4), .val (.int x0), .val (.int x1), .val (.ref o39), .val (.ref o41), .unset, .unset]) at_51 rfl rfl ?_
  refine s_iload 55 C X at_53 rfl ?_
  refine s_iconst 56 C X at_55 kc_iconst_3 ?_
  refine s_iand 57 C X at_56 ?_
  obtain ⟨mode, e_mode⟩ : ∃ zz_ : Int32, zz_ = (x4 &&& (3 : Int32)) := ⟨_, rfl⟩
  refine Run.cast (st' := [(.int mode)]) (by subst e_mode; rfl) ?_
  refine s_istore 59 C X (l' := #[.val (.int x0), .val (.int x1), .val (.int x2), .val (.int x3), .val (.int x4), .val (.int x0), .val (.int x1), .val (.ref o39), .val (.ref o41), .val (.int mode), .unset]) at_57 rfl ?_
  refine s_iload 61 C X at_59 rfl ?_
  refine s_if_ne 113 64 C X at_61 (fun c61 => ?_) (fun c61 => ?_)
  · have t_c61 : ¬ ((mode).toInt = (0 : Int)) := fun q => c61 (Int32.toInt_inj.mp q)
    refine s_iload 115 C X at_113 rfl ?_
    refine s_iconst 116 C X at_115 kc_iconst_1 ?_
    refine s_icmp_ne 134 119 C X at_116 (fun c116 => ?_) (fun c116 => ?_)
    · have t_c116 : ¬ ((mode).toInt = (1 : Int)) := fun q => c116 (Int32.toInt_inj.mp q)
      refine s_iload 136 C X at_134 rfl ?_
      refine s_iconst 137 C X at_136 kc_iconst_2 ?_
      refine s_icmp_ne 158 140 C X at_137 (fun c137 => ?_) (fun c137 => ?_)
      · have t_c137 : ¬ ((mode).toInt = (2 : Int)) := fun q => c137 (Int32.toInt_inj.mp q)
        refine s_aload 160 C X at_158 rfl rfl ?_
        refine s_aload 162 C X at_160 rfl rfl ?_
        refine s_callV 165 [(.ref o39)] [] 0 C X at_162 (List.mem_of_getElem? (i := 13) rfl) (List.mem_of_getElem? (i := 14) rfl) (notFace_of_selects (args := #[]) (mvT C.2.1 (C.w (List.mem_of_getElem? (i := 16) rfl)))) (List.mem_of_getElem? (i := 16) rfl) (List.mem_of_getElem? (i := 15) rfl) (List.mem_of_getElem? (i := 2) rfl) (List.mem_of_getElem? (i := 17) rfl) E_o39 (rm_eq l Z a0 hw o39 o39 x0 x1 x0 x1 _ n0 X.sz F_o39_first F_o39_last F_o39_first F_o39_last E_o39) (lenOf pd__Ljava_lang_Object__Z rfl) rfl rfl rfl (fun T v h42 X q => ?_)
        obtain ⟨⟨rfl, b162⟩ | ⟨rfl, b162⟩, hE⟩ := q
        · rw [hE] at X
          refine Run.cast (st' := [(.int (1 : Int32))]) rfl ?_
          refine s_nreturn C X at_165 rfl (by simp) rfl ?_
          rfl
        · rw [hE] at X
          refine Run.cast (st' := [(.int (0 : Int32))]) rfl ?_
          refine s_nreturn C X at_165 rfl (by simp) rfl ?_
          exfalso
          omega
      have t_c137 : (mode).toInt = (2 : Int) := congrArg Int32.toInt c137
      refine s_aload 142 C X at_140 rfl rfl ?_
      refine s_iloadN 143 C X at_142 rfl ?_
      refine s_callS 146 [(.int x0)] [(.ref o39)] 1 C X at_143 (List.mem_of_getElem? (i := 20) rfl) (List.mem_of_getElem? (i := 21) rfl) (List.mem_of_getElem? (i := 22) rfl) (List.mem_of_getElem? (i := 23) rfl) (rm_val l Z a0 hw x0 ac k_ac vsC _ n0 X.sz Od S_high S_cache A_ac HC) (lenOf pd__I_Ljava_lang_Integer_ rfl) rfl rfl rfl (fun T v h43 X q => ?_)
      obtain ⟨y, rfl, Kc, E_y⟩ := q
      have Od := Od.keep Kc all0
      have A_ac := A_ac.keep Kc nin0
      have E_o39 := E_o39.keep Kc
      have F_o39_first := F_o39_first.keep Kc nin0
      have F_o39_last := F_o39_last.keep Kc nin0
      have E_o41 := E_o41.keep Kc
      have F_o41_first := F_o41_first.keep Kc nin0
      have F_o41_last := F_o41_last.keep Kc nin0
      refine Run.cast (st' := [(.ref y), (.ref o39)]) rfl ?_
      refine s_callV 149 [(.ref y)] [] 0 C X at_146 (List.mem_of_getElem? (i := 13) rfl) (List.mem_of_getElem? (i := 14) rfl) (notFace_of_selects (args := #[]) (mvT C.2.1 (C.w (List.mem_of_getElem? (i := 16) rfl)))) (List.mem_of_getElem? (i := 16) rfl) (List.mem_of_getElem? (i := 15) rfl) (List.mem_of_getElem? (i := 2) rfl) (List.mem_of_getElem? (i := 17) rfl) E_o39 (rm_eqI l Z a0 hw o39 y _ n0 X.sz E_y) (lenOf pd__Ljava_lang_Object__Z rfl) rfl rfl rfl (fun T v h44 X q => ?_)
      obtain ⟨rfl, hE⟩ := q
      rw [hE] at X
      refine Run.cast (st' := [(.int (0 : Int32))]) rfl ?_
      refine s_if_ne 156 152 C X at_149 (fun c => absurd (by decide : (0 : Int32) = (0 : Int32)) c) (fun _ => ?_)
      refine s_iconst 153 C X at_152 kc_iconst_1 ?_
      refine s_goto 157 C X at_153 ?_
      refine s_nreturn C X at_157 rfl (by simp) rfl ?_
      rfl
    have t_c116 : (mode).toInt = (1 : Int) := congrArg Int32.toInt c116
    refine s_aload 121 C X at_119 rfl rfl ?_
    refine s_aconstNull 122 C X at_121 ?_
    refine s_callV 125 [.null] [] 0 C X at_122 (List.mem_of_getElem? (i := 13) rfl) (List.mem_of_getElem? (i := 14) rfl) (notFace_of_selects (args := #[]) (mvT C.2.1 (C.w (List.mem_of_getElem? (i := 16) rfl)))) (List.mem_of_getElem? (i := 16) rfl) (List.mem_of_getElem? (i := 15) rfl) (List.mem_of_getElem? (i := 2) rfl) (List.mem_of_getElem? (i := 17) rfl) E_o39 (rm_eqN l Z a0 hw o39 _ n0 X.sz) (lenOf pd__Ljava_lang_Object__Z rfl) rfl rfl rfl (fun T v h45 X q => ?_)
    obtain ⟨rfl, hE⟩ := q
    rw [hE] at X
    refine Run.cast (st' := [(.int (0 : Int32))]) rfl ?_
    refine s_if_ne 132 128 C X at_125 (fun c => absurd (by decide : (0 : Int32) = (0 : Int32)) c) (fun _ => ?_)
    refine s_iconst 129 C X at_128 kc_iconst_1 ?_
    refine s_goto 133 C X at_129 ?_
    refine s_nreturn C X at_133 rfl (by simp) rfl ?_
    rfl
  have t_c61 : (mode).toInt = (0 : Int) := congrArg Int32.toInt c61
  refine s_iloadN 65 C X at_64 rfl ?_
  refine s_iload 67 C X at_65 rfl ?_
  refine s_icmp_ne 80 70 C X at_67 (fun c => absurd rfl c) (fun _ => ?_)
  refine s_iloadN 71 C X at_70 rfl ?_
  refine s_iload 73 C X at_71 rfl ?_
  refine s_icmp_ne 80 76 C X at_73 (fun c => absurd rfl c) (fun _ => ?_)
  refine s_iconst 77 C X at_76 kc_iconst_1 ?_
  refine s_goto 81 C X at_77 ?_
  refine s_istore 83 C X (l' := #[.val (.int x0), .val (.int x1), .val (.int x2), .val (.int x3), .val (.int x4), .val (.int x0), .val (.int x1), .val (.ref o39), .val (.ref o41), .val (.int mode), .val (.int (1 : Int32))]) at_81 rfl ?_
  refine s_aload 85 C X at_83 rfl rfl ?_
  refine s_aload 87 C X at_85 rfl rfl ?_
  refine s_callV 90 [(.ref o41)] [] 0 C X at_87 (List.mem_of_getElem? (i := 13) rfl) (List.mem_of_getElem? (i := 14) rfl) (notFace_of_selects (args := #[]) (mvT C.2.1 (C.w (List.mem_of_getElem? (i := 16) rfl)))) (List.mem_of_getElem? (i := 16) rfl) (List.mem_of_getElem? (i := 15) rfl) (List.mem_of_getElem? (i := 2) rfl) (List.mem_of_getElem? (i := 17) rfl) E_o39 (rm_eq l Z a0 hw o39 o41 x0 x1 x0 x1 _ n0 X.sz F_o39_first F_o39_last F_o41_first F_o41_last E_o41) (lenOf pd__Ljava_lang_Object__Z rfl) rfl rfl rfl (fun T v h46 X q => ?_)
  obtain ⟨⟨rfl, b87⟩ | ⟨rfl, b87⟩, hE⟩ := q
  · rw [hE] at X
    refine Run.cast (st' := [(.int (1 : Int32))]) rfl ?_
    refine s_iload 92 C X at_90 rfl ?_
    refine s_icmp_ne 111 95 C X at_92 (fun c => absurd (by decide : (1 : Int32) = (1 : Int32)) c) (fun _ => ?_)
    refine s_aload 97 C X at_95 rfl rfl ?_
    refine s_aload 99 C X at_97 rfl rfl ?_
    refine s_callV 102 [(.ref o39)] [] 0 C X at_99 (List.mem_of_getElem? (i := 13) rfl) (List.mem_of_getElem? (i := 14) rfl) (notFace_of_selects (args := #[]) (mvT C.2.1 (C.w (List.mem_of_getElem? (i := 16) rfl)))) (List.mem_of_getElem? (i := 16) rfl) (List.mem_of_getElem? (i := 15) rfl) (List.mem_of_getElem? (i := 2) rfl) (List.mem_of_getElem? (i := 17) rfl) E_o41 (rm_eq l Z a0 hw o41 o39 x0 x1 x0 x1 _ n0 X.sz F_o41_first F_o41_last F_o39_first F_o39_last E_o39) (lenOf pd__Ljava_lang_Object__Z rfl) rfl rfl rfl (fun T v h47 X q => ?_)
    obtain ⟨⟨rfl, b99⟩ | ⟨rfl, b99⟩, hE⟩ := q
    · rw [hE] at X
      refine Run.cast (st' := [(.int (1 : Int32))]) rfl ?_
      refine s_iload 104 C X at_102 rfl ?_
      refine s_icmp_ne 111 107 C X at_104 (fun c => absurd (by decide : (1 : Int32) = (1 : Int32)) c) (fun _ => ?_)
      refine s_iconst 108 C X at_107 kc_iconst_1 ?_
      refine s_goto 112 C X at_108 ?_
      refine s_nreturn C X at_112 rfl (by simp) rfl ?_
      rfl
    · rw [hE] at X
      refine Run.cast (st' := [(.int (0 : Int32))]) rfl ?_
      refine s_iload 104 C X at_102 rfl ?_
      refine s_icmp_ne 111 107 C X at_104 (fun _ => ?_) (fun c => absurd c (by decide))
      refine s_iconst 112 C X at_111 kc_iconst_0 ?_
      refine s_nreturn C X at_112 rfl (by simp) rfl ?_
      exfalso
      omega
  · rw [hE] at X
    refine Run.cast (st' := [(.int (0 : Int32))]) rfl ?_
    refine s_iload 92 C X at_90 rfl ?_
    refine s_icmp_ne 111 95 C X at_92 (fun _ => ?_) (fun c => absurd c (by decide))
    refine s_iconst 112 C X at_111 kc_iconst_0 ?_
    refine s_nreturn C X at_112 rfl (by simp) rfl ?_
    exfalso
    omega
set_option maxRecDepth 65536 in
set_option maxHeartbeats 40000000 in
theorem comes_1 {Post : Tables → Env → Array Value → State → Outcome → State → Prop} (hpost : ∀ tb e args s v u, (limb_1_1.after args s (.returned v) u = true ∧ limb_1_2.after args s (.returned v) u = true ∧ True) → FrameEnd s (.returned v) u (Jvm.fieldLocs frame_1_writes args s ++ Jvm.arrayLocs frame_1_arrays args s ++ Jvm.staticLocs frame_1_statics s) 16 128 → Post tb e args s (.returned v) u) :
    ArmFor flags0 classFile x code maxLocals ret World_1 tables_1 room_1 Calls_1 rest_1 Pre_1 Post := by
  intro l hfl _ _ p e ha hc hk s m args below hf hA hF happ hP
  obtain ⟨hcalls, hrest, hpre⟩ := hP
  obtain ⟨-, -, -, hnamed, -, -, -, hat⟩ := (Spec.applies_iff hf).mp happ
  obtain ⟨hg, hn⟩ := and_e (Cond.before_iff.mp (show (Jvm.Cond.and given_1 narrow_1).before args s = true from hpre))
  obtain ⟨g0, g1⟩ := and_e hg
  obtain ⟨ga0, gr0⟩ := and_e g1
  obtain ⟨ga1, gr1⟩ := and_e gr0
  obtain ⟨ga2, gr2⟩ := and_e gr1
  obtain ⟨ga3, gr3⟩ := and_e gr2
  obtain ⟨w0, w1, w2, w3, w4, rfl⟩ : ∃ w0 w1 w2 w3 w4 : Value, args = #[w0, w1, w2, w3, w4] := by
    have hs : args.size = 5 := by simpa [Cond.value, given_1] using g0
    obtain ⟨L⟩ := args
    match L, hs with
    | [w0, w1, w2, w3, w4], _ => exact ⟨w0, w1, w2, w3, w4, rfl⟩
  have hw := fun d (hd : d ∈ tables_1) => atoms_spec (ws := Jvm.Cond.code x code maxLocals ret :: tables_1) hat d (List.mem_cons_of_mem _ hd)
  have hfit : Fit s := fun {y c} hc i hi => by
    obtain ⟨ha, rfl⟩ := Array.getElem?_eq_some_iff.mp hc
    have q := List.all_eq_true.mp ((Array.all_eq_true_iff_forall_mem.mp hF) _ (Array.getElem_mem ha)) i (List.mem_range.mpr hi)
    simpa [Array.getElem?_eq_getElem hi] using q
  obtain ⟨i0, e0⟩ := is_v ga0
  obtain rfl : w0 = (.int i0) := Option.some.inj e0
  obtain ⟨i1, e1⟩ := is_v ga1
  obtain rfl : w1 = (.int i1) := Option.some.inj e1
  obtain ⟨i2, e2⟩ := is_v ga2
  obtain rfl : w2 = (.int i2) := Option.some.inj e2
  obtain ⟨i3, e3⟩ := is_v ga3
  obtain rfl : w3 = (.int i3) := Option.some.inj e3
  obtain ⟨i4, e4⟩ := is_v gr3
  obtain rfl : w4 = (.int i4) := Option.some.inj e4
  obtain ⟨hsets, -⟩ := atoms_of jdkStatics_1 (show (jdkStatics_1.foldr Jvm.Cond.and restOwn_1).before _ s = true from hrest)
  have st0 := hsets _ (List.mem_of_getElem? (i := 0) rfl)
  have st1 := hsets _ (List.mem_of_getElem? (i := 1) rfl)
  have st2 := hsets _ (List.mem_of_getElem? (i := 2) rfl)
  have st3 := Cond.before_iff.mp (hsets _ (List.mem_of_getElem? (i := 3) rfl))
  have st4 := Cond.before_iff.mp (hsets _ (List.mem_of_getElem? (i := 4) rfl))
  have st6 := Cond.before_iff.mp (hsets _ (List.mem_of_getElem? (i := 6) rfl))
  have st7 := Cond.before_iff.mp (hsets _ (List.mem_of_getElem? (i := 7) rfl))
  have SH := Sta.start (eqv_i (Term.int_eval _) st3) (Or.inl st1)
  obtain ⟨ac, eac⟩ := arr_v st4
  have SC := Sta.start eac (Or.inr ⟨(hw _ (List.mem_of_getElem? (i := 25) rfl)), st2⟩)
  obtain ⟨cA, AA⟩ := Arr.start eac st4
  have LL := eqv_i (Term.int_eval _) st6
  have fin := AA.fin (Vm.Alike.refl _)
  obtain ⟨hl, hlen⟩ := own_lenOf eac fin LL
  have BX := Bxs.start (val := fun j => .int (j - 128)) (fun _ => eac) AA hl hlen (by decide) st7 (fun X j nn h => eqv_i (own_sub nn) h)
  obtain ⟨vsC, AV, HC⟩ := own_arvOf (P := fun y => Exa s s.heap y "java/lang/Integer") BX.1 BX.2.1 BX.2.2.1 (Or.inr trivial) (fun j hj => by obtain ⟨b, h1, h2, -⟩ := BX.2.2.2 j hj; exact ⟨b, h1, h2⟩) (fun _ => rfl) hl

  obtain ⟨n, o, h1, h2, h3, _, L, rfl, ⟨rfl, N⟩, hq⟩ := rm0 l s _ hw i0 i1 i2 i3 i4 ac _ vsC s.heap s.heap.size (Nat.le_refl _) (Old.start s) SH SC AV HC p e ha hc hk s m _ below hf ((Spec.applies_iff_loose hf).mp happ).1 ⟨rfl, State.Warmed39.refl s, rfl⟩ trivial
  exact ⟨n, _, h1, h2, h3, hpost _ _ _ _ _ _ ⟨Cond.after_iff.mpr rfl, Cond.after_iff.mpr (eq_i res_at (Term.int_eval (1)) rfl), trivial⟩ ⟨hq.1, hq.2.1, (hq.2.2.sift fun y hy => Or.inr (N y hy)).mono (by decide) (by decide)⟩⟩
theorem main_1_1 : Claimed_1_1 := comes_1 fun _ _ _ _ _ _ h hF => ⟨h.1, hF⟩
theorem main_1_2 : Claimed_1_2 := comes_1 fun _ _ _ _ _ _ h hF => ⟨h.2.1, hF⟩
end Jvm.Pilot.@@N@@
namespace Jvm.Pilot.@@N@@
open Jvm Jvm.ClassFile Sem Op Lib Jvm.Free Jvm.Stand Jvm.Pilot.@@N@@.Jvm.D
/-! MADE BY PROGRAM (witnessworld.py) out of the Statement's table words and the real class files: 16 classes; the members and pool entries that the words name. The judged class is class 1, her method 1. -/
namespace start1
open Jvm.ClassFile
def u (s : String) : CpInfo := .utf8 (stringToUtf16 s)
/-- a pool by its gaps: so many unusable entries, then the entry; so many at the end -/
def gap : Nat → List CpInfo → List CpInfo
  | 0, r => r
  | n + 1, r => .unusable :: gap n r
def poolList (es : List (Nat × CpInfo)) (last : Nat) : List CpInfo := es.foldr (fun e r => gap e.1 (e.2 :: r)) (gap last [])
def pool (es : List (Nat × CpInfo)) (last : Nat) : Array CpInfo := ⟨poolList es last⟩
def fileOf (pool : Array CpInfo) (this : Nat) (attrs : Array Attribute := #[]) (ms : Array MethodInfo := #[]) (fl : Nat := 33) (sup : Nat := 0) (ifs : Array Nat := #[]) (fds : Array FieldInfo := #[]) : ClassFile where
  minorVersion := 0
  majorVersion := 65
  constantPool := pool
  accessFlags := fl
  thisClass := this
  superClass := sup
  interfaces := ifs
  fields := fds
  methods := ms
  attributes := attrs
def plain (name : String) (sup : Option ClassId) : Class where
  name := name
  kind := .ordinary
  loader := none
  accessFlags := 33
  super := sup
  interfaces := #[]
  cf := none
  fields := #[]
  methods := #[]
  instanceTypes := #[]
  staticTypes := #[]
  resolved := #[]
  callSites := []
  init := .initialized
  statics := none
  mirror := none

def pool0 : Array CpInfo := pool [(5, u "<init>"), (0, u "()V"), (1, .class_ 10), (1, u "java/lang/Object")] 113

def k0c0 : Code := { maxStack := 0, maxLocals := 1, code := object_method_1_code, exceptionTable := #[], attributes := #[] }
def k0m0 : Method := { name := "<init>", desc := "()V", sig := { parameters := [], returnType := none }, accessFlags := 1, code := some k0c0 }
/-- java/lang/Object -/
def k0 : Class := { plain "java/lang/Object" none with
  accessFlags := 33
  interfaces := #[]
  cf := some (fileOf pool0 8 #[] #[{ accessFlags := 1, nameIndex := 5, descriptorIndex := 6, attributes := #[] }] 33 0 #[] #[])
  fields := #[]
  methods := #[k0m0]
  instanceTypes := #[]
  staticTypes := #[]
  resolved := Array.replicate 124 none
  statics := none }

def pool1 : Array CpInfo := pool [(2, .class_ 4), (1, u "java/lang/Object"), (0, u "<init>"), (0, u "()V"), (0, .class_ 8), (0, u "com/example/libring/libring/slots/SlotRange"), (0, .methodref 7 10), (0, .nameAndType 5 11), (0, u "(II)V"), (0, .methodref 7 13), (0, .nameAndType 14 15), (0, u "equals"), (0, u "(Ljava/lang/Object;)Z"), (0, .methodref 17 18), (0, .class_ 19), (0, .nameAndType 20 21), (0, u "java/lang/Integer"), (0, u "valueOf"), (0, u "(I)Ljava/lang/Integer;"), (0, .class_ 23), (0, u "com/example/libring/libring/slots/SlotRangeEqualsPinLaw"), (2, u "law"), (0, u "(IIIII)Z")] 3

def k1m0 : Method := { name := "<init>", desc := "()V", sig := { parameters := [], returnType := none }, accessFlags := 1, code := none }
def k1c1 : Code := { maxStack := 4, maxLocals := 11, code := code, exceptionTable := #[], attributes := #[] }
def k1m1 : Method := { name := "law", desc := "(IIIII)Z", sig := { parameters := [.int, .int, .int, .int, .int], returnType := some .boolean }, accessFlags := 9, code := some k1c1 }
/-- com/example/libring/libring/slots/SlotRangeEqualsPinLaw -/
def k1 : Class := { plain "com/example/libring/libring/slots/SlotRangeEqualsPinLaw" (some 0) with
  accessFlags := 49
  interfaces := #[]
  cf := some (fileOf pool1 22 #[] #[{ accessFlags := 1, nameIndex := 5, descriptorIndex := 6, attributes := #[] }, { accessFlags := 9, nameIndex := 26, descriptorIndex := 27, attributes := #[] }] 49 2 #[] #[])
  fields := #[]
  methods := #[k1m0, k1m1]
  instanceTypes := #[]
  staticTypes := #[]
  resolved := Array.replicate 31 none
  statics := none }

def pool2 : Array CpInfo := pool [(1, .methodref 2 3), (0, .class_ 4), (0, .nameAndType 5 6), (0, u "java/lang/Object"), (0, u "<init>"), (0, u "()V"), (0, .fieldref 8 9), (0, .class_ 10), (0, .nameAndType 11 12), (0, u "com/example/libring/libring/slots/SlotRange"), (0, u "first"), (0, u "I"), (0, .fieldref 8 14), (0, .nameAndType 15 12), (0, u "last"), (4, u "(II)V"), (3, u "equals"), (0, u "(Ljava/lang/Object;)Z")] 21

def k2c0 : Code := { maxStack := 2, maxLocals := 3, code := prog_15_method_1_code, exceptionTable := #[], attributes := #[] }
def k2m0 : Method := { name := "<init>", desc := "(II)V", sig := { parameters := [.int, .int], returnType := none }, accessFlags := 0, code := some k2c0 }
def k2c1 : Code := { maxStack := 2, maxLocals := 3, code := prog_15_method_4_code, exceptionTable := #[], attributes := #[] }
def k2m1 : Method := { name := "equals", desc := "(Ljava/lang/Object;)Z", sig := { parameters := [(.object "java/lang/Object")], returnType := some .boolean }, accessFlags := 1, code := some k2c1 }
/-- com/example/libring/libring/slots/SlotRange -/
def k2 : Class := { plain "com/example/libring/libring/slots/SlotRange" (some 0) with
  accessFlags := 49
  interfaces := #[]
  cf := some (fileOf pool2 8 #[] #[{ accessFlags := 0, nameIndex := 5, descriptorIndex := 20, attributes := #[] }, { accessFlags := 1, nameIndex := 24, descriptorIndex := 25, attributes := #[] }] 49 2 #[] #[{ accessFlags := 18, nameIndex := 11, descriptorIndex := 12, attributes := #[] }, { accessFlags := 18, nameIndex := 15, descriptorIndex := 12, attributes := #[] }])
  fields := #[{ name := "first", type := .int, accessFlags := 18, slot := 0, constantValue := 0 }, { name := "last", type := .int, accessFlags := 18, slot := 1, constantValue := 0 }]
  methods := #[k2m0, k2m1]
  instanceTypes := #[.int, .int]
  staticTypes := #[]
  resolved := Array.replicate 47 none
  statics := none }

def pool3 : Array CpInfo := pool [(1, .class_ 2), (0, u "java/io/Serializable"), (0, .class_ 4), (0, u "java/lang/Object")] 2

/-- java/io/Serializable -/
def k3 : Class := { plain "java/io/Serializable" (some 0) with
  accessFlags := 1537
  interfaces := #[]
  cf := some (fileOf pool3 1 #[] #[] 1537 3 #[] #[])
  fields := #[]
  methods := #[]
  instanceTypes := #[]
  staticTypes := #[]
  resolved := Array.replicate 7 none
  statics := none }

def pool4 : Array CpInfo := pool [(1, .methodref 2 3), (0, .class_ 4), (0, .nameAndType 5 6), (0, u "java/lang/Object"), (0, u "<init>"), (0, u "()V"), (1, .class_ 10), (1, u "java/lang/Number"), (2, .class_ 14), (0, u "java/io/Serializable"), (0, u "serialVersionUID"), (0, u "J")] 20

def k4c0 : Code := { maxStack := 1, maxLocals := 1, code := jdk_18_method_1_code, exceptionTable := #[], attributes := #[] }
def k4m0 : Method := { name := "<init>", desc := "()V", sig := { parameters := [], returnType := none }, accessFlags := 1, code := some k4c0 }
/-- java/lang/Number -/
def k4 : Class := { plain "java/lang/Number" (some 0) with
  accessFlags := 1057
  interfaces := #[3]
  cf := some (fileOf pool4 8 #[] #[{ accessFlags := 1, nameIndex := 5, descriptorIndex := 6, attributes := #[] }] 1057 2 #[13] #[{ accessFlags := 26, nameIndex := 15, descriptorIndex := 16, attributes := #[] }])
  fields := #[{ name := "serialVersionUID", type := .long, accessFlags := 26, slot := 0, constantValue := 0 }]
  methods := #[k4m0]
  instanceTypes := #[]
  staticTypes := #[.long]
  resolved := Array.replicate 37 none
  statics := none }

def pool5 : Array CpInfo := pool [(1, .class_ 2), (0, u "java/lang/Comparable"), (0, .class_ 4), (0, u "java/lang/Object")] 7

/-- java/lang/Comparable -/
def k5 : Class := { plain "java/lang/Comparable" (some 0) with
  accessFlags := 1537
  interfaces := #[]
  cf := some (fileOf pool5 1 #[] #[] 1537 3 #[] #[])
  fields := #[]
  methods := #[]
  instanceTypes := #[]
  staticTypes := #[]
  resolved := Array.replicate 12 none
  statics := none }

def pool6 : Array CpInfo := pool [(1, .class_ 2), (0, u "java/lang/constant/Constable"), (0, .class_ 4), (0, u "java/lang/Object")] 6

/-- java/lang/constant/Constable -/
def k6 : Class := { plain "java/lang/constant/Constable" (some 0) with
  accessFlags := 1537
  interfaces := #[]
  cf := some (fileOf pool6 1 #[] #[] 1537 3 #[] #[])
  fields := #[]
  methods := #[]
  instanceTypes := #[]
  staticTypes := #[]
  resolved := Array.replicate 11 none
  statics := none }

def pool7 : Array CpInfo := pool [(1, .class_ 2), (0, u "java/lang/constant/ConstantDesc"), (0, .class_ 4), (0, u "java/lang/Object")] 32

/-- java/lang/constant/ConstantDesc -/
def k7 : Class := { plain "java/lang/constant/ConstantDesc" (some 0) with
  accessFlags := 1537
  interfaces := #[]
  cf := some (fileOf pool7 1 #[] #[] 1537 3 #[] #[])
  fields := #[]
  methods := #[]
  instanceTypes := #[]
  staticTypes := #[]
  resolved := Array.replicate 37 none
  statics := none }

def pool8 : Array CpInfo := pool [(1, .class_ 2), (0, u "java/lang/Integer"), (16, u "digits"), (0, u "[C"), (46, u "<init>"), (17, u "DigitOnes"), (0, u "[B"), (2, u "DigitTens"), (10, .nameAndType 67 101), (0, u "()V"), (85, u "valueOf"), (0, u "(I)Ljava/lang/Integer;"), (0, .class_ 190), (0, u "java/lang/Integer$IntegerCache"), (0, .fieldref 189 192), (0, .nameAndType 193 194), (0, u "high"), (0, u "I"), (0, .fieldref 189 196), (0, .nameAndType 197 198), (0, u "cache"), (0, u "[Ljava/lang/Integer;"), (0, .methodref 1 200), (0, .nameAndType 67 201), (0, u "(I)V"), (0, .methodref 203 100), (0, .class_ 204), (0, u "java/lang/Number"), (0, .fieldref 1 206), (0, .nameAndType 207 194), (0, u "value"), (94, u "TYPE"), (0, u "Ljava/lang/Class;"), (0, .class_ 305), (0, u "java/lang/Comparable"), (0, .class_ 307), (0, u "java/lang/constant/Constable"), (0, .class_ 309), (0, u "java/lang/constant/ConstantDesc"), (0, u "MIN_VALUE"), (1, u "MAX_VALUE"), (3, u "SIZE"), (1, u "BYTES"), (1, u "serialVersionUID"), (0, u "J")] 131

def k8c0 : Code := { maxStack := 3, maxLocals := 1, code := jdk_33_method_22_code, exceptionTable := #[], attributes := #[] }
def k8m0 : Method := { name := "valueOf", desc := "(I)Ljava/lang/Integer;", sig := { parameters := [.int], returnType := some (.object "java/lang/Integer") }, accessFlags := 9, code := some k8c0 }
def k8c1 : Code := { maxStack := 2, maxLocals := 2, code := jdk_33_method_23_code, exceptionTable := #[], attributes := #[] }
def k8m1 : Method := { name := "<init>", desc := "(I)V", sig := { parameters := [.int], returnType := none }, accessFlags := 1, code := some k8c1 }
/-- java/lang/Integer -/
def k8 : Class := { plain "java/lang/Integer" (some 4) with
  accessFlags := 49
  interfaces := #[5, 6, 7]
  cf := some (fileOf pool8 1 #[.nestMembers #[189]] #[{ accessFlags := 9, nameIndex := 187, descriptorIndex := 188, attributes := #[] }, { accessFlags := 1, nameIndex := 67, descriptorIndex := 201, attributes := #[] }] 49 203 #[304, 306, 308] #[{ accessFlags := 25, nameIndex := 310, descriptorIndex := 194, attributes := #[] }, { accessFlags := 25, nameIndex := 312, descriptorIndex := 194, attributes := #[] }, { accessFlags := 25, nameIndex := 302, descriptorIndex := 303, attributes := #[] }, { accessFlags := 24, nameIndex := 19, descriptorIndex := 20, attributes := #[] }, { accessFlags := 24, nameIndex := 89, descriptorIndex := 86, attributes := #[] }, { accessFlags := 24, nameIndex := 85, descriptorIndex := 86, attributes := #[] }, { accessFlags := 18, nameIndex := 207, descriptorIndex := 194, attributes := #[] }, { accessFlags := 25, nameIndex := 316, descriptorIndex := 194, attributes := #[] }, { accessFlags := 25, nameIndex := 318, descriptorIndex := 194, attributes := #[] }, { accessFlags := 26, nameIndex := 320, descriptorIndex := 321, attributes := #[] }])
  fields := #[{ name := "MIN_VALUE", type := .int, accessFlags := 25, slot := 0, constantValue := 0 }, { name := "MAX_VALUE", type := .int, accessFlags := 25, slot := 1, constantValue := 0 }, { name := "TYPE", type := (.object "java/lang/Class"), accessFlags := 25, slot := 2, constantValue := 0 }, { name := "digits", type := (.array .char), accessFlags := 24, slot := 3, constantValue := 0 }, { name := "DigitTens", type := (.array .byte), accessFlags := 24, slot := 4, constantValue := 0 }, { name := "DigitOnes", type := (.array .byte), accessFlags := 24, slot := 5, constantValue := 0 }, { name := "value", type := .int, accessFlags := 18, slot := 0, constantValue := 0 }, { name := "SIZE", type := .int, accessFlags := 25, slot := 6, constantValue := 0 }, { name := "BYTES", type := .int, accessFlags := 25, slot := 7, constantValue := 0 }, { name := "serialVersionUID", type := .long, accessFlags := 26, slot := 8, constantValue := 0 }]
  methods := #[k8m0, k8m1]
  instanceTypes := #[.int]
  staticTypes := #[.int, .int, (.object "java/lang/Class"), (.array .char), (.array .byte), (.array .byte), .int, .int, .long]
  resolved := Array.replicate 453 none
  statics := none }

def pool9 : Array CpInfo := pool [(2, .class_ 4), (1, u "java/lang/Object"), (0, u "<init>"), (0, u "()V"), (0, .class_ 8), (0, u "java/lang/Integer"), (7, .class_ 18), (1, u "java/lang/Integer$IntegerCache"), (0, u "$assertionsDisabled"), (0, u "Z"), (26, u "high"), (0, u "I"), (8, u "archivedCache"), (0, u "[Ljava/lang/Integer;"), (12, u "cache"), (0, u "low")] 27

def k9m0 : Method := { name := "<init>", desc := "()V", sig := { parameters := [], returnType := none }, accessFlags := 2, code := none }
/-- java/lang/Integer$IntegerCache -/
def k9 : Class := { plain "java/lang/Integer$IntegerCache" (some 0) with
  accessFlags := 48
  interfaces := #[]
  cf := some (fileOf pool9 16 #[.nestHost 7] #[{ accessFlags := 2, nameIndex := 5, descriptorIndex := 6, attributes := #[] }] 48 2 #[] #[{ accessFlags := 24, nameIndex := 72, descriptorIndex := 48, attributes := #[] }, { accessFlags := 24, nameIndex := 47, descriptorIndex := 48, attributes := #[] }, { accessFlags := 24, nameIndex := 71, descriptorIndex := 58, attributes := #[] }, { accessFlags := 8, nameIndex := 57, descriptorIndex := 58, attributes := #[] }, { accessFlags := 4120, nameIndex := 19, descriptorIndex := 20, attributes := #[] }])
  fields := #[{ name := "low", type := .int, accessFlags := 24, slot := 0, constantValue := 0 }, { name := "high", type := .int, accessFlags := 24, slot := 1, constantValue := 0 }, { name := "cache", type := (.array (.object "java/lang/Integer")), accessFlags := 24, slot := 2, constantValue := 0 }, { name := "archivedCache", type := (.array (.object "java/lang/Integer")), accessFlags := 8, slot := 3, constantValue := 0 }, { name := "$assertionsDisabled", type := .boolean, accessFlags := 4120, slot := 4, constantValue := 0 }]
  methods := #[k9m0]
  instanceTypes := #[]
  staticTypes := #[.int, .int, (.array (.object "java/lang/Integer")), (.array (.object "java/lang/Integer")), .boolean]
  resolved := Array.replicate 100 none
  statics := some 0 }

def pool10 : Array CpInfo := pool [(1, u "java/lang/Cloneable"), (0, .class_ 1), (0, u "java/lang/Object"), (0, .class_ 3)] 3

/-- java/lang/Cloneable -/
def k10 : Class := { plain "java/lang/Cloneable" (some 0) with
  accessFlags := 1537
  interfaces := #[]
  cf := some (fileOf pool10 2 #[] #[] 1537 4 #[] #[])
  fields := #[]
  methods := #[]
  instanceTypes := #[]
  staticTypes := #[]
  resolved := Array.replicate 8 none
  statics := none }

/-- the primitive byte -/
def k11 : Class := { plain "byte" none with kind := .primitive 'B', accessFlags := 0x411 }
/-- [B -/
def k12 : Class := { plain "[B" (some 0) with kind := .array 11 .byte, interfaces := #[10, 3], accessFlags := 1041 }

/-- the primitive int -/
def k13 : Class := { plain "int" none with kind := .primitive 'I', accessFlags := 0x411 }
/-- [I -/
def k14 : Class := { plain "[I" (some 0) with kind := .array 13 .int, interfaces := #[10, 3], accessFlags := 1041 }

/-- [Ljava/lang/Integer; -/
def k15 : Class := { plain "[Ljava/lang/Integer;" (some 0) with kind := .array 8 (.object "java/lang/Integer"), interfaces := #[10, 3], accessFlags := 1041 }

def heap : Heap := #[{ cls := 9, slots := #[.int 0, .int 127, .ref 1, .null, .int 0], vm := .statics 9 },
  { cls := 15, slots := #[.ref 2, .ref 3, .ref 4, .ref 5, .ref 6, .ref 7, .ref 8, .ref 9, .ref 10, .ref 11, .ref 12, .ref 13, .ref 14, .ref 15, .ref 16, .ref 17, .ref 18, .ref 19, .ref 20, .ref 21, .ref 22, .ref 23, .ref 24, .ref 25, .ref 26, .ref 27, .ref 28, .ref 29, .ref 30, .ref 31, .ref 32, .ref 33, .ref 34, .ref 35, .ref 36, .ref 37, .ref 38, .ref 39, .ref 40, .ref 41, .ref 42, .ref 43, .ref 44, .ref 45, .ref 46, .ref 47, .ref 48, .ref 49, .ref 50, .ref 51, .ref 52, .ref 53, .ref 54, .ref 55, .ref 56, .ref 57, .ref 58, .ref 59, .ref 60, .ref 61, .ref 62, .ref 63, .ref 64, .ref 65, .ref 66, .ref 67, .ref 68, .ref 69, .ref 70, .ref 71, .ref 72, .ref 73, .ref 74, .ref 75, .ref 76, .ref 77, .ref 78, .ref 79, .ref 80, .ref 81, .ref 82, .ref 83, .ref 84, .ref 85, .ref 86, .ref 87, .ref 88, .ref 89, .ref 90, .ref 91, .ref 92, .ref 93, .ref 94, .ref 95, .ref 96, .ref 97, .ref 98, .ref 99, .ref 100, .ref 101, .ref 102, .ref 103, .ref 104, .ref 105, .ref 106, .ref 107, .ref 108, .ref 109, .ref 110, .ref 111, .ref 112, .ref 113, .ref 114, .ref 115, .ref 116, .ref 117, .ref 118, .ref 119, .ref 120, .ref 121, .ref 122, .ref 123, .ref 124, .ref 125, .ref 126, .ref 127, .ref 128, .ref 129, .ref 130, .ref 131, .ref 132, .ref 133, .ref 134, .ref 135, .ref 136, .ref 137, .ref 138, .ref 139, .ref 140, .ref 141, .ref 142, .ref 143, .ref 144, .ref 145, .ref 146, .ref 147, .ref 148, .ref 149, .ref 150, .ref 151, .ref 152, .ref 153, .ref 154, .ref 155, .ref 156, .ref 157, .ref 158, .ref 159, .ref 160, .ref 161, .ref 162, .ref 163, .ref 164, .ref 165, .ref 166, .ref 167, .ref 168, .ref 169, .ref 170, .ref 171, .ref 172, .ref 173, .ref 174, .ref 175, .ref 176, .ref 177, .ref 178, .ref 179, .ref 180, .ref 181, .ref 182, .ref 183, .ref 184, .ref 185, .ref 186, .ref 187, .ref 188, .ref 189, .ref 190, .ref 191, .ref 192, .ref 193, .ref 194, .ref 195, .ref 196, .ref 197, .ref 198, .ref 199, .ref 200, .ref 201, .ref 202, .ref 203, .ref 204, .ref 205, .ref 206, .ref 207, .ref 208, .ref 209, .ref 210, .ref 211, .ref 212, .ref 213, .ref 214, .ref 215, .ref 216, .ref 217, .ref 218, .ref 219, .ref 220, .ref 221, .ref 222, .ref 223, .ref 224, .ref 225, .ref 226, .ref 227, .ref 228, .ref 229, .ref 230, .ref 231, .ref 232, .ref 233, .ref 234, .ref 235, .ref 236, .ref 237, .ref 238, .ref 239, .ref 240, .ref 241, .ref 242, .ref 243, .ref 244, .ref 245, .ref 246, .ref 247, .ref 248, .ref 249, .ref 250, .ref 251, .ref 252, .ref 253, .ref 254, .ref 255, .ref 256, .ref 257], vm := .none },
  { cls := 8, slots := #[.int (-128)], vm := .none },
  { cls := 8, slots := #[.int (-127)], vm := .none },
  { cls := 8, slots := #[.int (-126)], vm := .none },
  { cls := 8, slots := #[.int (-125)], vm := .none },
  { cls := 8, slots := #[.int (-124)], vm := .none },
  { cls := 8, slots := #[.int (-123)], vm := .none },
  { cls := 8, slots := #[.int (-122)], vm := .none },
  { cls := 8, slots := #[.int (-121)], vm := .none },
  { cls := 8, slots := #[.int (-120)], vm := .none },
  { cls := 8, slots := #[.int (-119)], vm := .none },
  { cls := 8, slots := #[.int (-118)], vm := .none },
  { cls := 8, slots := #[.int (-117)], vm := .none },
  { cls := 8, slots := #[.int (-116)], vm := .none },
  { cls := 8, slots := #[.int (-115)], vm := .none },
  { cls := 8, slots := #[.int (-114)], vm := .none },
  { cls := 8, slots := #[.int (-113)], vm := .none },
  { cls := 8, slots := #[.int (-112)], vm := .none },
  { cls := 8, slots := #[.int (-111)], vm := .none },
  { cls := 8, slots := #[.int (-110)], vm := .none },
  { cls := 8, slots := #[.int (-109)], vm := .none },
  { cls := 8, slots := #[.int (-108)], vm := .none },
  { cls := 8, slots := #[.int (-107)], vm := .none },
  { cls := 8, slots := #[.int (-106)], vm := .none },
  { cls := 8, slots := #[.int (-105)], vm := .none },
  { cls := 8, slots := #[.int (-104)], vm := .none },
  { cls := 8, slots := #[.int (-103)], vm := .none },
  { cls := 8, slots := #[.int (-102)], vm := .none },
  { cls := 8, slots := #[.int (-101)], vm := .none },
  { cls := 8, slots := #[.int (-100)], vm := .none },
  { cls := 8, slots := #[.int (-99)], vm := .none },
  { cls := 8, slots := #[.int (-98)], vm := .none },
  { cls := 8, slots := #[.int (-97)], vm := .none },
  { cls := 8, slots := #[.int (-96)], vm := .none },
  { cls := 8, slots := #[.int (-95)], vm := .none },
  { cls := 8, slots := #[.int (-94)], vm := .none },
  { cls := 8, slots := #[.int (-93)], vm := .none },
  { cls := 8, slots := #[.int (-92)], vm := .none },
  { cls := 8, slots := #[.int (-91)], vm := .none },
  { cls := 8, slots := #[.int (-90)], vm := .none },
  { cls := 8, slots := #[.int (-89)], vm := .none },
  { cls := 8, slots := #[.int (-88)], vm := .none },
  { cls := 8, slots := #[.int (-87)], vm := .none },
  { cls := 8, slots := #[.int (-86)], vm := .none },
  { cls := 8, slots := #[.int (-85)], vm := .none },
  { cls := 8, slots := #[.int (-84)], vm := .none },
  { cls := 8, slots := #[.int (-83)], vm := .none },
  { cls := 8, slots := #[.int (-82)], vm := .none },
  { cls := 8, slots := #[.int (-81)], vm := .none },
  { cls := 8, slots := #[.int (-80)], vm := .none },
  { cls := 8, slots := #[.int (-79)], vm := .none },
  { cls := 8, slots := #[.int (-78)], vm := .none },
  { cls := 8, slots := #[.int (-77)], vm := .none },
  { cls := 8, slots := #[.int (-76)], vm := .none },
  { cls := 8, slots := #[.int (-75)], vm := .none },
  { cls := 8, slots := #[.int (-74)], vm := .none },
  { cls := 8, slots := #[.int (-73)], vm := .none },
  { cls := 8, slots := #[.int (-72)], vm := .none },
  { cls := 8, slots := #[.int (-71)], vm := .none },
  { cls := 8, slots := #[.int (-70)], vm := .none },
  { cls := 8, slots := #[.int (-69)], vm := .none },
  { cls := 8, slots := #[.int (-68)], vm := .none },
  { cls := 8, slots := #[.int (-67)], vm := .none },
  { cls := 8, slots := #[.int (-66)], vm := .none },
  { cls := 8, slots := #[.int (-65)], vm := .none },
  { cls := 8, slots := #[.int (-64)], vm := .none },
  { cls := 8, slots := #[.int (-63)], vm := .none },
  { cls := 8, slots := #[.int (-62)], vm := .none },
  { cls := 8, slots := #[.int (-61)], vm := .none },
  { cls := 8, slots := #[.int (-60)], vm := .none },
  { cls := 8, slots := #[.int (-59)], vm := .none },
  { cls := 8, slots := #[.int (-58)], vm := .none },
  { cls := 8, slots := #[.int (-57)], vm := .none },
  { cls := 8, slots := #[.int (-56)], vm := .none },
  { cls := 8, slots := #[.int (-55)], vm := .none },
  { cls := 8, slots := #[.int (-54)], vm := .none },
  { cls := 8, slots := #[.int (-53)], vm := .none },
  { cls := 8, slots := #[.int (-52)], vm := .none },
  { cls := 8, slots := #[.int (-51)], vm := .none },
  { cls := 8, slots := #[.int (-50)], vm := .none },
  { cls := 8, slots := #[.int (-49)], vm := .none },
  { cls := 8, slots := #[.int (-48)], vm := .none },
  { cls := 8, slots := #[.int (-47)], vm := .none },
  { cls := 8, slots := #[.int (-46)], vm := .none },
  { cls := 8, slots := #[.int (-45)], vm := .none },
  { cls := 8, slots := #[.int (-44)], vm := .none },
  { cls := 8, slots := #[.int (-43)], vm := .none },
  { cls := 8, slots := #[.int (-42)], vm := .none },
  { cls := 8, slots := #[.int (-41)], vm := .none },
  { cls := 8, slots := #[.int (-40)], vm := .none },
  { cls := 8, slots := #[.int (-39)], vm := .none },
  { cls := 8, slots := #[.int (-38)], vm := .none },
  { cls := 8, slots := #[.int (-37)], vm := .none },
  { cls := 8, slots := #[.int (-36)], vm := .none },
  { cls := 8, slots := #[.int (-35)], vm := .none },
  { cls := 8, slots := #[.int (-34)], vm := .none },
  { cls := 8, slots := #[.int (-33)], vm := .none },
  { cls := 8, slots := #[.int (-32)], vm := .none },
  { cls := 8, slots := #[.int (-31)], vm := .none },
  { cls := 8, slots := #[.int (-30)], vm := .none },
  { cls := 8, slots := #[.int (-29)], vm := .none },
  { cls := 8, slots := #[.int (-28)], vm := .none },
  { cls := 8, slots := #[.int (-27)], vm := .none },
  { cls := 8, slots := #[.int (-26)], vm := .none },
  { cls := 8, slots := #[.int (-25)], vm := .none },
  { cls := 8, slots := #[.int (-24)], vm := .none },
  { cls := 8, slots := #[.int (-23)], vm := .none },
  { cls := 8, slots := #[.int (-22)], vm := .none },
  { cls := 8, slots := #[.int (-21)], vm := .none },
  { cls := 8, slots := #[.int (-20)], vm := .none },
  { cls := 8, slots := #[.int (-19)], vm := .none },
  { cls := 8, slots := #[.int (-18)], vm := .none },
  { cls := 8, slots := #[.int (-17)], vm := .none },
  { cls := 8, slots := #[.int (-16)], vm := .none },
  { cls := 8, slots := #[.int (-15)], vm := .none },
  { cls := 8, slots := #[.int (-14)], vm := .none },
  { cls := 8, slots := #[.int (-13)], vm := .none },
  { cls := 8, slots := #[.int (-12)], vm := .none },
  { cls := 8, slots := #[.int (-11)], vm := .none },
  { cls := 8, slots := #[.int (-10)], vm := .none },
  { cls := 8, slots := #[.int (-9)], vm := .none },
  { cls := 8, slots := #[.int (-8)], vm := .none },
  { cls := 8, slots := #[.int (-7)], vm := .none },
  { cls := 8, slots := #[.int (-6)], vm := .none },
  { cls := 8, slots := #[.int (-5)], vm := .none },
  { cls := 8, slots := #[.int (-4)], vm := .none },
  { cls := 8, slots := #[.int (-3)], vm := .none },
  { cls := 8, slots := #[.int (-2)], vm := .none },
  { cls := 8, slots := #[.int (-1)], vm := .none },
  { cls := 8, slots := #[.int 0], vm := .none },
  { cls := 8, slots := #[.int 1], vm := .none },
  { cls := 8, slots := #[.int 2], vm := .none },
  { cls := 8, slots := #[.int 3], vm := .none },
  { cls := 8, slots := #[.int 4], vm := .none },
  { cls := 8, slots := #[.int 5], vm := .none },
  { cls := 8, slots := #[.int 6], vm := .none },
  { cls := 8, slots := #[.int 7], vm := .none },
  { cls := 8, slots := #[.int 8], vm := .none },
  { cls := 8, slots := #[.int 9], vm := .none },
  { cls := 8, slots := #[.int 10], vm := .none },
  { cls := 8, slots := #[.int 11], vm := .none },
  { cls := 8, slots := #[.int 12], vm := .none },
  { cls := 8, slots := #[.int 13], vm := .none },
  { cls := 8, slots := #[.int 14], vm := .none },
  { cls := 8, slots := #[.int 15], vm := .none },
  { cls := 8, slots := #[.int 16], vm := .none },
  { cls := 8, slots := #[.int 17], vm := .none },
  { cls := 8, slots := #[.int 18], vm := .none },
  { cls := 8, slots := #[.int 19], vm := .none },
  { cls := 8, slots := #[.int 20], vm := .none },
  { cls := 8, slots := #[.int 21], vm := .none },
  { cls := 8, slots := #[.int 22], vm := .none },
  { cls := 8, slots := #[.int 23], vm := .none },
  { cls := 8, slots := #[.int 24], vm := .none },
  { cls := 8, slots := #[.int 25], vm := .none },
  { cls := 8, slots := #[.int 26], vm := .none },
  { cls := 8, slots := #[.int 27], vm := .none },
  { cls := 8, slots := #[.int 28], vm := .none },
  { cls := 8, slots := #[.int 29], vm := .none },
  { cls := 8, slots := #[.int 30], vm := .none },
  { cls := 8, slots := #[.int 31], vm := .none },
  { cls := 8, slots := #[.int 32], vm := .none },
  { cls := 8, slots := #[.int 33], vm := .none },
  { cls := 8, slots := #[.int 34], vm := .none },
  { cls := 8, slots := #[.int 35], vm := .none },
  { cls := 8, slots := #[.int 36], vm := .none },
  { cls := 8, slots := #[.int 37], vm := .none },
  { cls := 8, slots := #[.int 38], vm := .none },
  { cls := 8, slots := #[.int 39], vm := .none },
  { cls := 8, slots := #[.int 40], vm := .none },
  { cls := 8, slots := #[.int 41], vm := .none },
  { cls := 8, slots := #[.int 42], vm := .none },
  { cls := 8, slots := #[.int 43], vm := .none },
  { cls := 8, slots := #[.int 44], vm := .none },
  { cls := 8, slots := #[.int 45], vm := .none },
  { cls := 8, slots := #[.int 46], vm := .none },
  { cls := 8, slots := #[.int 47], vm := .none },
  { cls := 8, slots := #[.int 48], vm := .none },
  { cls := 8, slots := #[.int 49], vm := .none },
  { cls := 8, slots := #[.int 50], vm := .none },
  { cls := 8, slots := #[.int 51], vm := .none },
  { cls := 8, slots := #[.int 52], vm := .none },
  { cls := 8, slots := #[.int 53], vm := .none },
  { cls := 8, slots := #[.int 54], vm := .none },
  { cls := 8, slots := #[.int 55], vm := .none },
  { cls := 8, slots := #[.int 56], vm := .none },
  { cls := 8, slots := #[.int 57], vm := .none },
  { cls := 8, slots := #[.int 58], vm := .none },
  { cls := 8, slots := #[.int 59], vm := .none },
  { cls := 8, slots := #[.int 60], vm := .none },
  { cls := 8, slots := #[.int 61], vm := .none },
  { cls := 8, slots := #[.int 62], vm := .none },
  { cls := 8, slots := #[.int 63], vm := .none },
  { cls := 8, slots := #[.int 64], vm := .none },
  { cls := 8, slots := #[.int 65], vm := .none },
  { cls := 8, slots := #[.int 66], vm := .none },
  { cls := 8, slots := #[.int 67], vm := .none },
  { cls := 8, slots := #[.int 68], vm := .none },
  { cls := 8, slots := #[.int 69], vm := .none },
  { cls := 8, slots := #[.int 70], vm := .none },
  { cls := 8, slots := #[.int 71], vm := .none },
  { cls := 8, slots := #[.int 72], vm := .none },
  { cls := 8, slots := #[.int 73], vm := .none },
  { cls := 8, slots := #[.int 74], vm := .none },
  { cls := 8, slots := #[.int 75], vm := .none },
  { cls := 8, slots := #[.int 76], vm := .none },
  { cls := 8, slots := #[.int 77], vm := .none },
  { cls := 8, slots := #[.int 78], vm := .none },
  { cls := 8, slots := #[.int 79], vm := .none },
  { cls := 8, slots := #[.int 80], vm := .none },
  { cls := 8, slots := #[.int 81], vm := .none },
  { cls := 8, slots := #[.int 82], vm := .none },
  { cls := 8, slots := #[.int 83], vm := .none },
  { cls := 8, slots := #[.int 84], vm := .none },
  { cls := 8, slots := #[.int 85], vm := .none },
  { cls := 8, slots := #[.int 86], vm := .none },
  { cls := 8, slots := #[.int 87], vm := .none },
  { cls := 8, slots := #[.int 88], vm := .none },
  { cls := 8, slots := #[.int 89], vm := .none },
  { cls := 8, slots := #[.int 90], vm := .none },
  { cls := 8, slots := #[.int 91], vm := .none },
  { cls := 8, slots := #[.int 92], vm := .none },
  { cls := 8, slots := #[.int 93], vm := .none },
  { cls := 8, slots := #[.int 94], vm := .none },
  { cls := 8, slots := #[.int 95], vm := .none },
  { cls := 8, slots := #[.int 96], vm := .none },
  { cls := 8, slots := #[.int 97], vm := .none },
  { cls := 8, slots := #[.int 98], vm := .none },
  { cls := 8, slots := #[.int 99], vm := .none },
  { cls := 8, slots := #[.int 100], vm := .none },
  { cls := 8, slots := #[.int 101], vm := .none },
  { cls := 8, slots := #[.int 102], vm := .none },
  { cls := 8, slots := #[.int 103], vm := .none },
  { cls := 8, slots := #[.int 104], vm := .none },
  { cls := 8, slots := #[.int 105], vm := .none },
  { cls := 8, slots := #[.int 106], vm := .none },
  { cls := 8, slots := #[.int 107], vm := .none },
  { cls := 8, slots := #[.int 108], vm := .none },
  { cls := 8, slots := #[.int 109], vm := .none },
  { cls := 8, slots := #[.int 110], vm := .none },
  { cls := 8, slots := #[.int 111], vm := .none },
  { cls := 8, slots := #[.int 112], vm := .none },
  { cls := 8, slots := #[.int 113], vm := .none },
  { cls := 8, slots := #[.int 114], vm := .none },
  { cls := 8, slots := #[.int 115], vm := .none },
  { cls := 8, slots := #[.int 116], vm := .none },
  { cls := 8, slots := #[.int 117], vm := .none },
  { cls := 8, slots := #[.int 118], vm := .none },
  { cls := 8, slots := #[.int 119], vm := .none },
  { cls := 8, slots := #[.int 120], vm := .none },
  { cls := 8, slots := #[.int 121], vm := .none },
  { cls := 8, slots := #[.int 122], vm := .none },
  { cls := 8, slots := #[.int 123], vm := .none },
  { cls := 8, slots := #[.int 124], vm := .none },
  { cls := 8, slots := #[.int 125], vm := .none },
  { cls := 8, slots := #[.int 126], vm := .none },
  { cls := 8, slots := #[.int 127], vm := .none }]
def classes : Array Class := #[k0, k1, k2, k3, k4, k5, k6, k7, k8, k9, k10, k11, k12, k13, k14, k15]
def interned : List (Array UInt16 × Addr) := []
def slotsUsed : Nat := 517
def theMethod : MethodId := ⟨1, 1⟩
def args0 : Array Value := #[.int 5, .int 6, .int 7, .int 8, .int 9]
def aboutOver (below : List Frame) : State where
  vm := { classes := classes, interned := interned.toArray }
  heap := heap
  slotsUsed := slotsUsed
  threads := #[{ frames := .invoking theMethod args0 :: below }]
def below0 : List Frame := [.native { method := ⟨0, 0⟩, args := #[] }]
def about1 : State := aboutOver below0
def p0 : Program := .bare "" "" ""
def e0 : Env := launch0.env 0 0 0
theorem w_frames : about1.frames = Frame.invoking theMethod args0 :: below0 := rfl
set_option maxRecDepth 65536 in
theorem w_args : argsFit about1.vm theMethod args0 = true := by decide +kernel
set_option maxRecDepth 65536 in
theorem w_heap : heapFits about1 = true := by decide +kernel
set_option maxRecDepth 65536 in
theorem w_runnable : about1.curStatus? = some .runnable := by decide +kernel
set_option maxRecDepth 65536 in
theorem w_alone : about1.alone = true := by decide +kernel
set_option maxRecDepth 65536 in
theorem w_named : about1.methodNamed? x = some theMethod := by decide +kernel
set_option maxRecDepth 65536 in
theorem w_hears : about1.hears theMethod below0 = true := by decide +kernel
set_option maxRecDepth 65536 in
theorem w_ripe : about1.ripe theMethod args0 below0 = true := by decide +kernel
theorem w_running : about1.status = .running := rfl
set_option maxRecDepth 65536 in
theorem w_room : about1.hasRoom e0.platform room_1 = true :=
  launch0.hasRoom_least _ room_1 (by decide +kernel) (by decide +kernel) (by decide +kernel) (by decide +kernel) (by decide +kernel) (by decide +kernel)
theorem allAtoms_all (ts : List Jvm.Cond) (a : Array Jvm.Value) (st : Jvm.State) : (allAtoms ts).before a st = ts.all (fun c => c.before a st) := by
  induction ts with
  | nil => rfl
  | cons c t ih =>
    show (Jvm.Cond.and c (allAtoms t)).before a st = _
    rw [Jvm.Cond.before_and, ih, List.all_cons]
def words1 : List Jvm.Cond := Jvm.Cond.code x code maxLocals ret :: tables_1
/-- a 'code' word, met by the world's own term for the bytes: nothing is compared byte by byte -/
theorem code_word {y : MethodName} {bytes : ByteArray} {mx : Nat} {rt : Option FieldType} {a : Array Value} {s : State} {m : MethodId} {meth : Method} {c : Code} (h1 : s.methodNamed? y = some m) (h2 : s.vm.method? m = some meth) (h3 : meth.code = some c) (h4 : c.code = bytes)
    (h5 : (c.maxLocals == mx && c.exceptionTable.isEmpty && decide (c.maxStack ≤ mostOperands) && decide (meth.sig.returnType = rt) && !meth.locks && decide (parseMethodDescriptor y.desc = some meth.sig)) = true) : (Jvm.Cond.code y bytes mx rt).before a s = true := by
  simp only [Bool.and_eq_true, beq_iff_eq, Bool.not_eq_true', decide_eq_true_eq] at h5
  obtain ⟨⟨⟨⟨⟨g1, g2⟩, g3⟩, g4⟩, g5⟩, g6⟩ := h5
  simp [Cond.before, Cond.holds, Cond.value, h1, h2, h3, h4, g1, g2, g3, g4, g5, g6]
def isCode : Jvm.Cond → Bool
  | .code _ _ _ _ => true
  | _ => false
theorem all_split {L : List Jvm.Cond} {P : Jvm.Cond → Bool} (h1 : L.all (fun c => isCode c || P c) = true) (h2 : ∀ c ∈ L.filter isCode, P c = true) : L.all P = true := by
  refine List.all_eq_true.mpr fun c hc => ?_
  have h := List.all_eq_true.mp h1 c hc
  rcases Bool.eq_false_or_eq_true (isCode c) with hi | hi
  · exact h2 c (List.mem_filter.mpr ⟨hc, hi⟩)
  · simpa [hi] using h
set_option maxRecDepth 65536 in
theorem w_c0 : (Jvm.Cond.code x code maxLocals ret).before args0 about1 = true := code_word (m := ⟨1, 1⟩) (meth := k1m1) (c := k1c1) (by decide +kernel) rfl rfl rfl (by decide +kernel)
set_option maxRecDepth 65536 in
theorem w_c1 : (Jvm.Cond.code ({ cls := "com/example/libring/libring/slots/SlotRange", name := "<init>", desc := "(II)V" } : Jvm.MethodName) prog_15_method_1_code (3 : Nat) (Option.none : Option Jvm.ClassFile.FieldType)).before args0 about1 = true := code_word (m := ⟨2, 0⟩) (meth := k2m0) (c := k2c0) (by decide +kernel) rfl rfl rfl (by decide +kernel)
set_option maxRecDepth 65536 in
theorem w_c2 : (Jvm.Cond.code ({ cls := "java/lang/Object", name := "<init>", desc := "()V" } : Jvm.MethodName) object_method_1_code (1 : Nat) (Option.none : Option Jvm.ClassFile.FieldType)).before args0 about1 = true := code_word (m := ⟨0, 0⟩) (meth := k0m0) (c := k0c0) (by decide +kernel) rfl rfl rfl (by decide +kernel)
set_option maxRecDepth 65536 in
theorem w_c3 : (Jvm.Cond.code ({ cls := "com/example/libring/libring/slots/SlotRange", name := "equals", desc := "(Ljava/lang/Object;)Z" } : Jvm.MethodName) prog_15_method_4_code (3 : Nat) (Option.some Jvm.ClassFile.FieldType.boolean)).before args0 about1 = true := code_word (m := ⟨2, 1⟩) (meth := k2m1) (c := k2c1) (by decide +kernel) rfl rfl rfl (by decide +kernel)
set_option maxRecDepth 65536 in
theorem w_c4 : (Jvm.Cond.code ({ cls := "java/lang/Integer", name := "valueOf", desc := "(I)Ljava/lang/Integer;" } : Jvm.MethodName) jdk_33_method_22_code (1 : Nat) (Option.some (Jvm.ClassFile.FieldType.object "java/lang/Integer"))).before args0 about1 = true := code_word (m := ⟨8, 0⟩) (meth := k8m0) (c := k8c0) (by decide +kernel) rfl rfl rfl (by decide +kernel)
set_option maxRecDepth 65536 in
theorem w_c5 : (Jvm.Cond.code ({ cls := "java/lang/Integer", name := "<init>", desc := "(I)V" } : Jvm.MethodName) jdk_33_method_23_code (2 : Nat) (Option.none : Option Jvm.ClassFile.FieldType)).before args0 about1 = true := code_word (m := ⟨8, 1⟩) (meth := k8m1) (c := k8c1) (by decide +kernel) rfl rfl rfl (by decide +kernel)
set_option maxRecDepth 65536 in
theorem w_c6 : (Jvm.Cond.code ({ cls := "java/lang/Number", name := "<init>", desc := "()V" } : Jvm.MethodName) jdk_18_method_1_code (1 : Nat) (Option.none : Option Jvm.ClassFile.FieldType)).before args0 about1 = true := code_word (m := ⟨4, 0⟩) (meth := k4m0) (c := k4c0) (by decide +kernel) rfl rfl rfl (by decide +kernel)
def codes1 : List Jvm.Cond := [Jvm.Cond.code x code maxLocals ret, Jvm.Cond.code ({ cls := "com/example/libring/libring/slots/SlotRange", name := "<init>", desc := "(II)V" } : Jvm.MethodName) prog_15_method_1_code (3 : Nat) (Option.none : Option Jvm.ClassFile.FieldType), Jvm.Cond.code ({ cls := "java/lang/Object", name := "<init>", desc := "()V" } : Jvm.MethodName) object_method_1_code (1 : Nat) (Option.none : Option Jvm.ClassFile.FieldType), Jvm.Cond.code ({ cls := "com/example/libring/libring/slots/SlotRange", name := "equals", desc := "(Ljava/lang/Object;)Z" } : Jvm.MethodName) prog_15_method_4_code (3 : Nat) (Option.some Jvm.ClassFile.FieldType.boolean), Jvm.Cond.code ({ cls := "java/lang/Integer", name := "valueOf", desc := "(I)Ljava/lang/Integer;" } : Jvm.MethodName) jdk_33_method_22_code (1 : Nat) (Option.some (Jvm.ClassFile.FieldType.object "java/lang/Integer")), Jvm.Cond.code ({ cls := "java/lang/Integer", name := "<init>", desc := "(I)V" } : Jvm.MethodName) jdk_33_method_23_code (2 : Nat) (Option.none : Option Jvm.ClassFile.FieldType), Jvm.Cond.code ({ cls := "java/lang/Number", name := "<init>", desc := "()V" } : Jvm.MethodName) jdk_18_method_1_code (1 : Nat) (Option.none : Option Jvm.ClassFile.FieldType)]
set_option maxRecDepth 65536 in
theorem codes_eq : words1.filter isCode = codes1 := rfl
theorem w_codes : ∀ c ∈ words1.filter isCode, c.before args0 about1 = true := by
  rw [codes_eq]
  intro c hc
  simp only [codes1, List.mem_cons, List.not_mem_nil, or_false] at hc
  rcases hc with rfl | rfl | rfl | rfl | rfl | rfl | rfl
  · exact w_c0
  · exact w_c1
  · exact w_c2
  · exact w_c3
  · exact w_c4
  · exact w_c5
  · exact w_c6
set_option maxRecDepth 65536 in
theorem w_t1 : (words1.take 24).all (fun c => isCode c || c.before args0 about1) = true := by decide +kernel
set_option maxRecDepth 65536 in
theorem w_t2 : (words1.drop 24).all (fun c => isCode c || c.before args0 about1) = true := by decide +kernel
theorem w_tables : (allAtoms (Jvm.Cond.code x code maxLocals ret :: tables_1)).before args0 about1 = true := by
  rw [allAtoms_all]
  show words1.all (fun c => c.before args0 about1) = true
  refine all_split ?_ w_codes
  rw [← List.take_append_drop 24 words1, List.all_append, w_t1, w_t2]
  rfl
set_option maxRecDepth 65536 in
theorem w_rest : rest_1_c.before args0 about1 = true := by decide +kernel
set_option maxRecDepth 65536 in
theorem w_case : (Jvm.Cond.and given_1 narrow_1).before args0 about1 = true := by decide +kernel
theorem w_applies : (headSpec (Jvm.Cond.code x code maxLocals ret :: tables_1) room_1).applies x e0.platform about1 = true :=
  (Spec.applies_iff w_frames).mpr ⟨w_running, w_runnable, w_alone, w_named, w_hears, w_ripe, w_room, w_tables⟩
theorem atStart : AtStart classFile x code maxLocals ret World_1 tables_1 room_1 Calls_1 rest_1 Pre_1 launch0 p0 e0 about1 theMethod args0 below0 :=
  ⟨lists_1, trivial, launch0.admits_env _ _ _, launch0.least_env, fairChoices_fair.cas, fairChoices_fair.clock, w_frames, w_args, w_heap, w_applies, trivial, w_rest, w_case⟩
end start1
theorem witness_1 : WitnessClaimed_1 := ⟨start1.p0, start1.e0, start1.about1, start1.theMethod, start1.args0, start1.below0, start1.atStart⟩
end Jvm.Pilot.@@N@@
