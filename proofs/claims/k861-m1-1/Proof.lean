import JvmDerived
import JvmDerived.Pilot.@@N@@Statement
import JvmDerived.Pilot.@@N@@Code
set_option linter.unusedVariables false
set_option linter.unusedSimpArgs false
namespace Jvm.OwnK
open Jvm Sem ClassFile Op Lib Jvm.Stand Jvm.Free Jvm.LawKit Jvm.RoadKit
section A
variable {tabs : List Jvm.Cond} {a0 : Array Value} {Z : State} {own nm : String} {code : ByteArray} {ml : Nat} {ret : Option FieldType} {p : Program} {l : Launch} {e : Env} {R : Room} {s : State} {m : MethodId} {args : Array Value} {below : List Frame} {meth : Method} {c : Code} {n0 : Nat} {T : State} {h : Heap} {k n : Nat} {Q : Option Value → Heap → Prop} {G : Outcome → State → List Loc → Prop} {pc : Nat} {ls : Array Slot} {st : List Value}
/-- what stands fast through a method's walk -/
def Cx (tabs : List Jvm.Cond) (a0 : Array Value) (Z : State) (own nm : String) (code : ByteArray) (ml : Nat) (ret : Option FieldType) (p : Program) (s : State) (m : MethodId) (meth : Method) (c : Code) : Prop :=
  p.tables.exec = Jvm.exec ∧ Z.Warmed39 s.vm ∧ c.code = code ∧ c.maxLocals = ml ∧ s.vm.findClass own = some m.cls ∧ meth.sig.returnType = ret ∧ meth.locks = false ∧ meth.name = nm ∧ ∀ d ∈ tabs, d.before a0 Z = true
/-- where the walk stands: the heap h, k cells and n slots made so far, nothing below n0 written -/
def St (p : Program) (l : Launch) (e : Env) (R : Room) (s : State) (m : MethodId) (args : Array Value) (below : List Frame) (meth : Method) (c : Code) (n0 : Nat) (T : State) (h : Heap) (k n : Nat) : Prop :=
  ∃ locs, Stand p l e R s m args below meth c T locs k n ∧ T.heap = h ∧ Fr n0 locs ∧ n0 ≤ s.heap.size
/-- from this frame the method ends, and returns what Q says -/
def Run (p : Program) (e : Env) (below : List Frame) (n0 : Nat) (Q : Option Value → Heap → Prop) (G : Outcome → State → List Loc → Prop) (m : MethodId) (T : State) (pc : Nat) (ls : Array Slot) (st : List Value) : Prop :=
  ∃ s₂ o, Steps p.tables e below (T.setTop (mkF m pc ls st)) s₂ ∧ s₂.status = .running ∧ Ended s₂ below o ∧ ∃ v L, o = .returned v ∧ (Q v s₂.heap ∧ Fr n0 L) ∧ G o s₂ L
theorem Run.step {T' : State} {pc' : Nat} {ls' : Array Slot} {st' : List Value} (f : ∀ t, Steps p.tables e below (T'.setTop (mkF m pc' ls' st')) t → Steps p.tables e below (T.setTop (mkF m pc ls st)) t) (r : Run p e below n0 Q G m T' pc' ls' st') : Run p e below n0 Q G m T pc ls st := by
  obtain ⟨s₂, o, h1, h2⟩ := r
  exact ⟨s₂, o, f _ h1, h2⟩
theorem Run.steps {T' : State} {pc' : Nat} {ls' : Array Slot} {st' : List Value} (f : Steps p.tables e below (T.setTop (mkF m pc ls st)) (T'.setTop (mkF m pc' ls' st'))) (r : Run p e below n0 Q G m T' pc' ls' st') : Run p e below n0 Q G m T pc ls st := Run.step (fun _ q => f.trans q) r
theorem Run.cast {st' : List Value} (q : st = st') (r : Run p e below n0 Q G m T pc ls st') : Run p e below n0 Q G m T pc ls st := q ▸ r
theorem St.at' (X : St p l e R s m args below meth c n0 T h k n) : Jvm.At T m c below := by obtain ⟨_, X, -⟩ := X; exact X.here
theorem St.sz (X : St p l e R s m args below meth c n0 T h k n) : n0 ≤ h.size := by
  obtain ⟨_, X, rfl, -, q⟩ := X
  exact Nat.le_trans q X.same.2.1
theorem Cx.d {r : Except DecodeError (Instr × Nat)} (C : Cx tabs a0 Z own nm code ml ret p s m meth c) (q : decode code pc = r) : decode c.code pc = r := hb C.2.2.1 q
theorem Cx.w {d : Jvm.Cond} (C : Cx tabs a0 Z own nm code ml ret p s m meth c) (q : d ∈ tabs) : d.before a0 Z = true := C.2.2.2.2.2.2.2.2 d q
theorem s_iloadN (pc' : Nat) (C : Cx tabs a0 Z own nm code ml ret p s m meth c) (X : St p l e R s m args below meth c n0 T h k n) {i : Fin 4} {v : Int32} (hd : decode code pc = .ok (.iload_n i, 1)) (hl : ls[i.val]? = some (.val (.int v))) (r : Run p e below n0 Q G m T pc' ls (.int v :: st)) (hp : pc + 1 = pc' := by rfl) : Run p e below n0 Q G m T pc ls st := by
  subst hp
  exact Run.step (fun t q => XS.iloadN X.at' C.1 rfl (C.d hd) hl q) r
theorem s_iload (pc' : Nat) (C : Cx tabs a0 Z own nm code ml ret p s m meth c) (X : St p l e R s m args below meth c n0 T h k n) {i : Nat} {v : Int32} (hd : decode code pc = .ok (.iload i, 2)) (hl : ls[i]? = some (.val (.int v))) (r : Run p e below n0 Q G m T pc' ls (.int v :: st)) (hp : pc + 2 = pc' := by rfl) : Run p e below n0 Q G m T pc ls st := by
  subst hp
  exact Run.step (fun t q => XS.iload X.at' C.1 rfl (C.d hd) hl q) r
theorem s_aloadN (pc' : Nat) (C : Cx tabs a0 Z own nm code ml ret p s m meth c) (X : St p l e R s m args below meth c n0 T h k n) {i : Fin 4} {v : Value} (hd : decode code pc = .ok (.aload_n i, 1)) (hl : ls[i.val]? = some (.val v)) (hv : v.isRef = true) (r : Run p e below n0 Q G m T pc' ls (v :: st)) (hp : pc + 1 = pc' := by rfl) : Run p e below n0 Q G m T pc ls st := by
  subst hp
  exact Run.step (fun t q => XS.aloadN X.at' C.1 rfl (C.d hd) hl hv q) r
theorem s_aload (pc' : Nat) (C : Cx tabs a0 Z own nm code ml ret p s m meth c) (X : St p l e R s m args below meth c n0 T h k n) {i : Nat} {v : Value} (hd : decode code pc = .ok (.aload i, 2)) (hl : ls[i]? = some (.val v)) (hv : v.isRef = true) (r : Run p e below n0 Q G m T pc' ls (v :: st)) (hp : pc + 2 = pc' := by rfl) : Run p e below n0 Q G m T pc ls st := by
  subst hp
  exact Run.step (fun t q => XS.aload X.at' C.1 rfl (C.d hd) hl hv q) r
theorem s_istoreN (pc' : Nat) (C : Cx tabs a0 Z own nm code ml ret p s m meth c) (X : St p l e R s m args below meth c n0 T h k n) {i : Fin 4} {v : Int32} {l' : Array Slot} (hd : decode code pc = .ok (.istore_n i, 1)) (hl : storeLocals ls i.val (.int v) = some l') (r : Run p e below n0 Q G m T pc' l' st) (hp : pc + 1 = pc' := by rfl) : Run p e below n0 Q G m T pc ls (.int v :: st) := by
  subst hp
  exact Run.step (fun t q => XS.istoreN X.at' C.1 rfl (C.d hd) rfl hl q) r
theorem s_istore (pc' : Nat) (C : Cx tabs a0 Z own nm code ml ret p s m meth c) (X : St p l e R s m args below meth c n0 T h k n) {i : Nat} {v : Int32} {l' : Array Slot} (hd : decode code pc = .ok (.istore i, 2)) (hl : storeLocals ls i (.int v) = some l') (r : Run p e below n0 Q G m T pc' l' st) (hp : pc + 2 = pc' := by rfl) : Run p e below n0 Q G m T pc ls (.int v :: st) := by
  subst hp
  exact Run.step (fun t q => XS.istore X.at' C.1 rfl (C.d hd) rfl hl q) r
theorem s_astore (pc' : Nat) (C : Cx tabs a0 Z own nm code ml ret p s m meth c) (X : St p l e R s m args below meth c n0 T h k n) {i : Nat} {v : Value} {l' : Array Slot} (hd : decode code pc = .ok (.astore i, 2)) (hv : v.isRef = true) (hl : storeLocals ls i v = some l') (r : Run p e below n0 Q G m T pc' l' st) (hp : pc + 2 = pc' := by rfl) : Run p e below n0 Q G m T pc ls (v :: st) := by
  subst hp
  exact Run.step (fun t q => XS.astore X.at' C.1 rfl (C.d hd) rfl hv hl q) r
theorem s_iconst (pc' : Nat) (C : Cx tabs a0 Z own nm code ml ret p s m meth c) (X : St p l e R s m args below meth c n0 T h k n) {i : Int} {z : Int32} (hd : decode code pc = .ok (.iconst i, 1)) (hz : Int32.ofInt i = z) (r : Run p e below n0 Q G m T pc' ls (.int z :: st)) (hp : pc + 1 = pc' := by rfl) : Run p e below n0 Q G m T pc ls st := by
  subst hp
  exact Run.step (fun t q => XS.iconst X.at' C.1 rfl (C.d hd) (by rw [hz]; exact q)) r
theorem s_bipush (pc' : Nat) (C : Cx tabs a0 Z own nm code ml ret p s m meth c) (X : St p l e R s m args below meth c n0 T h k n) {i : Int} {z : Int32} (hd : decode code pc = .ok (.bipush i, 2)) (hz : (Int8.ofInt i).toInt32 = z) (r : Run p e below n0 Q G m T pc' ls (.int z :: st)) (hp : pc + 2 = pc' := by rfl) : Run p e below n0 Q G m T pc ls st := by
  subst hp
  exact Run.step (fun t q => XS.bipush X.at' C.1 rfl (C.d hd) (by rw [hz]; exact q)) r
theorem s_lconst (pc' : Nat) (C : Cx tabs a0 Z own nm code ml ret p s m meth c) (X : St p l e R s m args below meth c n0 T h k n) {i : Fin 2} {z : Int64} (hd : decode code pc = .ok (.lconst i, 1)) (hz : Int64.ofNat i = z) (r : Run p e below n0 Q G m T pc' ls (.long z :: st)) (hp : pc + 1 = pc' := by rfl) : Run p e below n0 Q G m T pc ls st := by
  subst hp
  exact Run.step (fun t q => XT.lconst X.at' C.1 rfl (C.d hd) (by rw [hz]; exact q)) r
theorem s_iand (pc' : Nat) (C : Cx tabs a0 Z own nm code ml ret p s m meth c) (X : St p l e R s m args below meth c n0 T h k n) {x y : Int32} (hd : decode code pc = .ok (.iand, 1)) (r : Run p e below n0 Q G m T pc' ls (.int (x &&& y) :: st)) (hp : pc + 1 = pc' := by rfl) : Run p e below n0 Q G m T pc ls (.int y :: .int x :: st) := by
  subst hp
  exact Run.step (fun t q => XS.iand X.at' C.1 rfl (C.d hd) rfl q) r
theorem s_ishr (pc' : Nat) (C : Cx tabs a0 Z own nm code ml ret p s m meth c) (X : St p l e R s m args below meth c n0 T h k n) {x y : Int32} (hd : decode code pc = .ok (.ishr, 1)) (r : Run p e below n0 Q G m T pc' ls (.int (x >>> (y &&& 31)) :: st)) (hp : pc + 1 = pc' := by rfl) : Run p e below n0 Q G m T pc ls (.int y :: .int x :: st) := by
  subst hp
  exact Run.step (fun t q => XT.ishr X.at' C.1 rfl (C.d hd) rfl q) r
theorem s_ladd (pc' : Nat) (C : Cx tabs a0 Z own nm code ml ret p s m meth c) (X : St p l e R s m args below meth c n0 T h k n) {x y : Int64} (hd : decode code pc = .ok (.ladd, 1)) (r : Run p e below n0 Q G m T pc' ls (.long (x + y) :: st)) (hp : pc + 1 = pc' := by rfl) : Run p e below n0 Q G m T pc ls (.long y :: .long x :: st) := by
  subst hp
  exact Run.step (fun t q => XT.ladd X.at' C.1 rfl (C.d hd) rfl q) r
theorem s_lcmp (pc' : Nat) (C : Cx tabs a0 Z own nm code ml ret p s m meth c) (X : St p l e R s m args below meth c n0 T h k n) {x y : Int64} (hd : decode code pc = .ok (.lcmp, 1)) (r : Run p e below n0 Q G m T pc' ls (.int (XT.cmpL x y) :: st)) (hp : pc + 1 = pc' := by rfl) : Run p e below n0 Q G m T pc ls (.long y :: .long x :: st) := by
  subst hp
  exact Run.step (fun t q => XT.lcmp X.at' C.1 rfl (C.d hd) rfl q) r
theorem s_dup (pc' : Nat) (C : Cx tabs a0 Z own nm code ml ret p s m meth c) (X : St p l e R s m args below meth c n0 T h k n) {v : Value} (hd : decode code pc = .ok (.dup, 1)) (hc : v.category = 1) (r : Run p e below n0 Q G m T pc' ls (v :: v :: st)) (hp : pc + 1 = pc' := by rfl) : Run p e below n0 Q G m T pc ls (v :: st) := by
  subst hp
  exact Run.step (fun t q => XS.dup X.at' C.1 rfl (C.d hd) rfl hc q) r
theorem s_goto (pc' : Nat) (C : Cx tabs a0 Z own nm code ml ret p s m meth c) (X : St p l e R s m args below meth c n0 T h k n) {o : Int} (hd : decode code pc = .ok (.goto o, 3)) (r : Run p e below n0 Q G m T pc' ls st) (hp : 0 ≤ (pc : Int) + o ∧ ((pc : Int) + o).toNat = pc' := by decide) : Run p e below n0 Q G m T pc ls st := by
  exact Run.step (fun t q => XS.goto X.at' C.1 rfl rfl (C.d hd) hp.1 hp.2 q) r
theorem s_icmp_eq (pY pN : Nat) (C : Cx tabs a0 Z own nm code ml ret p s m meth c) (X : St p l e R s m args below meth c n0 T h k n) {x y : Int32} {o : Int} (hd : decode code pc = .ok (.if_icmp .eq o, 3)) (ry : x = y → Run p e below n0 Q G m T pY ls st) (rn : ¬ x = y → Run p e below n0 Q G m T pN ls st) (hp : 0 ≤ (pc : Int) + o ∧ ((pc : Int) + o).toNat = pY ∧ pc + 3 = pN := by decide) : Run p e below n0 Q G m T pc ls (.int y :: .int x :: st) := by
  by_cases g : x = y
  · exact Run.step (fun t q => XS.icmpYes X.at' C.1 rfl rfl (C.d hd) rfl (teq g).1 hp.1 hp.2.1 q) (ry g)
  · obtain rfl := hp.2.2
    exact Run.step (fun t q => XS.icmpNo X.at' C.1 rfl (C.d hd) rfl (feq g).1 q) (rn g)
theorem s_if_eq (pY pN : Nat) (C : Cx tabs a0 Z own nm code ml ret p s m meth c) (X : St p l e R s m args below meth c n0 T h k n) {x : Int32} {o : Int} (hd : decode code pc = .ok (.ifCond .eq o, 3)) (ry : x = (0 : Int32) → Run p e below n0 Q G m T pY ls st) (rn : ¬ x = (0 : Int32) → Run p e below n0 Q G m T pN ls st) (hp : 0 ≤ (pc : Int) + o ∧ ((pc : Int) + o).toNat = pY ∧ pc + 3 = pN := by decide) : Run p e below n0 Q G m T pc ls (.int x :: st) := by
  by_cases g : x = (0 : Int32)
  · exact Run.step (fun t q => XS.ifYes X.at' C.1 rfl rfl (C.d hd) rfl ((if0 _ _).trans (teq g).1) hp.1 hp.2.1 q) (ry g)
  · obtain rfl := hp.2.2
    exact Run.step (fun t q => XS.ifNo X.at' C.1 rfl (C.d hd) rfl ((if0 _ _).trans (feq g).1) q) (rn g)
theorem s_icmp_ne (pY pN : Nat) (C : Cx tabs a0 Z own nm code ml ret p s m meth c) (X : St p l e R s m args below meth c n0 T h k n) {x y : Int32} {o : Int} (hd : decode code pc = .ok (.if_icmp .ne o, 3)) (ry : ¬ x = y → Run p e below n0 Q G m T pY ls st) (rn : x = y → Run p e below n0 Q G m T pN ls st) (hp : 0 ≤ (pc : Int) + o ∧ ((pc : Int) + o).toNat = pY ∧ pc + 3 = pN := by decide) : Run p e below n0 Q G m T pc ls (.int y :: .int x :: st) := by
  by_cases g : x = y
  · obtain rfl := hp.2.2
    exact Run.step (fun t q => XS.icmpNo X.at' C.1 rfl (C.d hd) rfl (teq g).2 q) (rn g)
  · exact Run.step (fun t q => XS.icmpYes X.at' C.1 rfl rfl (C.d hd) rfl (feq g).2 hp.1 hp.2.1 q) (ry g)
theorem s_if_ne (pY pN : Nat) (C : Cx tabs a0 Z own nm code ml ret p s m meth c) (X : St p l e R s m args below meth c n0 T h k n) {x : Int32} {o : Int} (hd : decode code pc = .ok (.ifCond .ne o, 3)) (ry : ¬ x = (0 : Int32) → Run p e below n0 Q G m T pY ls st) (rn : x = (0 : Int32) → Run p e below n0 Q G m T pN ls st) (hp : 0 ≤ (pc : Int) + o ∧ ((pc : Int) + o).toNat = pY ∧ pc + 3 = pN := by decide) : Run p e below n0 Q G m T pc ls (.int x :: st) := by
  by_cases g : x = (0 : Int32)
  · obtain rfl := hp.2.2
    exact Run.step (fun t q => XS.ifNo X.at' C.1 rfl (C.d hd) rfl ((if0 _ _).trans (teq g).2) q) (rn g)
  · exact Run.step (fun t q => XS.ifYes X.at' C.1 rfl rfl (C.d hd) rfl ((if0 _ _).trans (feq g).2) hp.1 hp.2.1 q) (ry g)
theorem cl_eq {x y : Int64} : XT.cmpL x y = 0 ↔ x.toInt = y.toInt := by
  rw [Int64.toInt_inj]; exact lw_eq x y
theorem FE_mono {kc ks : Nat} (hk : k ≤ kc) (hn : n ≤ ks) : ∀ (v : Option Value) (t : State) (L : List Loc), FrameEnd s (.returned v) t L k n → FrameEnd s (.returned v) t L kc ks := fun v t L h => ⟨h.1, h.2.1, h.2.2.mono hk hn⟩
theorem Run.done (C : Cx tabs a0 Z own nm code ml ret p s m meth c) (X : St p l e R s m args below meth c n0 T h k n) {v : Option Value} (hv : ret = none → v = none) (hG : ∀ (v : Option Value) (t : State) (L : List Loc), FrameEnd s (.returned v) t L k n → G (.returned v) t L) (q : Q v h) (f : ∀ locs fs, Stand p l e R s m args below meth c T locs k n → (∀ (f : JFrame) (acts : List Action), f.method = m → f.locked = none → f.entered = [] → (doReturn e (T.setTop f) acts v).1 = T.setFrames fs) → Steps p.tables e below (T.setTop (mkF m pc ls st)) (T.setFrames fs)) : Run p e below n0 Q G m T pc ls st := by
  obtain ⟨locs, Y, rfl, N, -⟩ := X
  obtain ⟨fs, hr, hrun, hended, hW, hsame⟩ := Y.leave (v := v) (by rw [C.2.2.2.2.2.1]; exact hv) C.2.2.2.2.2.2.1
  exact ⟨_, _, f locs fs Y hr, hrun, hended, _, _, rfl, ⟨q, N⟩, hG _ _ _ ⟨⟨_, rfl⟩, hW, hsame⟩⟩
theorem s_return (C : Cx tabs a0 Z own nm code ml ret p s m meth c) (X : St p l e R s m args below meth c n0 T h k n) (hd : decode code pc = .ok (.return_, 1)) (hr : ret = none) (q : Q none h) (hG : ∀ (v : Option Value) (t : State) (L : List Loc), FrameEnd s (.returned v) t L k n → G (.returned v) t L := by exact FE_mono (by decide) (by decide)) : Run p e below n0 Q G m T pc ls [] := by
  subst hr
  exact Run.done C X (fun _ => rfl) hG q (fun locs fs Y hr => Y.returnOut C.1 C.2.2.2.2.2.1 (C.d hd) hr)
theorem s_ireturn (C : Cx tabs a0 Z own nm code ml ret p s m meth c) (X : St p l e R s m args below meth c n0 T h k n) {z : Int32} (hd : decode code pc = .ok (.ireturn, 1)) (hr : ret = some .int) (q : Q (some (.int z)) h) (hG : ∀ (v : Option Value) (t : State) (L : List Loc), FrameEnd s (.returned v) t L k n → G (.returned v) t L := by exact FE_mono (by decide) (by decide)) : Run p e below n0 Q G m T pc ls (.int z :: st) := by
  subst hr
  refine Run.done C X (fun w => by cases w) hG q (fun locs fs Y hr => ?_)
  exact retOut Y C.1 C.2.2.2.2.2.1 (t := .int) rfl (Or.inl ⟨rfl, Or.inl rfl, _, rfl⟩) (C.d hd) hr
theorem s_nreturn (C : Cx tabs a0 Z own nm code ml ret p s m meth c) (X : St p l e R s m args below meth c n0 T h k n) {z z' : Int32} {t : FieldType} (hd : decode code pc = .ok (.ireturn, 1)) (hr : ret = some t) (ht : t = .boolean ∨ t = .byte ∨ t = .char ∨ t = .short) (hz : nar t z = z') (q : Q (some (.int z')) h) (hG : ∀ (v : Option Value) (t : State) (L : List Loc), FrameEnd s (.returned v) t L k n → G (.returned v) t L := by exact FE_mono (by decide) (by decide)) : Run p e below n0 Q G m T pc ls (.int z :: st) := by
  subst hr hz
  refine Run.done C X (fun w => by cases w) hG q (fun locs fs Y hr => ?_)
  exact retN Y C.1 C.2.2.2.2.2.1 ht (C.d hd) hr
theorem s_lreturn (C : Cx tabs a0 Z own nm code ml ret p s m meth c) (X : St p l e R s m args below meth c n0 T h k n) {z : Int64} (hd : decode code pc = .ok (.lreturn, 1)) (hr : ret = some .long) (q : Q (some (.long z)) h) (hG : ∀ (v : Option Value) (t : State) (L : List Loc), FrameEnd s (.returned v) t L k n → G (.returned v) t L := by exact FE_mono (by decide) (by decide)) : Run p e below n0 Q G m T pc ls (.long z :: st) := by
  subst hr
  refine Run.done C X (fun w => by cases w) hG q (fun locs fs Y hr => ?_)
  exact retOut Y C.1 C.2.2.2.2.2.1 (t := .long) rfl (Or.inr (Or.inl ⟨rfl, rfl, _, rfl⟩)) (C.d hd) hr
theorem s_getfield (pc' : Nat) (C : Cx tabs a0 Z own nm code ml ret p s m meth c) (X : St p l e R s m args below meth c n0 T h k n) {R0 O fn d host : String} {idx : Nat} {a : Addr} {v : Value} (hd : decode code pc = .ok (.getfield idx, 3)) (w : Jvm.Cond.fieldLink own idx R0 fn d ∈ tabs ∨ Jvm.Cond.fieldLinkNest own idx R0 fn d host ∈ tabs) (via : Via Z R0 O fn d) (F : Fld Z h a O fn d v) (r : ∀ T', St p l e R s m args below meth c n0 T' h k n → Run p e below n0 Q G m T' pc' ls (v :: st)) (hp : pc + 3 = pc' := by rfl) : Run p e below n0 Q G m T pc ls (.ref a :: st) := by
  subst hp
  obtain ⟨locs, Y, eT, N, q⟩ := X
  obtain ⟨T', Y', e', f⟩ := getF (host := host) Y C.1 C.2.1 C.2.2.2.2.1 (w.imp C.w C.w) via eT F (g := mkF m pc ls (.ref a :: st)) rfl rfl (C.d hd)
  exact Run.step f (r T' ⟨locs, Y', e', N, q⟩)
theorem s_putfield (pc' : Nat) (C : Cx tabs a0 Z own nm code ml ret p s m meth c) (X : St p l e R s m args below meth c n0 T h k n) {R0 O fn d host K : String} {idx kk : Nat} {ty : FieldType} {a : Addr} {v old : Value} (hd : decode code pc = .ok (.putfield idx, 3)) (w : Jvm.Cond.fieldLink own idx R0 fn d ∈ tabs ∨ Jvm.Cond.fieldLinkNest own idx R0 fn d host ∈ tabs) (via : Via Z R0 O fn d) (F : Fld Z h a O fn d old) (E : Exa Z h a K) (L : Jvm.Cond.lays K O fn d ∈ tabs ∨ (Jvm.Cond.laysFinal K O fn d ∈ tabs ∧ own = O ∧ nm = "<init>")) (wi : Jvm.Cond.instantiable K kk ∈ tabs) (hty : parseFieldDescriptor d = some ty) (hn : narrow ty v = v) (hf : fits ty v = true) (ge : n0 ≤ a)
    (r : ∀ T' h', St p l e R s m args below meth c n0 T' h' k n → Wr h h' a (RoadKit.slotOf Z O fn d) v → Run p e below n0 Q G m T' pc' ls st) (hp : pc + 3 = pc' := by rfl) : Run p e below n0 Q G m T pc ls (v :: .ref a :: st) := by
  subst hp
  obtain ⟨locs, Y, eT, N, q⟩ := X
  obtain ⟨T', h', Y', e', W, f⟩ := putF (host := host) Y C.1 C.2.1 C.2.2.2.2.1 (w.imp C.w C.w) via eT F E (L.imp C.w fun z => ⟨C.w z.1, z.2.1, C.2.2.2.2.2.2.2.1.trans z.2.2⟩) (C.w wi) hty hn hf (g := mkF m pc ls (v :: .ref a :: st)) rfl rfl (C.d hd)
  exact Run.step f (r T' h' ⟨_, Y', e', Fr.snoc Y' N ge, q⟩ W)
theorem s_putfieldN (pc' : Nat) (C : Cx tabs a0 Z own nm code ml ret p s m meth c) (X : St p l e R s m args below meth c n0 T h k n) {R0 O fn d K : String} {idx kk : Nat} {ty : FieldType} {a : Addr} {v v' old : Value} (hd : decode code pc = .ok (.putfield idx, 3)) (w : Jvm.Cond.fieldLink own idx R0 fn d ∈ tabs) (via : Via Z R0 O fn d) (F : Fld Z h a O fn d old) (E : Exa Z h a K) (L : Jvm.Cond.lays K O fn d ∈ tabs ∨ (Jvm.Cond.laysFinal K O fn d ∈ tabs ∧ own = O ∧ nm = "<init>")) (wi : Jvm.Cond.instantiable K kk ∈ tabs) (hty : parseFieldDescriptor d = some ty) (hn : narrow ty v = v') (hf : fits ty v' = true) (ge : n0 ≤ a)
    (r : ∀ T' h', St p l e R s m args below meth c n0 T' h' k n → Wr h h' a (RoadKit.slotOf Z O fn d) v' → Run p e below n0 Q G m T' pc' ls st) (hp : pc + 3 = pc' := by rfl) : Run p e below n0 Q G m T pc ls (v :: .ref a :: st) := by
  subst hp
  obtain ⟨locs, Y, eT, N, q⟩ := X
  obtain ⟨T', h', Y', e', W, f⟩ := putFN Y C.1 C.2.1 C.2.2.2.2.1 (C.w w) via eT F E (L.imp C.w fun z => ⟨C.w z.1, z.2.1, C.2.2.2.2.2.2.2.1.trans z.2.2⟩) (C.w wi) hty hn hf (g := mkF m pc ls (v :: .ref a :: st)) rfl rfl (C.d hd)
  exact Run.step f (r T' h' ⟨_, Y', e', Fr.snoc Y' N ge, q⟩ W)
theorem s_new (pc' : Nat) (C : Cx tabs a0 Z own nm code ml ret p s m meth c) (X : St p l e R s m args below meth c n0 T h k n) {K : String} {idx nn : Nat} (hd : decode code pc = .ok (.new idx, 3)) (w1 : Jvm.Cond.classLink own idx K ∈ tabs) (w2 : Jvm.Cond.instantiable K nn ∈ tabs) (w3 : Jvm.Cond.initialized K ∈ tabs)
    (r : ∀ T' h' b, h.size = b → St p l e R s m args below meth c n0 T' h' (k + 1) (n + nn) → Ext h h' → Exa Z h' b K → (∀ {O fn d : String} {ty : FieldType}, Laid Z a0 K O fn d → parseFieldDescriptor d = some ty → Fld Z h' b O fn d (defaultValue ty)) → n0 ≤ b → Run p e below n0 Q G m T' pc' ls (.ref b :: st)) (hp : pc + 3 = pc' := by rfl) (hc : k + 1 ≤ R.cells ∧ n + nn ≤ R.slots := by decide) : Run p e below n0 Q G m T pc ls st := by
  subst hp
  have hz := X.sz
  obtain ⟨locs, Y, eT, N, q⟩ := X
  obtain ⟨T', h', Y', e', E, A, D, -, f⟩ := newO Y C.1 C.2.1 C.2.2.2.2.1 (C.w w1) (C.w w2) (C.w w3) eT (g := mkF m pc ls st) rfl (C.d hd) hc.1 hc.2
  exact Run.step f (r T' h' _ rfl ⟨locs, Y', e', N, q⟩ E A D hz)
theorem s_objInit (pc' : Nat) (C : Cx tabs a0 Z own nm code ml ret p s m meth c) (X : St p l e R s m args below meth c n0 T h k n) {idx W : Nat} {a : Addr} (hd : decode code pc = .ok (.invokespecial idx, 3)) (w1 : Jvm.Cond.methodLink own idx Lib.objectInit ∈ tabs) (w2 : Jvm.Cond.instanceMethod Lib.objectInit ∈ tabs) (w3 : Jvm.Cond.code Lib.objectInit ⟨#[0xb1]⟩ 1 none ∈ tabs) (hsz : ls.size = ml) (hW : (st.map fun v => v.category).sum = W) (hf : 1 ≤ R.frames ∧ W + 12 ≤ R.locals)
    (r : ∀ T', St p l e R s m args below meth c n0 T' h k n → Run p e below n0 Q G m T' pc' ls st) (hp : pc + 3 = pc' := by rfl) : Run p e below n0 Q G m T pc ls (.ref a :: st) := by
  subst hp
  obtain ⟨locs, Y, eT, N, q⟩ := X
  obtain ⟨T', Y', e', f⟩ := initO Y C.1 C.2.1 C.2.2.2.2.1 (C.w w1) (C.w w2) (C.w w3) eT (g := mkF m pc ls (.ref a :: st)) rfl (hsz.trans C.2.2.2.1.symm) rfl (C.d hd) hf.1 (W := W) (by show 2 * 0 + _ ≤ _; rw [hW]; omega) hf.2
  exact Run.step f (r T' ⟨locs, Y', e', N, q⟩)
theorem s_newarray (pc' : Nat) (cap : Nat) (C : Cx tabs a0 Z own nm code ml ret p s m meth c) (X : St p l e R s m args below meth c n0 T h k n) {aty : ArrayType} {z : Int32} (hd : decode code pc = .ok (.newarray aty, 2)) (w : Jvm.Cond.arrayClass (newarray.typeOf aty) ∈ tabs) (hz : ¬ z < 0) (hcap : z.toNatClampNeg ≤ cap)
    (r : ∀ T' h' b kA, h.size = b → St p l e R s m args below meth c n0 T' h' (k + 1) (n + cap) → Ext h h' → Arv Z h' b kA (newarray.typeOf aty) z [] (defaultValue (newarray.typeOf aty)) → n0 ≤ b → Run p e below n0 Q G m T' pc' ls (.ref b :: st)) (hp : pc + 2 = pc' := by rfl) (hc : cap * 8 ≤ 536870912 ∧ k + 1 ≤ R.cells ∧ n + cap ≤ R.slots := by decide) : Run p e below n0 Q G m T pc ls (.int z :: st) := by
  subst hp
  have hs := X.sz
  obtain ⟨locs, Y, eT, N, q⟩ := X
  obtain ⟨T', h', kA, Y', e', E, A, f⟩ := newP Y C.1 C.2.1 (C.w w) eT (g := mkF m pc ls (.int z :: st)) rfl (C.d hd) rfl hz hcap hc.1 hc.2.1 hc.2.2
  exact Run.step f (r T' h' _ kA rfl ⟨locs, Y', e', N, q⟩ E (Arv.new A hz) hs)
theorem s_lastore (pc' : Nat) (i : Nat) (C : Cx tabs a0 Z own nm code ml ret p s m meth c) (X : St p l e R s m args below meth c n0 T h k n) {a : Addr} {kA : ClassId} {z j : Int32} {x : Int64} {vs : List Value} {dv : Value} (hd : decode code pc = .ok (.lastore, 1)) (F : Arv Z h a kA .long z vs dv) (ge : n0 ≤ a) (hj : ¬ j < 0 ∧ j < z) (hi : j.toNatClampNeg = i) (hl : i < vs.length)
    (r : ∀ T' h', St p l e R s m args below meth c n0 T' h' k n → Wr h h' a j.toNatClampNeg (.long x) → Arv Z h' a kA .long z (vs.set i (.long x)) dv → Run p e below n0 Q G m T' pc' ls st) (hp : pc + 1 = pc' := by rfl) : Run p e below n0 Q G m T pc ls (.long x :: .int j :: .ref a :: st) := by
  subst hp
  obtain ⟨locs, Y, eT, N, q⟩ := X
  obtain ⟨cl, A, q1, S, q3, H, G⟩ := F
  obtain ⟨T', h', Y', e', W, f⟩ := stJ Y C.1 C.2.1 eT A (j := j) (inb_of S hj) (g := mkF m pc ls (.long x :: .int j :: .ref a :: st)) rfl rfl (C.d hd)
  exact Run.step f (r T' h' ⟨_, Y', e', Fr.snoc Y' N ge, q⟩ W (Arv.set A q1 S q3 H G (rfl) W i hi hl))
theorem s_laload (pc' : Nat) (C : Cx tabs a0 Z own nm code ml ret p s m meth c) (X : St p l e R s m args below meth c n0 T h k n) {a : Addr} {kA : ClassId} {z j : Int32} {v : Value} {vs : List Value} {dv : Value} (hd : decode code pc = .ok (.laload, 1)) (F : Arv Z h a kA .long z vs dv) (hj : ¬ j < 0 ∧ j < z) (hv : vs.getD j.toNatClampNeg dv = v)
    (r : Run p e below n0 Q G m T pc' ls (v :: st)) (hp : pc + 1 = pc' := by rfl) : Run p e below n0 Q G m T pc ls (.int j :: .ref a :: st) := by
  subst hp
  obtain ⟨locs, Y, eT, N, q⟩ := X
  obtain ⟨cl, A, q1, S, q3, H, G⟩ := F
  exact Run.step (fun t q => Y.laload C.1 (j := j) (v := v) (by rw [eT]; exact A.1) (State.isArrayOf_alike C.2.1.alike A.2.1) A.2.2 (inb_of S hj) (H.at (inb_of S hj) hv) (g := mkF m pc ls (.int j :: .ref a :: st)) rfl rfl (C.d hd) t q) r
/-- a method's contract at given arguments and a given heap -/
def Met (l : Launch) (Z : State) (y : MethodName) (bytes : ByteArray) (ml : Nat) (ret : Option FieldType) (rm : Room) (ws : List Jvm.Cond) (as : Array Value) (h : Heap) (n0 : Nat) (Q : Option Value → Heap → Prop) : Prop :=
  MetFree l y (head1 (Jvm.Cond.code y bytes ml ret :: ws) rm) (fun a U => a = as ∧ Z.Warmed39 U.vm ∧ U.heap = h) (fun _ _ _ _ _ => True) (fun _ U o U' => ∃ v L, o = .returned v ∧ (Q v U'.heap ∧ Fr n0 L) ∧ FrameEnd U o U' L rm.cells rm.slots)
theorem Met.mk {y : MethodName} {rm : Room} {ws : List Jvm.Cond} {as : Array Value} {ls0 : Array Slot} (hpl : plainFor y = true) (hw : ∀ d ∈ tabs, d.before a0 Z = true) (hn : n0 ≤ h.size) (hef : ∀ m, entryFrame m as ml = mkF m 0 ls0 [])
    (body : ∀ p e s m below meth c T, Cx tabs a0 Z y.cls y.name code ml ret p s m meth c → St p l e rm s m as below meth c n0 T h 0 0 → Run p e below n0 Q (fun o t L => FrameEnd s o t L rm.cells rm.slots) m T 0 ls0 []) : Met l Z y code ml ret rm ws as h n0 Q := by
  refine MetFree.of_bodySF hpl hisR ?_
  intro p e s m args below meth c s₁ Bd hml0 hP hK
  obtain ⟨rfl, hZ, rfl⟩ := hP
  have X0 : Stand p l e rm s m args below meth c s₁ [] 0 0 := Stand.of_body Bd
  have e0 : s₁.heap = s.heap := by rw [Bd.state]; rfl
  have r := body p e s m below meth c s₁ ⟨Bd.exec, hZ, Bd.bytes, hml0, findClass_of_methodNamed Bd.named, Bd.returns, Bd.notSynchronized, (name_of_methodNamed Bd.named Bd.method).1, hw⟩ ⟨[], X0, e0, Fr.nil n0, hn⟩
  obtain ⟨s₂, o, h1, h2⟩ := r
  exact ⟨s₂, o, castTop (hef m) h1, h2⟩
theorem s_callS (pc' : Nat) (argsL rest : List Value) (W : Nat) (C : Cx tabs a0 Z own nm code ml ret p s m meth c) (X : St p l e R s m args below meth c n0 T h k n) {idx : Nat} {y : MethodName} {bytes : ByteArray} {maxL : Nat} {rt : Option FieldType} {rm : Room} {stk : List Value} {Q1 : Option Value → Heap → Prop} (hd : decode code pc = .ok (.invokestatic idx, 3)) (w1 : Jvm.Cond.methodLink own idx y ∈ tabs) (w2 : Jvm.Cond.static y ∈ tabs) (w3 : Jvm.Cond.initialized y.cls ∈ tabs) (w4 : Jvm.Cond.code y bytes maxL rt ∈ tabs)
    (M : Met l Z y bytes maxL rt rm [] argsL.toArray h n0 Q1) (hlen : ∀ sig, parseMethodDescriptor y.desc = some sig → argsL.length = sig.parameters.length) (hs : stk = argsL.reverse ++ rest) (hsz : ls.size = ml) (hW : (rest.map fun v => v.category).sum = W)
    (r : ∀ T' v h', St p l e R s m args below meth c n0 T' h' (k + rm.cells) (n + rm.slots) → Q1 v h' → Run p e below n0 Q G m T' pc' ls (v.toList ++ rest)) (hp : pc + 3 = pc' := by rfl) (hr : rm.frames + 1 ≤ R.frames ∧ W + (maxL + 11) + rm.locals ≤ R.locals ∧ k + rm.cells ≤ R.cells ∧ n + rm.slots ≤ R.slots := by decide) (hy : y.cls ≠ "java/lang/invoke/MethodHandle" ∧ y.cls ≠ "java/lang/invoke/VarHandle" := by decide) : Run p e below n0 Q G m T pc ls stk := by
  subst hp hs
  obtain ⟨locs, Y, eT, N, q⟩ := X
  obtain ⟨v, _, ⟨T1, L1, k1, n1⟩, -, Y', ⟨Lc, hQ, l1, y1, z1⟩, f⟩ := Jvm.LawKit.callS Y C.1 C.2.2.2.2.1 (mvT C.2.1 (C.w w1)) (mvT C.2.1 (C.w w2)) (mvT C.2.1 (C.w w3)) (mvT C.2.1 (C.w w4)) hy (backOf (W := W) (Q := fun v h L => Q1 v h ∧ Fr n0 L) M C.2.1 (C.w w4) (C.w w3) hr.1 hr.2.1) (g := mkF m pc ls (argsL.reverse ++ rest)) rfl (hsz.trans C.2.2.2.1.symm) (argsL := argsL) (rest := rest) hlen rfl (by show 2 * 0 + _ ≤ _; rw [hW]; omega) (C.d hd) (fun _ _ => ⟨rfl, eT, hr.2.2.1, hr.2.2.2⟩)
  dsimp only [Pt.U, Pt.locs, Pt.cells, Pt.slots] at Y' l1 y1 z1 f hQ
  subst l1 y1 z1
  exact Run.step f (r T1 v _ ⟨_, Y', rfl, Fr.app N hQ.2, q⟩ hQ.1)
theorem s_callC (pc' : Nat) (argsL rest : List Value) (W : Nat) (C : Cx tabs a0 Z own nm code ml ret p s m meth c) (X : St p l e R s m args below meth c n0 T h k n) {idx : Nat} {y : MethodName} {bytes : ByteArray} {maxL : Nat} {rm : Room} {stk : List Value} {Q1 : Option Value → Heap → Prop} {a : Addr} (hd : decode code pc = .ok (.invokespecial idx, 3)) (hi : y.name = "<init>") (w1 : Jvm.Cond.methodLink own idx y ∈ tabs) (w2 : Jvm.Cond.instanceMethod y ∈ tabs) (w3 : Jvm.Cond.initialized y.cls ∈ tabs) (w4 : Jvm.Cond.code y bytes maxL none ∈ tabs)
    (M : Met l Z y bytes maxL none rm [] (.ref a :: argsL).toArray h n0 Q1) (hlen : ∀ sig, parseMethodDescriptor y.desc = some sig → argsL.length = sig.parameters.length) (hs : stk = argsL.reverse ++ .ref a :: rest) (hsz : ls.size = ml) (hW : (rest.map fun v => v.category).sum = W)
    (r : ∀ T' v h', St p l e R s m args below meth c n0 T' h' (k + rm.cells) (n + rm.slots) → Q1 v h' → Run p e below n0 Q G m T' pc' ls (v.toList ++ rest)) (hp : pc + 3 = pc' := by rfl) (hr : rm.frames + 1 ≤ R.frames ∧ W + (maxL + 11) + rm.locals ≤ R.locals ∧ k + rm.cells ≤ R.cells ∧ n + rm.slots ≤ R.slots := by decide) (hy : y.cls ≠ "java/lang/invoke/MethodHandle" ∧ y.cls ≠ "java/lang/invoke/VarHandle" := by decide) : Run p e below n0 Q G m T pc ls stk := by
  subst hp hs
  obtain ⟨locs, Y, eT, N, q⟩ := X
  obtain ⟨v, _, ⟨T1, L1, k1, n1⟩, -, Y', ⟨Lc, hQ, l1, y1, z1⟩, f⟩ := Y.specialBack C.1 (y := y) hi C.2.2.2.2.1 (mvT C.2.1 (C.w w1)) (mvT C.2.1 (C.w w2)) (mvT C.2.1 (C.w w4)) hy (backOf (W := W) (Q := fun v h L => Q1 v h ∧ Fr n0 L) M C.2.1 (C.w w4) (C.w w3) hr.1 hr.2.1) (g := mkF m pc ls (argsL.reverse ++ .ref a :: rest)) rfl (hsz.trans C.2.2.2.1.symm) (Steps.refl _) (a := a) (argsL := argsL) (rest := rest) hlen rfl (by show 2 * 0 + _ ≤ _; rw [hW]; omega) (C.d hd) (fun _ _ => ⟨rfl, eT, hr.2.2.1, hr.2.2.2⟩)
  dsimp only [Pt.U, Pt.locs, Pt.cells, Pt.slots] at Y' l1 y1 z1 f hQ
  subst l1 y1 z1
  exact Run.steps f (r T1 v _ ⟨_, Y', rfl, Fr.app N hQ.2, q⟩ hQ.1)
theorem s_callV (pc' : Nat) (argsL rest : List Value) (W : Nat) (C : Cx tabs a0 Z own nm code ml ret p s m meth c) (X : St p l e R s m args below meth c n0 T h k n) {idx : Nat} {y : MethodName} {bytes : ByteArray} {maxL : Nat} {rt : Option FieldType} {rm : Room} {stk : List Value} {Q1 : Option Value → Heap → Prop} {y0 : MethodName} {K : String} {a : Addr} (hd : decode code pc = .ok (.invokevirtual idx, 3)) (w1 : Jvm.Cond.methodLink own idx y0 ∈ tabs) (w2 : Jvm.Cond.declares y0 ∈ tabs) (hnf : NotFace s y0) (w5 : Jvm.Cond.selects K y0 y ∈ tabs) (w6 : Jvm.Cond.instanceMethod y ∈ tabs) (w3 : Jvm.Cond.initialized y.cls ∈ tabs) (w4 : Jvm.Cond.code y bytes maxL rt ∈ tabs)
    (E : Exa Z h a K) (M : Met l Z y bytes maxL rt rm [] (.ref a :: argsL).toArray h n0 Q1) (hlen : ∀ sig, parseMethodDescriptor y0.desc = some sig → argsL.length = sig.parameters.length) (hs : stk = argsL.reverse ++ .ref a :: rest) (hsz : ls.size = ml) (hW : (rest.map fun v => v.category).sum = W)
    (r : ∀ T' v h', St p l e R s m args below meth c n0 T' h' (k + rm.cells) (n + rm.slots) → Q1 v h' → Run p e below n0 Q G m T' pc' ls (v.toList ++ rest)) (hp : pc + 3 = pc' := by rfl) (hr : rm.frames + 1 ≤ R.frames ∧ W + (maxL + 11) + rm.locals ≤ R.locals ∧ k + rm.cells ≤ R.cells ∧ n + rm.slots ≤ R.slots := by decide) (hy : y0.cls ≠ "java/lang/invoke/MethodHandle" ∧ y0.cls ≠ "java/lang/invoke/VarHandle" := by decide) : Run p e below n0 Q G m T pc ls stk := by
  subst hp hs
  obtain ⟨locs, Y, eT, N, q⟩ := X
  obtain ⟨cq, kq, qa, qb, qc⟩ := isOf C.2.1 eT E
  obtain ⟨v, _, ⟨T1, L1, k1, n1⟩, -, Y', ⟨Lc, hQ, l1, y1, z1⟩, f⟩ := Y.virtualBack C.1 (y := y0) (z := y) C.2.2.2.2.1 (mvT C.2.1 (C.w w1)) (mvT C.2.1 (C.w w2)) hnf (mvT C.2.1 (C.w w5)) (mvT C.2.1 (C.w w6)) hy (backOf (W := W) (Q := fun v h L => Q1 v h ∧ Fr n0 L) M C.2.1 (C.w w4) (C.w w3) hr.1 hr.2.1) qa qc (g := mkF m pc ls (argsL.reverse ++ .ref a :: rest)) rfl (hsz.trans C.2.2.2.1.symm) (Steps.refl _) (argsL := argsL) (rest := rest) hlen rfl (by show 2 * 0 + _ ≤ _; rw [hW]; omega) (C.d hd) (fun _ _ => ⟨rfl, eT, hr.2.2.1, hr.2.2.2⟩)
  dsimp only [Pt.U, Pt.locs, Pt.cells, Pt.slots] at Y' l1 y1 z1 f hQ
  subst l1 y1 z1
  exact Run.steps f (r T1 v _ ⟨_, Y', rfl, Fr.app N hQ.2, q⟩ hQ.1)
end A
end Jvm.OwnK
namespace Jvm.Pilot.@@N@@
open Jvm Jvm.ClassFile Sem Op Lib Jvm.Free Jvm.Stand Jvm.LawKit Jvm.RoadKit Bundle Jvm.OwnK Jvm.Pilot.@@N@@.Jvm.D
theorem pn_com_example_shapelint_shapelint_io_LineCounterPassPinLaw : plainName "com/example/shapelint/shapelint/io/LineCounterPassPinLaw" = true := by first | (simp [plainName, overriddenIn]; done) | decide +kernel
theorem d1_0 : decode method_2_code 0 = .ok (.iload_n 0, 1) := by decide +kernel
theorem d1_1 : decode method_2_code 1 = .ok (.bipush 7, 2) := by decide +kernel
theorem kc_bipush_7 : (Int8.ofInt 7).toInt32 = (7 : Int32) := by decide +kernel
theorem d1_3 : decode method_2_code 3 = .ok (.iand, 1) := by decide +kernel
theorem d1_4 : decode method_2_code 4 = .ok (.istore_n 1, 1) := by decide +kernel
theorem d1_5 : decode method_2_code 5 = .ok (.iload_n 1, 1) := by decide +kernel
theorem d1_6 : decode method_2_code 6 = .ok (.ifCond .ne 6, 3) := by decide +kernel
theorem d1_12 : decode method_2_code 12 = .ok (.iload_n 1, 1) := by decide +kernel
theorem d1_13 : decode method_2_code 13 = .ok (.iconst 1, 1) := by decide +kernel
theorem kc_iconst_1 : Int32.ofInt 1 = (1 : Int32) := by decide +kernel
theorem d1_14 : decode method_2_code 14 = .ok (.if_icmp .ne 6, 3) := by decide +kernel
theorem d1_20 : decode method_2_code 20 = .ok (.iload_n 1, 1) := by decide +kernel
theorem d1_21 : decode method_2_code 21 = .ok (.iconst 2, 1) := by decide +kernel
theorem kc_iconst_2 : Int32.ofInt 2 = (2 : Int32) := by decide +kernel
theorem d1_22 : decode method_2_code 22 = .ok (.if_icmp .ne 6, 3) := by decide +kernel
theorem d1_28 : decode method_2_code 28 = .ok (.iload_n 1, 1) := by decide +kernel
theorem d1_29 : decode method_2_code 29 = .ok (.iconst 3, 1) := by decide +kernel
theorem kc_iconst_3 : Int32.ofInt 3 = (3 : Int32) := by decide +kernel
theorem d1_30 : decode method_2_code 30 = .ok (.if_icmp .ne 6, 3) := by decide +kernel
theorem d1_36 : decode method_2_code 36 = .ok (.iload_n 0, 1) := by decide +kernel
theorem d1_37 : decode method_2_code 37 = .ok (.iconst 3, 1) := by decide +kernel
theorem d1_38 : decode method_2_code 38 = .ok (.ishr, 1) := by decide +kernel
theorem d1_39 : decode method_2_code 39 = .ok (.ireturn, 1) := by decide +kernel
theorem d1_33 : decode method_2_code 33 = .ok (.bipush 9, 2) := by decide +kernel
theorem kc_bipush_9 : (Int8.ofInt 9).toInt32 = (9 : Int32) := by decide +kernel
theorem d1_35 : decode method_2_code 35 = .ok (.ireturn, 1) := by decide +kernel
theorem d1_25 : decode method_2_code 25 = .ok (.bipush 32, 2) := by decide +kernel
theorem kc_bipush_32 : (Int8.ofInt 32).toInt32 = (32 : Int32) := by decide +kernel
theorem d1_27 : decode method_2_code 27 = .ok (.ireturn, 1) := by decide +kernel
theorem d1_17 : decode method_2_code 17 = .ok (.bipush 10, 2) := by decide +kernel
theorem kc_bipush_10 : (Int8.ofInt 10).toInt32 = (10 : Int32) := by decide +kernel
theorem d1_19 : decode method_2_code 19 = .ok (.ireturn, 1) := by decide +kernel
theorem d1_9 : decode method_2_code 9 = .ok (.bipush 13, 2) := by decide +kernel
theorem kc_bipush_13 : (Int8.ofInt 13).toInt32 = (13 : Int32) := by decide +kernel
theorem d1_11 : decode method_2_code 11 = .ok (.ireturn, 1) := by decide +kernel
theorem pn_com_example_shapelint_shapelint_io_LineCounter : plainName "com/example/shapelint/shapelint/io/LineCounter" = true := by first | (simp [plainName, overriddenIn]; done) | decide +kernel
theorem d2_0 : decode prog_9_method_1_code 0 = .ok (.aload_n 0, 1) := by decide +kernel
theorem d2_1 : decode prog_9_method_1_code 1 = .ok (.invokespecial 1, 3) := by decide +kernel
theorem d2_4 : decode prog_9_method_1_code 4 = .ok (.return_, 1) := by decide +kernel
theorem d6_0 : decode prog_9_method_2_code 0 = .ok (.aload_n 0, 1) := by decide +kernel
theorem d6_1 : decode prog_9_method_2_code 1 = .ok (.getfield 7, 3) := by decide +kernel
theorem d6_4 : decode prog_9_method_2_code 4 = .ok (.lconst 1, 1) := by decide +kernel
theorem d6_5 : decode prog_9_method_2_code 5 = .ok (.ladd, 1) := by decide +kernel
theorem d6_6 : decode prog_9_method_2_code 6 = .ok (.lreturn, 1) := by decide +kernel
theorem d7_0 : decode prog_9_method_3_code 0 = .ok (.aload_n 0, 1) := by decide +kernel
theorem d7_1 : decode prog_9_method_3_code 1 = .ok (.getfield 13, 3) := by decide +kernel
theorem d7_4 : decode prog_9_method_3_code 4 = .ok (.lreturn, 1) := by decide +kernel
theorem d5_0 : decode prog_9_method_4_code 0 = .ok (.iload_n 1, 1) := by decide +kernel
theorem d5_1 : decode prog_9_method_4_code 1 = .ok (.bipush 13, 2) := by decide +kernel
theorem d5_3 : decode prog_9_method_4_code 3 = .ok (.if_icmp .eq 16, 3) := by decide +kernel
theorem d5_19 : decode prog_9_method_4_code 19 = .ok (.aload_n 0, 1) := by decide +kernel
theorem d5_20 : decode prog_9_method_4_code 20 = .ok (.dup, 1) := by decide +kernel
theorem d5_21 : decode prog_9_method_4_code 21 = .ok (.getfield 7, 3) := by decide +kernel
theorem d5_24 : decode prog_9_method_4_code 24 = .ok (.lconst 1, 1) := by decide +kernel
theorem d5_25 : decode prog_9_method_4_code 25 = .ok (.ladd, 1) := by decide +kernel
theorem d5_26 : decode prog_9_method_4_code 26 = .ok (.putfield 7, 3) := by decide +kernel
theorem d5_29 : decode prog_9_method_4_code 29 = .ok (.goto 31, 3) := by decide +kernel
theorem d5_60 : decode prog_9_method_4_code 60 = .ok (.aload_n 0, 1) := by decide +kernel
theorem d5_61 : decode prog_9_method_4_code 61 = .ok (.iload_n 1, 1) := by decide +kernel
theorem d5_62 : decode prog_9_method_4_code 62 = .ok (.bipush 13, 2) := by decide +kernel
theorem d5_64 : decode prog_9_method_4_code 64 = .ok (.if_icmp .ne 7, 3) := by decide +kernel
theorem d5_67 : decode prog_9_method_4_code 67 = .ok (.iconst 1, 1) := by decide +kernel
theorem d5_68 : decode prog_9_method_4_code 68 = .ok (.goto 4, 3) := by decide +kernel
theorem d5_72 : decode prog_9_method_4_code 72 = .ok (.putfield 16, 3) := by decide +kernel
theorem d5_75 : decode prog_9_method_4_code 75 = .ok (.return_, 1) := by decide +kernel
theorem d5_6 : decode prog_9_method_4_code 6 = .ok (.iload_n 1, 1) := by decide +kernel
theorem d5_7 : decode prog_9_method_4_code 7 = .ok (.bipush 10, 2) := by decide +kernel
theorem d5_9 : decode prog_9_method_4_code 9 = .ok (.if_icmp .ne 23, 3) := by decide +kernel
theorem d5_32 : decode prog_9_method_4_code 32 = .ok (.iload_n 1, 1) := by decide +kernel
theorem d5_33 : decode prog_9_method_4_code 33 = .ok (.bipush 10, 2) := by decide +kernel
theorem d5_35 : decode prog_9_method_4_code 35 = .ok (.if_icmp .eq 25, 3) := by decide +kernel
theorem d5_38 : decode prog_9_method_4_code 38 = .ok (.iload_n 1, 1) := by decide +kernel
theorem d5_39 : decode prog_9_method_4_code 39 = .ok (.bipush 32, 2) := by decide +kernel
theorem d5_41 : decode prog_9_method_4_code 41 = .ok (.if_icmp .eq 19, 3) := by decide +kernel
theorem d5_71 : decode prog_9_method_4_code 71 = .ok (.iconst 0, 1) := by decide +kernel
theorem kc_iconst_0 : Int32.ofInt 0 = (0 : Int32) := by decide +kernel
theorem d5_44 : decode prog_9_method_4_code 44 = .ok (.iload_n 1, 1) := by decide +kernel
theorem d5_45 : decode prog_9_method_4_code 45 = .ok (.bipush 9, 2) := by decide +kernel
theorem d5_47 : decode prog_9_method_4_code 47 = .ok (.if_icmp .eq 13, 3) := by decide +kernel
theorem d5_50 : decode prog_9_method_4_code 50 = .ok (.aload_n 0, 1) := by decide +kernel
theorem d5_51 : decode prog_9_method_4_code 51 = .ok (.aload_n 0, 1) := by decide +kernel
theorem d5_52 : decode prog_9_method_4_code 52 = .ok (.getfield 7, 3) := by decide +kernel
theorem d5_55 : decode prog_9_method_4_code 55 = .ok (.lconst 1, 1) := by decide +kernel
theorem d5_56 : decode prog_9_method_4_code 56 = .ok (.ladd, 1) := by decide +kernel
theorem d5_57 : decode prog_9_method_4_code 57 = .ok (.putfield 13, 3) := by decide +kernel
theorem d5_12 : decode prog_9_method_4_code 12 = .ok (.aload_n 0, 1) := by decide +kernel
theorem d5_13 : decode prog_9_method_4_code 13 = .ok (.getfield 16, 3) := by decide +kernel
theorem d5_16 : decode prog_9_method_4_code 16 = .ok (.ifCond .ne 16, 3) := by decide +kernel
theorem d4_0 : decode method_3_code 0 = .ok (.iload_n 3, 1) := by decide +kernel
theorem d4_1 : decode method_3_code 1 = .ok (.bipush 13, 2) := by decide +kernel
theorem d4_3 : decode method_3_code 3 = .ok (.if_icmp .eq 15, 3) := by decide +kernel
theorem d4_18 : decode method_3_code 18 = .ok (.iconst 1, 1) := by decide +kernel
theorem d4_19 : decode method_3_code 19 = .ok (.goto 4, 3) := by decide +kernel
theorem d4_23 : decode method_3_code 23 = .ok (.istore 4, 2) := by decide +kernel
theorem d4_25 : decode method_3_code 25 = .ok (.iload_n 3, 1) := by decide +kernel
theorem d4_26 : decode method_3_code 26 = .ok (.bipush 13, 2) := by decide +kernel
theorem d4_28 : decode method_3_code 28 = .ok (.if_icmp .eq 25, 3) := by decide +kernel
theorem d4_53 : decode method_3_code 53 = .ok (.iconst 0, 1) := by decide +kernel
theorem d4_54 : decode method_3_code 54 = .ok (.istore 5, 2) := by decide +kernel
theorem d4_56 : decode method_3_code 56 = .ok (.iload 5, 2) := by decide +kernel
theorem d4_58 : decode method_3_code 58 = .ok (.ifCond .eq 9, 3) := by decide +kernel
theorem d4_67 : decode method_3_code 67 = .ok (.iload 4, 2) := by decide +kernel
theorem d4_69 : decode method_3_code 69 = .ok (.ifCond .eq 11, 3) := by decide +kernel
theorem d4_72 : decode method_3_code 72 = .ok (.aload_n 1, 1) := by decide +kernel
theorem d4_73 : decode method_3_code 73 = .ok (.iconst 0, 1) := by decide +kernel
theorem d4_74 : decode method_3_code 74 = .ok (.aload_n 1, 1) := by decide +kernel
theorem d4_75 : decode method_3_code 75 = .ok (.iconst 0, 1) := by decide +kernel
theorem d4_76 : decode method_3_code 76 = .ok (.laload, 1) := by decide +kernel
theorem d4_77 : decode method_3_code 77 = .ok (.lconst 1, 1) := by decide +kernel
theorem d4_78 : decode method_3_code 78 = .ok (.ladd, 1) := by decide +kernel
theorem d4_79 : decode method_3_code 79 = .ok (.lastore, 1) := by decide +kernel
theorem d4_80 : decode method_3_code 80 = .ok (.aload_n 0, 1) := by decide +kernel
theorem d4_81 : decode method_3_code 81 = .ok (.iload_n 3, 1) := by decide +kernel
theorem d4_82 : decode method_3_code 82 = .ok (.invokevirtual 7, 3) := by decide +kernel
theorem pd__I_V : parseMethodDescriptor "(I)V" = some ⟨[.int], none⟩ := by decide +kernel
theorem d4_85 : decode method_3_code 85 = .ok (.aload_n 0, 1) := by decide +kernel
theorem d4_86 : decode method_3_code 86 = .ok (.invokevirtual 13, 3) := by decide +kernel
theorem pd___J : parseMethodDescriptor "()J" = some ⟨[], some .long⟩ := by decide +kernel
theorem d4_89 : decode method_3_code 89 = .ok (.aload_n 1, 1) := by decide +kernel
theorem d4_90 : decode method_3_code 90 = .ok (.iconst 0, 1) := by decide +kernel
theorem d4_91 : decode method_3_code 91 = .ok (.laload, 1) := by decide +kernel
theorem d4_92 : decode method_3_code 92 = .ok (.lcmp, 1) := by decide +kernel
theorem d4_93 : decode method_3_code 93 = .ok (.ifCond .ne 18, 3) := by decide +kernel
theorem d4_96 : decode method_3_code 96 = .ok (.aload_n 0, 1) := by decide +kernel
theorem d4_97 : decode method_3_code 97 = .ok (.invokevirtual 17, 3) := by decide +kernel
theorem d4_100 : decode method_3_code 100 = .ok (.aload_n 1, 1) := by decide +kernel
theorem d4_101 : decode method_3_code 101 = .ok (.iconst 1, 1) := by decide +kernel
theorem d4_102 : decode method_3_code 102 = .ok (.laload, 1) := by decide +kernel
theorem d4_103 : decode method_3_code 103 = .ok (.lcmp, 1) := by decide +kernel
theorem d4_104 : decode method_3_code 104 = .ok (.ifCond .ne 7, 3) := by decide +kernel
theorem d4_107 : decode method_3_code 107 = .ok (.iconst 1, 1) := by decide +kernel
theorem d4_108 : decode method_3_code 108 = .ok (.goto 4, 3) := by decide +kernel
theorem d4_112 : decode method_3_code 112 = .ok (.ireturn, 1) := by decide +kernel
theorem d4_6 : decode method_3_code 6 = .ok (.iload_n 3, 1) := by decide +kernel
theorem d4_7 : decode method_3_code 7 = .ok (.bipush 10, 2) := by decide +kernel
theorem d4_9 : decode method_3_code 9 = .ok (.if_icmp .ne 13, 3) := by decide +kernel
theorem d4_22 : decode method_3_code 22 = .ok (.iconst 0, 1) := by decide +kernel
theorem d4_31 : decode method_3_code 31 = .ok (.iload_n 3, 1) := by decide +kernel
theorem d4_32 : decode method_3_code 32 = .ok (.bipush 10, 2) := by decide +kernel
theorem d4_34 : decode method_3_code 34 = .ok (.if_icmp .eq 19, 3) := by decide +kernel
theorem d4_37 : decode method_3_code 37 = .ok (.iload_n 3, 1) := by decide +kernel
theorem d4_38 : decode method_3_code 38 = .ok (.bipush 32, 2) := by decide +kernel
theorem d4_40 : decode method_3_code 40 = .ok (.if_icmp .eq 13, 3) := by decide +kernel
theorem d4_43 : decode method_3_code 43 = .ok (.iload_n 3, 1) := by decide +kernel
theorem d4_44 : decode method_3_code 44 = .ok (.bipush 9, 2) := by decide +kernel
theorem d4_46 : decode method_3_code 46 = .ok (.if_icmp .eq 7, 3) := by decide +kernel
theorem d4_49 : decode method_3_code 49 = .ok (.iconst 1, 1) := by decide +kernel
theorem d4_50 : decode method_3_code 50 = .ok (.goto 4, 3) := by decide +kernel
theorem d4_61 : decode method_3_code 61 = .ok (.aload_n 1, 1) := by decide +kernel
theorem d4_62 : decode method_3_code 62 = .ok (.iconst 1, 1) := by decide +kernel
theorem d4_63 : decode method_3_code 63 = .ok (.aload_n 1, 1) := by decide +kernel
theorem d4_64 : decode method_3_code 64 = .ok (.iconst 0, 1) := by decide +kernel
theorem d4_65 : decode method_3_code 65 = .ok (.laload, 1) := by decide +kernel
theorem d4_66 : decode method_3_code 66 = .ok (.lastore, 1) := by decide +kernel
theorem d4_12 : decode method_3_code 12 = .ok (.iload_n 2, 1) := by decide +kernel
theorem d4_13 : decode method_3_code 13 = .ok (.bipush 13, 2) := by decide +kernel
theorem d4_15 : decode method_3_code 15 = .ok (.if_icmp .eq 7, 3) := by decide +kernel
theorem pd__I_I : parseMethodDescriptor "(I)I" = some ⟨[.int], some .int⟩ := by decide +kernel
theorem pd___V : parseMethodDescriptor "()V" = some ⟨[], none⟩ := by decide +kernel
theorem kc_iconst_m1 : Int32.ofInt (-1) = (-1 : Int32) := by decide +kernel
theorem pd__Lcom_example_shapelint_shapelint_io_LineCounter__JII_Z : parseMethodDescriptor "(Lcom/example/shapelint/shapelint/io/LineCounter;[JII)Z" = some ⟨[(.object "com/example/shapelint/shapelint/io/LineCounter"), (.array .long), .int, .int], some .boolean⟩ := by decide +kernel
def newN (c f : Int32) (n : Int64) : Int64 := if c = 13 ∨ (c = 10 ∧ f = 0) then n + 1 else n
def newT (c : Int32) (n t : Int64) : Int64 := if c = 13 ∨ c = 10 ∨ c = 32 ∨ c = 9 then t else n + 1
def newF (c : Int32) : Int32 := if c = 13 then 1 else 0
theorem own_cmp0 {x y : Int64} (h : x = y) : XT.cmpL x y = 0 := by subst h; simp [XT.cmpL]
theorem own_newF (c : Int32) : (newF c = 1 ∧ c = 13) ∨ (newF c = 0 ∧ ¬ c = 13) := by unfold newF; split <;> simp [*]
set_option maxRecDepth 65536 in
set_option maxHeartbeats 40000000 in
theorem rm_pick (l : Launch) (Z : State) (a0 : Array Value) (hw : ∀ d ∈ tables_1, d.before a0 Z = true) (x0 : Int32) (h0 : Heap) (n0 : Nat) (Z0 : n0 ≤ h0.size)  :
    Met l Z (⟨"com/example/shapelint/shapelint/io/LineCounterPassPinLaw", "pick", "(I)I"⟩ : MethodName) method_2_code 2 (some .int) { frames := 0, cells := 0, slots := 0, locals := 0 } [] #[(.int x0)] h0 n0 (fun v h => ∃ z, v = some (.int z) ∧ h = h0) := by
  refine Met.mk (tabs := tables_1) (a0 := a0) (ls0 := #[.val (.int x0), .unset]) (plainFor_of_name pn_com_example_shapelint_shapelint_io_LineCounterPassPinLaw) hw Z0 (fun m => by first | (simp [entryFrame, mkF, argsToLocals, Value.category]; done) | rfl) ?_
  intro p e s m below meth c T C X
  refine s_iloadN 1 C X d1_0 rfl ?_
  refine s_bipush 3 C X d1_1 kc_bipush_7 ?_
  refine s_iand 4 C X d1_3 ?_
  refine s_istoreN 5 C X (l' := #[.val (.int x0), .val (.int (x0 &&& (7 : Int32)))]) d1_4 rfl ?_
  refine s_iloadN 6 C X d1_5 rfl ?_
  refine s_if_ne 12 9 C X d1_6 (fun c6 => ?_) (fun c6 => ?_)
  · have t_c6 : ¬ (((x0 &&& (7 : Int32))).toInt = (0 : Int)) := fun q => c6 (Int32.toInt_inj.mp q)
    refine s_iloadN 13 C X d1_12 rfl ?_
    refine s_iconst 14 C X d1_13 kc_iconst_1 ?_
    refine s_icmp_ne 20 17 C X d1_14 (fun c14 => ?_) (fun c14 => ?_)
    · have t_c14 : ¬ (((x0 &&& (7 : Int32))).toInt = (1 : Int)) := fun q => c14 (Int32.toInt_inj.mp q)
      refine s_iloadN 21 C X d1_20 rfl ?_
      refine s_iconst 22 C X d1_21 kc_iconst_2 ?_
      refine s_icmp_ne 28 25 C X d1_22 (fun c22 => ?_) (fun c22 => ?_)
      · have t_c22 : ¬ (((x0 &&& (7 : Int32))).toInt = (2 : Int)) := fun q => c22 (Int32.toInt_inj.mp q)
        refine s_iloadN 29 C X d1_28 rfl ?_
        refine s_iconst 30 C X d1_29 kc_iconst_3 ?_
        refine s_icmp_ne 36 33 C X d1_30 (fun c30 => ?_) (fun c30 => ?_)
        · have t_c30 : ¬ (((x0 &&& (7 : Int32))).toInt = (3 : Int)) := fun q => c30 (Int32.toInt_inj.mp q)
          refine s_iloadN 37 C X d1_36 rfl ?_
          refine s_iconst 38 C X d1_37 kc_iconst_3 ?_
          refine s_ishr 39 C X d1_38 ?_
          refine s_ireturn C X d1_39 rfl ?_
          exact ⟨_, rfl, rfl⟩
        have t_c30 : ((x0 &&& (7 : Int32))).toInt = (3 : Int) := congrArg Int32.toInt c30
        refine s_bipush 35 C X d1_33 kc_bipush_9 ?_
        refine s_ireturn C X d1_35 rfl ?_
        exact ⟨_, rfl, rfl⟩
      have t_c22 : ((x0 &&& (7 : Int32))).toInt = (2 : Int) := congrArg Int32.toInt c22
      refine s_bipush 27 C X d1_25 kc_bipush_32 ?_
      refine s_ireturn C X d1_27 rfl ?_
      exact ⟨_, rfl, rfl⟩
    have t_c14 : ((x0 &&& (7 : Int32))).toInt = (1 : Int) := congrArg Int32.toInt c14
    refine s_bipush 19 C X d1_17 kc_bipush_10 ?_
    refine s_ireturn C X d1_19 rfl ?_
    exact ⟨_, rfl, rfl⟩
  have t_c6 : ((x0 &&& (7 : Int32))).toInt = (0 : Int) := congrArg Int32.toInt c6
  refine s_bipush 11 C X d1_9 kc_bipush_13 ?_
  refine s_ireturn C X d1_11 rfl ?_
  exact ⟨_, rfl, rfl⟩
set_option maxRecDepth 65536 in
set_option maxHeartbeats 40000000 in
theorem rm_init (l : Launch) (Z : State) (a0 : Array Value) (hw : ∀ d ∈ tables_1, d.before a0 Z = true) (o : Addr) (h0 : Heap) (n0 : Nat) (Z0 : n0 ≤ h0.size)  :
    Met l Z (⟨"com/example/shapelint/shapelint/io/LineCounter", "<init>", "()V"⟩ : MethodName) prog_9_method_1_code 1 none { frames := 1, cells := 0, slots := 0, locals := 12 } [] #[(.ref o)] h0 n0 (fun v h => v = none ∧ h = h0) := by
  refine Met.mk (tabs := tables_1) (a0 := a0) (ls0 := #[.val (.ref o)]) (plainFor_of_name pn_com_example_shapelint_shapelint_io_LineCounter) hw Z0 (fun m => by first | (simp [entryFrame, mkF, argsToLocals, Value.category]; done) | rfl) ?_
  intro p e s m below meth c T C X
  refine s_aloadN 1 C X d2_0 rfl rfl ?_
  refine s_objInit 4 C X d2_1 (List.mem_of_getElem? (i := 10) rfl) (List.mem_of_getElem? (i := 11) rfl) (List.mem_of_getElem? (i := 12) rfl) rfl (W := 0) rfl (by decide) (fun T X => ?_)
  refine s_return C X d2_4 rfl ?_
  exact ⟨rfl, rfl⟩
set_option maxRecDepth 65536 in
set_option maxHeartbeats 40000000 in
theorem rm_getLine (l : Launch) (Z : State) (a0 : Array Value) (hw : ∀ d ∈ tables_1, d.before a0 Z = true) (o : Addr) (n t : Int64) (f : Int32) (h0 : Heap) (n0 : Nat) (Z0 : n0 ≤ h0.size) (F_o__linesEnded : Fld Z h0 o "com/example/shapelint/shapelint/io/LineCounter" "_linesEnded" "J" (.long n)) (F_o__afterCarriageReturn : Fld Z h0 o "com/example/shapelint/shapelint/io/LineCounter" "_afterCarriageReturn" "Z" (.int f)) (F_o__lastTextLine : Fld Z h0 o "com/example/shapelint/shapelint/io/LineCounter" "_lastTextLine" "J" (.long t)) :
    Met l Z (⟨"com/example/shapelint/shapelint/io/LineCounter", "getLine", "()J"⟩ : MethodName) prog_9_method_2_code 1 (some .long) { frames := 0, cells := 0, slots := 0, locals := 0 } [] #[(.ref o)] h0 n0 (fun v h => v = some (.long (n + 1)) ∧ h = h0) := by
  refine Met.mk (tabs := tables_1) (a0 := a0) (ls0 := #[.val (.ref o)]) (plainFor_of_name pn_com_example_shapelint_shapelint_io_LineCounter) hw Z0 (fun m => by first | (simp [entryFrame, mkF, argsToLocals, Value.category]; done) | rfl) ?_
  intro p e s m below meth c T C X
  refine s_aloadN 1 C X d6_0 rfl rfl ?_
  refine s_getfield 4 C X (host := "") d6_1 (Or.inl (List.mem_of_getElem? (i := 22) rfl)) Via.refl F_o__linesEnded (fun T X => ?_)
  refine s_lconst 5 C X (z := (1 : Int64)) d6_4 rfl ?_
  refine s_ladd 6 C X d6_5 ?_
  refine s_lreturn C X d6_6 rfl ?_
  exact ⟨rfl, rfl⟩
set_option maxRecDepth 65536 in
set_option maxHeartbeats 40000000 in
theorem rm_getLastTextLine (l : Launch) (Z : State) (a0 : Array Value) (hw : ∀ d ∈ tables_1, d.before a0 Z = true) (o : Addr) (n t : Int64) (f : Int32) (h0 : Heap) (n0 : Nat) (Z0 : n0 ≤ h0.size) (F_o__linesEnded : Fld Z h0 o "com/example/shapelint/shapelint/io/LineCounter" "_linesEnded" "J" (.long n)) (F_o__afterCarriageReturn : Fld Z h0 o "com/example/shapelint/shapelint/io/LineCounter" "_afterCarriageReturn" "Z" (.int f)) (F_o__lastTextLine : Fld Z h0 o "com/example/shapelint/shapelint/io/LineCounter" "_lastTextLine" "J" (.long t)) :
    Met l Z (⟨"com/example/shapelint/shapelint/io/LineCounter", "getLastTextLine", "()J"⟩ : MethodName) prog_9_method_3_code 1 (some .long) { frames := 0, cells := 0, slots := 0, locals := 0 } [] #[(.ref o)] h0 n0 (fun v h => v = some (.long (t)) ∧ h = h0) := by
  refine Met.mk (tabs := tables_1) (a0 := a0) (ls0 := #[.val (.ref o)]) (plainFor_of_name pn_com_example_shapelint_shapelint_io_LineCounter) hw Z0 (fun m => by first | (simp [entryFrame, mkF, argsToLocals, Value.category]; done) | rfl) ?_
  intro p e s m below meth c T C X
  refine s_aloadN 1 C X d7_0 rfl rfl ?_
  refine s_getfield 4 C X (host := "") d7_1 (Or.inl (List.mem_of_getElem? (i := 36) rfl)) Via.refl F_o__lastTextLine (fun T X => ?_)
  refine s_lreturn C X d7_4 rfl ?_
  exact ⟨rfl, rfl⟩
set_option maxRecDepth 65536 in
set_option maxHeartbeats 40000000 in
theorem rm_pass (l : Launch) (Z : State) (a0 : Array Value) (hw : ∀ d ∈ tables_1, d.before a0 Z = true) (o : Addr) (x : Int32) (n t : Int64) (f : Int32) (h0 : Heap) (n0 : Nat) (Z0 : n0 ≤ h0.size) (F_o__linesEnded : Fld Z h0 o "com/example/shapelint/shapelint/io/LineCounter" "_linesEnded" "J" (.long n)) (F_o__afterCarriageReturn : Fld Z h0 o "com/example/shapelint/shapelint/io/LineCounter" "_afterCarriageReturn" "Z" (.int f)) (F_o__lastTextLine : Fld Z h0 o "com/example/shapelint/shapelint/io/LineCounter" "_lastTextLine" "J" (.long t)) (E_o : Exa Z h0 o "com/example/shapelint/shapelint/io/LineCounter") (g_o : n0 ≤ o) :
    Met l Z (⟨"com/example/shapelint/shapelint/io/LineCounter", "pass", "(I)V"⟩ : MethodName) prog_9_method_4_code 2 none { frames := 0, cells := 0, slots := 0, locals := 0 } [] #[(.ref o), (.int x)] h0 n0 (fun v h => v = none ∧ Keep h0 h [o] ∧ Exa Z h o "com/example/shapelint/shapelint/io/LineCounter" ∧ Fld Z h o "com/example/shapelint/shapelint/io/LineCounter" "_linesEnded" "J" (.long (newN x f n)) ∧ Fld Z h o "com/example/shapelint/shapelint/io/LineCounter" "_afterCarriageReturn" "Z" (.int (newF x)) ∧ Fld Z h o "com/example/shapelint/shapelint/io/LineCounter" "_lastTextLine" "J" (.long (newT x n t))) := by
  refine Met.mk (tabs := tables_1) (a0 := a0) (ls0 := #[.val (.ref o), .val (.int x)]) (plainFor_of_name pn_com_example_shapelint_shapelint_io_LineCounter) hw Z0 (fun m => by first | (simp [entryFrame, mkF, argsToLocals, Value.category]; done) | rfl) ?_
  intro p e s m below meth c T C X
  have Kp : Keep h0 h0 [o] := Keep.refl _ _
  refine s_iloadN 1 C X d5_0 rfl ?_
  refine s_bipush 3 C X d5_1 kc_bipush_13 ?_
  refine s_icmp_eq 19 6 C X d5_3 (fun c3 => ?_) (fun c3 => ?_)
  · have t_c3 : (x).toInt = (13 : Int) := congrArg Int32.toInt c3
    refine s_aloadN 20 C X d5_19 rfl rfl ?_
    refine s_dup 21 C X d5_20 rfl ?_
    refine s_getfield 24 C X (host := "") d5_21 (Or.inl (List.mem_of_getElem? (i := 22) rfl)) Via.refl F_o__linesEnded (fun T X => ?_)
    refine s_lconst 25 C X (z := (1 : Int64)) d5_24 rfl ?_
    refine s_ladd 26 C X d5_25 ?_
    refine s_putfield 29 C X (host := "") d5_26 (Or.inl (List.mem_of_getElem? (i := 22) rfl)) Via.refl F_o__linesEnded E_o (Or.inl (List.mem_of_getElem? (i := 23) rfl)) (List.mem_of_getElem? (i := 5) rfl) (ty := .long) (by decide) rfl rfl g_o (fun T _ X W => ?_)
    have F_o__linesEnded := F_o__linesEnded.same W
    have F_o__afterCarriageReturn := F_o__afterCarriageReturn.other W (Or.inr (slot_ne (Or.inl (hw _ (List.mem_of_getElem? (i := 25) rfl))) (Or.inl (hw _ (List.mem_of_getElem? (i := 23) rfl))) (by decide) (t := .boolean) (t' := .long) (by decide) (by decide)))
    have F_o__lastTextLine := F_o__lastTextLine.other W (Or.inr (slot_ne (Or.inl (hw _ (List.mem_of_getElem? (i := 37) rfl))) (Or.inl (hw _ (List.mem_of_getElem? (i := 23) rfl))) (by decide) (t := .long) (t' := .long) (by decide) (by decide)))
    have E_o := E_o.wr W
    have Kp := Kp.wr W (Or.inl (by simp))
    refine s_goto 60 C X d5_29 ?_
    refine s_aloadN 61 C X d5_60 rfl rfl ?_
    refine s_iloadN 62 C X d5_61 rfl ?_
    refine s_bipush 64 C X d5_62 kc_bipush_13 ?_
    refine s_icmp_ne 71 67 C X d5_64 (fun c => absurd c3 c) (fun c64 => ?_)
    have t_c64 : (x).toInt = (13 : Int) := congrArg Int32.toInt c64
    refine s_iconst 68 C X d5_67 kc_iconst_1 ?_
    refine s_goto 72 C X d5_68 ?_
    refine s_putfieldN 75 C X d5_72 (List.mem_of_getElem? (i := 24) rfl) Via.refl F_o__afterCarriageReturn E_o (Or.inl (List.mem_of_getElem? (i := 25) rfl)) (List.mem_of_getElem? (i := 5) rfl) (ty := .boolean) (by decide) rfl (fits_nar_bool (1 : Int32)) g_o (fun T _ X W => ?_)
    have F_o__linesEnded := F_o__linesEnded.other W (Or.inr (slot_ne (Or.inl (hw _ (List.mem_of_getElem? (i := 23) rfl))) (Or.inl (hw _ (List.mem_of_getElem? (i := 25) rfl))) (by decide) (t := .long) (t' := .boolean) (by decide) (by decide)))
    have F_o__afterCarriageReturn := F_o__afterCarriageReturn.same W
    have F_o__lastTextLine := F_o__lastTextLine.other W (Or.inr (slot_ne (Or.inl (hw _ (List.mem_of_getElem? (i := 37) rfl))) (Or.inl (hw _ (List.mem_of_getElem? (i := 25) rfl))) (by decide) (t := .long) (t' := .boolean) (by decide) (by decide)))
    have E_o := E_o.wr W
    have Kp := Kp.wr W (Or.inl (by simp))
    refine s_return C X d5_75 rfl ?_
    exact ⟨rfl, Kp, E_o,
        (by rw [show newN x f n = (n + (1 : Int64)) from by simp [newN, c3, c64]]; exact F_o__linesEnded),
        (by rw [show newF x = (1 : Int32) from by simp [newF, c3, c64]]; exact F_o__afterCarriageReturn),
        (by rw [show newT x n t = t from by simp [newT, c3, c64]]; exact F_o__lastTextLine)⟩
  have t_c3 : ¬ ((x).toInt = (13 : Int)) := fun q => c3 (Int32.toInt_inj.mp q)
  refine s_iloadN 7 C X d5_6 rfl ?_
  refine s_bipush 9 C X d5_7 kc_bipush_10 ?_
  refine s_icmp_ne 32 12 C X d5_9 (fun c9 => ?_) (fun c9 => ?_)
  · have t_c9 : ¬ ((x).toInt = (10 : Int)) := fun q => c9 (Int32.toInt_inj.mp q)
    refine s_iloadN 33 C X d5_32 rfl ?_
    refine s_bipush 35 C X d5_33 kc_bipush_10 ?_
    refine s_icmp_eq 60 38 C X d5_35 (fun c => absurd c c9) (fun c35 => ?_)
    have t_c35 : ¬ ((x).toInt = (10 : Int)) := fun q => c35 (Int32.toInt_inj.mp q)
    refine s_iloadN 39 C X d5_38 rfl ?_
    refine s_bipush 41 C X d5_39 kc_bipush_32 ?_
    refine s_icmp_eq 60 44 C X d5_41 (fun c41 => ?_) (fun c41 => ?_)
    · have t_c41 : (x).toInt = (32 : Int) := congrArg Int32.toInt c41
      refine s_aloadN 61 C X d5_60 rfl rfl ?_
      refine s_iloadN 62 C X d5_61 rfl ?_
      refine s_bipush 64 C X d5_62 kc_bipush_13 ?_
      refine s_icmp_ne 71 67 C X d5_64 (fun c64 => ?_) (fun c => absurd c c3)
      have t_c64 : ¬ ((x).toInt = (13 : Int)) := fun q => c64 (Int32.toInt_inj.mp q)
      refine s_iconst 72 C X d5_71 kc_iconst_0 ?_
      refine s_putfieldN 75 C X d5_72 (List.mem_of_getElem? (i := 24) rfl) Via.refl F_o__afterCarriageReturn E_o (Or.inl (List.mem_of_getElem? (i := 25) rfl)) (List.mem_of_getElem? (i := 5) rfl) (ty := .boolean) (by decide) rfl (fits_nar_bool (0 : Int32)) g_o (fun T _ X W => ?_)
      have F_o__linesEnded := F_o__linesEnded.other W (Or.inr (slot_ne (Or.inl (hw _ (List.mem_of_getElem? (i := 23) rfl))) (Or.inl (hw _ (List.mem_of_getElem? (i := 25) rfl))) (by decide) (t := .long) (t' := .boolean) (by decide) (by decide)))
      have F_o__afterCarriageReturn := F_o__afterCarriageReturn.same W
      have F_o__lastTextLine := F_o__lastTextLine.other W (Or.inr (slot_ne (Or.inl (hw _ (List.mem_of_getElem? (i := 37) rfl))) (Or.inl (hw _ (List.mem_of_getElem? (i := 25) rfl))) (by decide) (t := .long) (t' := .boolean) (by decide) (by decide)))
      have E_o := E_o.wr W
      have Kp := Kp.wr W (Or.inl (by simp))
      refine s_return C X d5_75 rfl ?_
      exact ⟨rfl, Kp, E_o,
          (by rw [show newN x f n = n from by simp [newN, c3, c9, c35, c41, c64]]; exact F_o__linesEnded),
          (by rw [show newF x = (0 : Int32) from by simp [newF, c3, c9, c35, c41, c64]]; exact F_o__afterCarriageReturn),
          (by rw [show newT x n t = t from by simp [newT, c3, c9, c35, c41, c64]]; exact F_o__lastTextLine)⟩
    have t_c41 : ¬ ((x).toInt = (32 : Int)) := fun q => c41 (Int32.toInt_inj.mp q)
    refine s_iloadN 45 C X d5_44 rfl ?_
    refine s_bipush 47 C X d5_45 kc_bipush_9 ?_
    refine s_icmp_eq 60 50 C X d5_47 (fun c47 => ?_) (fun c47 => ?_)
    · have t_c47 : (x).toInt = (9 : Int) := congrArg Int32.toInt c47
      refine s_aloadN 61 C X d5_60 rfl rfl ?_
      refine s_iloadN 62 C X d5_61 rfl ?_
      refine s_bipush 64 C X d5_62 kc_bipush_13 ?_
      refine s_icmp_ne 71 67 C X d5_64 (fun c64 => ?_) (fun c => absurd c c3)
      have t_c64 : ¬ ((x).toInt = (13 : Int)) := fun q => c64 (Int32.toInt_inj.mp q)
      refine s_iconst 72 C X d5_71 kc_iconst_0 ?_
      refine s_putfieldN 75 C X d5_72 (List.mem_of_getElem? (i := 24) rfl) Via.refl F_o__afterCarriageReturn E_o (Or.inl (List.mem_of_getElem? (i := 25) rfl)) (List.mem_of_getElem? (i := 5) rfl) (ty := .boolean) (by decide) rfl (fits_nar_bool (0 : Int32)) g_o (fun T _ X W => ?_)
      have F_o__linesEnded := F_o__linesEnded.other W (Or.inr (slot_ne (Or.inl (hw _ (List.mem_of_getElem? (i := 23) rfl))) (Or.inl (hw _ (List.mem_of_getElem? (i := 25) rfl))) (by decide) (t := .long) (t' := .boolean) (by decide) (by decide)))
      have F_o__afterCarriageReturn := F_o__afterCarriageReturn.same W
      have F_o__lastTextLine := F_o__lastTextLine.other W (Or.inr (slot_ne (Or.inl (hw _ (List.mem_of_getElem? (i := 37) rfl))) (Or.inl (hw _ (List.mem_of_getElem? (i := 25) rfl))) (by decide) (t := .long) (t' := .boolean) (by decide) (by decide)))
      have E_o := E_o.wr W
      have Kp := Kp.wr W (Or.inl (by simp))
      refine s_return C X d5_75 rfl ?_
      exact ⟨rfl, Kp, E_o,
          (by rw [show newN x f n = n from by simp [newN, c3, c9, c35, c41, c47, c64]]; exact F_o__linesEnded),
          (by rw [show newF x = (0 : Int32) from by simp [newF, c3, c9, c35, c41, c47, c64]]; exact F_o__afterCarriageReturn),
          (by rw [show newT x n t = t from by simp [newT, c3, c9, c35, c41, c47, c64]]; exact F_o__lastTextLine)⟩
    have t_c47 : ¬ ((x).toInt = (9 : Int)) := fun q => c47 (Int32.toInt_inj.mp q)
    refine s_aloadN 51 C X d5_50 rfl rfl ?_
    refine s_aloadN 52 C X d5_51 rfl rfl ?_
    refine s_getfield 55 C X (host := "") d5_52 (Or.inl (List.mem_of_getElem? (i := 22) rfl)) Via.refl F_o__linesEnded (fun T X => ?_)
    refine s_lconst 56 C X (z := (1 : Int64)) d5_55 rfl ?_
    refine s_ladd 57 C X d5_56 ?_
    refine s_putfield 60 C X (host := "") d5_57 (Or.inl (List.mem_of_getElem? (i := 36) rfl)) Via.refl F_o__lastTextLine E_o (Or.inl (List.mem_of_getElem? (i := 37) rfl)) (List.mem_of_getElem? (i := 5) rfl) (ty := .long) (by decide) rfl rfl g_o (fun T _ X W => ?_)
    have F_o__linesEnded := F_o__linesEnded.other W (Or.inr (slot_ne (Or.inl (hw _ (List.mem_of_getElem? (i := 23) rfl))) (Or.inl (hw _ (List.mem_of_getElem? (i := 37) rfl))) (by decide) (t := .long) (t' := .long) (by decide) (by decide)))
    have F_o__afterCarriageReturn := F_o__afterCarriageReturn.other W (Or.inr (slot_ne (Or.inl (hw _ (List.mem_of_getElem? (i := 25) rfl))) (Or.inl (hw _ (List.mem_of_getElem? (i := 37) rfl))) (by decide) (t := .boolean) (t' := .long) (by decide) (by decide)))
    have F_o__lastTextLine := F_o__lastTextLine.same W
    have E_o := E_o.wr W
    have Kp := Kp.wr W (Or.inl (by simp))
    refine s_aloadN 61 C X d5_60 rfl rfl ?_
    refine s_iloadN 62 C X d5_61 rfl ?_
    refine s_bipush 64 C X d5_62 kc_bipush_13 ?_
    refine s_icmp_ne 71 67 C X d5_64 (fun c64 => ?_) (fun c => absurd c c3)
    have t_c64 : ¬ ((x).toInt = (13 : Int)) := fun q => c64 (Int32.toInt_inj.mp q)
    refine s_iconst 72 C X d5_71 kc_iconst_0 ?_
    refine s_putfieldN 75 C X d5_72 (List.mem_of_getElem? (i := 24) rfl) Via.refl F_o__afterCarriageReturn E_o (Or.inl (List.mem_of_getElem? (i := 25) rfl)) (List.mem_of_getElem? (i := 5) rfl) (ty := .boolean) (by decide) rfl (fits_nar_bool (0 : Int32)) g_o (fun T _ X W => ?_)
    have F_o__linesEnded := F_o__linesEnded.other W (Or.inr (slot_ne (Or.inl (hw _ (List.mem_of_getElem? (i := 23) rfl))) (Or.inl (hw _ (List.mem_of_getElem? (i := 25) rfl))) (by decide) (t := .long) (t' := .boolean) (by decide) (by decide)))
    have F_o__afterCarriageReturn := F_o__afterCarriageReturn.same W
    have F_o__lastTextLine := F_o__lastTextLine.other W (Or.inr (slot_ne (Or.inl (hw _ (List.mem_of_getElem? (i := 37) rfl))) (Or.inl (hw _ (List.mem_of_getElem? (i := 25) rfl))) (by decide) (t := .long) (t' := .boolean) (by decide) (by decide)))
    have E_o := E_o.wr W
    have Kp := Kp.wr W (Or.inl (by simp))
    refine s_return C X d5_75 rfl ?_
    exact ⟨rfl, Kp, E_o,
        (by rw [show newN x f n = n from by simp [newN, c3, c9, c35, c41, c47, c64]]; exact F_o__linesEnded),
        (by rw [show newF x = (0 : Int32) from by simp [newF, c3, c9, c35, c41, c47, c64]]; exact F_o__afterCarriageReturn),
        (by rw [show newT x n t = (n + (1 : Int64)) from by simp [newT, c3, c9, c35, c41, c47, c64]]; exact F_o__lastTextLine)⟩
  have t_c9 : (x).toInt = (10 : Int) := congrArg Int32.toInt c9
  refine s_aloadN 13 C X d5_12 rfl rfl ?_
  refine s_getfield 16 C X (host := "") d5_13 (Or.inl (List.mem_of_getElem? (i := 24) rfl)) Via.refl F_o__afterCarriageReturn (fun T X => ?_)
  refine s_if_ne 32 19 C X d5_16 (fun c16 => ?_) (fun c16 => ?_)
  · have t_c16 : ¬ ((f).toInt = (0 : Int)) := fun q => c16 (Int32.toInt_inj.mp q)
    refine s_iloadN 33 C X d5_32 rfl ?_
    refine s_bipush 35 C X d5_33 kc_bipush_10 ?_
    refine s_icmp_eq 60 38 C X d5_35 (fun c35 => ?_) (fun c => absurd c9 c)
    have t_c35 : (x).toInt = (10 : Int) := congrArg Int32.toInt c35
    refine s_aloadN 61 C X d5_60 rfl rfl ?_
    refine s_iloadN 62 C X d5_61 rfl ?_
    refine s_bipush 64 C X d5_62 kc_bipush_13 ?_
    refine s_icmp_ne 71 67 C X d5_64 (fun c64 => ?_) (fun c => absurd c c3)
    have t_c64 : ¬ ((x).toInt = (13 : Int)) := fun q => c64 (Int32.toInt_inj.mp q)
    refine s_iconst 72 C X d5_71 kc_iconst_0 ?_
    refine s_putfieldN 75 C X d5_72 (List.mem_of_getElem? (i := 24) rfl) Via.refl F_o__afterCarriageReturn E_o (Or.inl (List.mem_of_getElem? (i := 25) rfl)) (List.mem_of_getElem? (i := 5) rfl) (ty := .boolean) (by decide) rfl (fits_nar_bool (0 : Int32)) g_o (fun T _ X W => ?_)
    have F_o__linesEnded := F_o__linesEnded.other W (Or.inr (slot_ne (Or.inl (hw _ (List.mem_of_getElem? (i := 23) rfl))) (Or.inl (hw _ (List.mem_of_getElem? (i := 25) rfl))) (by decide) (t := .long) (t' := .boolean) (by decide) (by decide)))
    have F_o__afterCarriageReturn := F_o__afterCarriageReturn.same W
    have F_o__lastTextLine := F_o__lastTextLine.other W (Or.inr (slot_ne (Or.inl (hw _ (List.mem_of_getElem? (i := 37) rfl))) (Or.inl (hw _ (List.mem_of_getElem? (i := 25) rfl))) (by decide) (t := .long) (t' := .boolean) (by decide) (by decide)))
    have E_o := E_o.wr W
    have Kp := Kp.wr W (Or.inl (by simp))
    refine s_return C X d5_75 rfl ?_
    exact ⟨rfl, Kp, E_o,
        (by rw [show newN x f n = n from by simp [newN, c3, c9, c16, c35, c64]]; exact F_o__linesEnded),
        (by rw [show newF x = (0 : Int32) from by simp [newF, c3, c9, c16, c35, c64]]; exact F_o__afterCarriageReturn),
        (by rw [show newT x n t = t from by simp [newT, c3, c9, c16, c35, c64]]; exact F_o__lastTextLine)⟩
  have t_c16 : (f).toInt = (0 : Int) := congrArg Int32.toInt c16
  refine s_aloadN 20 C X d5_19 rfl rfl ?_
  refine s_dup 21 C X d5_20 rfl ?_
  refine s_getfield 24 C X (host := "") d5_21 (Or.inl (List.mem_of_getElem? (i := 22) rfl)) Via.refl F_o__linesEnded (fun T X => ?_)
  refine s_lconst 25 C X (z := (1 : Int64)) d5_24 rfl ?_
  refine s_ladd 26 C X d5_25 ?_
  refine s_putfield 29 C X (host := "") d5_26 (Or.inl (List.mem_of_getElem? (i := 22) rfl)) Via.refl F_o__linesEnded E_o (Or.inl (List.mem_of_getElem? (i := 23) rfl)) (List.mem_of_getElem? (i := 5) rfl) (ty := .long) (by decide) rfl rfl g_o (fun T _ X W => ?_)
  have F_o__linesEnded := F_o__linesEnded.same W
  have F_o__afterCarriageReturn := F_o__afterCarriageReturn.other W (Or.inr (slot_ne (Or.inl (hw _ (List.mem_of_getElem? (i := 25) rfl))) (Or.inl (hw _ (List.mem_of_getElem? (i := 23) rfl))) (by decide) (t := .boolean) (t' := .long) (by decide) (by decide)))
  have F_o__lastTextLine := F_o__lastTextLine.other W (Or.inr (slot_ne (Or.inl (hw _ (List.mem_of_getElem? (i := 37) rfl))) (Or.inl (hw _ (List.mem_of_getElem? (i := 23) rfl))) (by decide) (t := .long) (t' := .long) (by decide) (by decide)))
  have E_o := E_o.wr W
  have Kp := Kp.wr W (Or.inl (by simp))
  refine s_goto 60 C X d5_29 ?_
  refine s_aloadN 61 C X d5_60 rfl rfl ?_
  refine s_iloadN 62 C X d5_61 rfl ?_
  refine s_bipush 64 C X d5_62 kc_bipush_13 ?_
  refine s_icmp_ne 71 67 C X d5_64 (fun c64 => ?_) (fun c => absurd c c3)
  have t_c64 : ¬ ((x).toInt = (13 : Int)) := fun q => c64 (Int32.toInt_inj.mp q)
  refine s_iconst 72 C X d5_71 kc_iconst_0 ?_
  refine s_putfieldN 75 C X d5_72 (List.mem_of_getElem? (i := 24) rfl) Via.refl F_o__afterCarriageReturn E_o (Or.inl (List.mem_of_getElem? (i := 25) rfl)) (List.mem_of_getElem? (i := 5) rfl) (ty := .boolean) (by decide) rfl (fits_nar_bool (0 : Int32)) g_o (fun T _ X W => ?_)
  have F_o__linesEnded := F_o__linesEnded.other W (Or.inr (slot_ne (Or.inl (hw _ (List.mem_of_getElem? (i := 23) rfl))) (Or.inl (hw _ (List.mem_of_getElem? (i := 25) rfl))) (by decide) (t := .long) (t' := .boolean) (by decide) (by decide)))
  have F_o__afterCarriageReturn := F_o__afterCarriageReturn.same W
  have F_o__lastTextLine := F_o__lastTextLine.other W (Or.inr (slot_ne (Or.inl (hw _ (List.mem_of_getElem? (i := 37) rfl))) (Or.inl (hw _ (List.mem_of_getElem? (i := 25) rfl))) (by decide) (t := .long) (t' := .boolean) (by decide) (by decide)))
  have E_o := E_o.wr W
  have Kp := Kp.wr W (Or.inl (by simp))
  refine s_return C X d5_75 rfl ?_
  exact ⟨rfl, Kp, E_o,
      (by rw [show newN x f n = (n + (1 : Int64)) from by simp [newN, c3, c9, c16, c64]]; exact F_o__linesEnded),
      (by rw [show newF x = (0 : Int32) from by simp [newF, c3, c9, c16, c64]]; exact F_o__afterCarriageReturn),
      (by rw [show newT x n t = t from by simp [newT, c3, c9, c16, c64]]; exact F_o__lastTextLine)⟩
set_option maxRecDepth 65536 in
set_option maxHeartbeats 40000000 in
theorem rm_step (l : Launch) (Z : State) (a0 : Array Value) (hw : ∀ d ∈ tables_1, d.before a0 Z = true) (o b : Addr) (y x : Int32) (n t : Int64) (f : Int32) (k_b : ClassId) (h0 : Heap) (n0 : Nat) (Z0 : n0 ≤ h0.size) (F_o__linesEnded : Fld Z h0 o "com/example/shapelint/shapelint/io/LineCounter" "_linesEnded" "J" (.long n)) (F_o__afterCarriageReturn : Fld Z h0 o "com/example/shapelint/shapelint/io/LineCounter" "_afterCarriageReturn" "Z" (.int f)) (F_o__lastTextLine : Fld Z h0 o "com/example/shapelint/shapelint/io/LineCounter" "_lastTextLine" "J" (.long t)) (E_o : Exa Z h0 o "com/example/shapelint/shapelint/io/LineCounter") (A_b : Arv Z h0 b k_b .long 2 [(.long (n + 1)), (.long t)] (.long 0)) (g_o : n0 ≤ o) (g_b : n0 ≤ b) (ne_o_b : o ≠ b) (hfy : (f = 1 ∧ y = 13) ∨ (f = 0 ∧ ¬ y = 13)) :
    Met l Z (⟨"com/example/shapelint/shapelint/io/LineCounterPassPinLaw", "step", "(Lcom/example/shapelint/shapelint/io/LineCounter;[JII)Z"⟩ : MethodName) method_3_code 6 (some .boolean) { frames := 1, cells := 0, slots := 0, locals := 20 } [] #[(.ref o), (.ref b), (.int y), (.int x)] h0 n0 (fun v h => v = some (.int 1) ∧ ∃ n' t' f', Keep h0 h [o, b] ∧ Exa Z h o "com/example/shapelint/shapelint/io/LineCounter" ∧ Fld Z h o "com/example/shapelint/shapelint/io/LineCounter" "_linesEnded" "J" (.long n') ∧ Fld Z h o "com/example/shapelint/shapelint/io/LineCounter" "_afterCarriageReturn" "Z" (.int f') ∧ Fld Z h o "com/example/shapelint/shapelint/io/LineCounter" "_lastTextLine" "J" (.long t') ∧ Arv Z h b k_b .long 2 [(.long (n' + 1)), (.long t')] (.long 0) ∧ ((f' = 1 ∧ x = 13) ∨ (f' = 0 ∧ ¬ x = 13))) := by
  refine Met.mk (tabs := tables_1) (a0 := a0) (ls0 := #[.val (.ref o), .val (.ref b), .val (.int y), .val (.int x), .unset, .unset]) (plainFor_of_name pn_com_example_shapelint_shapelint_io_LineCounterPassPinLaw) hw Z0 (fun m => by first | (simp [entryFrame, mkF, argsToLocals, Value.category]; done) | rfl) ?_
  intro p e s m below meth c T C X
  have Kp : Keep h0 h0 [o, b] := Keep.refl _ _
  refine s_iloadN 1 C X d4_0 rfl ?_
  refine s_bipush 3 C X d4_1 kc_bipush_13 ?_
  refine s_icmp_eq 18 6 C X d4_3 (fun c3 => ?_) (fun c3 => ?_)
  · have t_c3 : (x).toInt = (13 : Int) := congrArg Int32.toInt c3
    refine s_iconst 19 C X d4_18 kc_iconst_1 ?_
    refine s_goto 23 C X d4_19 ?_
    refine s_istore 25 C X (l' := #[.val (.ref o), .val (.ref b), .val (.int y), .val (.int x), .val (.int (1 : Int32)), .unset]) d4_23 rfl ?_
    refine s_iloadN 26 C X d4_25 rfl ?_
    refine s_bipush 28 C X d4_26 kc_bipush_13 ?_
    refine s_icmp_eq 53 31 C X d4_28 (fun c28 => ?_) (fun c => absurd c3 c)
    have t_c28 : (x).toInt = (13 : Int) := congrArg Int32.toInt c28
    refine s_iconst 54 C X d4_53 kc_iconst_0 ?_
    refine s_istore 56 C X (l' := #[.val (.ref o), .val (.ref b), .val (.int y), .val (.int x), .val (.int (1 : Int32)), .val (.int (0 : Int32))]) d4_54 rfl ?_
    refine s_iload 58 C X d4_56 rfl ?_
    refine s_if_eq 67 61 C X d4_58 (fun _ => ?_) (fun c => absurd (by decide : (0 : Int32) = (0 : Int32)) c)
    refine s_iload 69 C X d4_67 rfl ?_
    refine s_if_eq 80 72 C X d4_69 (fun c => absurd c (by decide)) (fun _ => ?_)
    refine s_aloadN 73 C X d4_72 rfl rfl ?_
    refine s_iconst 74 C X d4_73 kc_iconst_0 ?_
    refine s_aloadN 75 C X d4_74 rfl rfl ?_
    refine s_iconst 76 C X d4_75 kc_iconst_0 ?_
    refine s_laload 77 C X d4_76 A_b ⟨by decide, by decide⟩ (v := (.long (n + 1))) rfl ?_
    refine s_lconst 78 C X (z := (1 : Int64)) d4_77 rfl ?_
    refine s_ladd 79 C X d4_78 ?_
    refine s_lastore 80 0 C X d4_79 A_b g_b ⟨by decide, by decide⟩ rfl (Nat.le_of_ble_eq_true rfl) (fun T _ X W A_b => ?_)
    have A_b : Arv Z _ b k_b .long (2 : Int32) [(.long ((n + 1) + (1 : Int64))), (.long t)] (.long (0 : Int64)) := A_b
    have F_o__linesEnded := F_o__linesEnded.other W (Or.inl ne_o_b)
    have F_o__afterCarriageReturn := F_o__afterCarriageReturn.other W (Or.inl ne_o_b)
    have F_o__lastTextLine := F_o__lastTextLine.other W (Or.inl ne_o_b)
    have E_o := E_o.wr W
    have Kp := Kp.wr W (Or.inl (by simp))
    refine s_aloadN 81 C X d4_80 rfl rfl ?_
    refine s_iloadN 82 C X d4_81 rfl ?_
    refine s_callV 85 [(.int x)] [] 0 C X d4_82 (List.mem_of_getElem? (i := 17) rfl) (List.mem_of_getElem? (i := 18) rfl) (notFace_of_selects (args := #[]) (mvT C.2.1 (C.w (List.mem_of_getElem? (i := 20) rfl)))) (List.mem_of_getElem? (i := 20) rfl) (List.mem_of_getElem? (i := 19) rfl) (List.mem_of_getElem? (i := 6) rfl) (List.mem_of_getElem? (i := 21) rfl) E_o (rm_pass l Z a0 hw o x n t f _ n0 X.sz F_o__linesEnded F_o__afterCarriageReturn F_o__lastTextLine E_o g_o) (lenOf pd__I_V rfl) rfl rfl rfl (fun T v h0 X q => ?_)
    obtain ⟨rfl, Kc, _, F_o__linesEnded, F_o__afterCarriageReturn, F_o__lastTextLine⟩ := q
    have Kp := Kp.trans Kc (allS (Or.inl (by simp)) all0)
    have A_b := A_b.keep Kc (ninS (Ne.symm ne_o_b) nin0)
    have E_o := E_o.keep Kc
    refine Run.cast (st' := []) rfl ?_
    refine s_aloadN 86 C X d4_85 rfl rfl ?_
    refine s_callV 89 [] [] 0 C X d4_86 (List.mem_of_getElem? (i := 26) rfl) (List.mem_of_getElem? (i := 27) rfl) (notFace_of_selects (args := #[]) (mvT C.2.1 (C.w (List.mem_of_getElem? (i := 29) rfl)))) (List.mem_of_getElem? (i := 29) rfl) (List.mem_of_getElem? (i := 28) rfl) (List.mem_of_getElem? (i := 6) rfl) (List.mem_of_getElem? (i := 30) rfl) E_o (rm_getLine l Z a0 hw o (newN x f n) (newT x n t) (newF x) _ n0 X.sz F_o__linesEnded F_o__afterCarriageReturn F_o__lastTextLine) (lenOf pd___J rfl) rfl rfl rfl (fun T v h1 X q => ?_)
    obtain ⟨rfl, hE⟩ := q
    rw [hE] at X
    refine Run.cast (st' := [(.long ((newN x f n) + (1 : Int64)))]) rfl ?_
    refine s_aloadN 90 C X d4_89 rfl rfl ?_
    refine s_iconst 91 C X d4_90 kc_iconst_0 ?_
    refine s_laload 92 C X d4_91 A_b ⟨by decide, by decide⟩ (v := (.long ((n + 1) + (1 : Int64)))) rfl ?_
    refine s_lcmp 93 C X d4_92 ?_
    have hz93 : (XT.cmpL ((newN x f n) + (1 : Int64)) ((n + 1) + (1 : Int64))) = 0 := own_cmp0 (by simp [newN, c3, c28])
    refine s_if_ne 111 96 C X d4_93 (fun c => absurd hz93 c) (fun c93 => ?_)
    have t_c93 : (((newN x f n) + (1 : Int64))).toInt = (((n + 1) + (1 : Int64))).toInt := cl_eq.mp c93
    refine s_aloadN 97 C X d4_96 rfl rfl ?_
    refine s_callV 100 [] [] 0 C X d4_97 (List.mem_of_getElem? (i := 31) rfl) (List.mem_of_getElem? (i := 32) rfl) (notFace_of_selects (args := #[]) (mvT C.2.1 (C.w (List.mem_of_getElem? (i := 34) rfl)))) (List.mem_of_getElem? (i := 34) rfl) (List.mem_of_getElem? (i := 33) rfl) (List.mem_of_getElem? (i := 6) rfl) (List.mem_of_getElem? (i := 35) rfl) E_o (rm_getLastTextLine l Z a0 hw o (newN x f n) (newT x n t) (newF x) _ n0 X.sz F_o__linesEnded F_o__afterCarriageReturn F_o__lastTextLine) (lenOf pd___J rfl) rfl rfl rfl (fun T v h2 X q => ?_)
    obtain ⟨rfl, hE⟩ := q
    rw [hE] at X
    refine Run.cast (st' := [(.long (newT x n t))]) rfl ?_
    refine s_aloadN 101 C X d4_100 rfl rfl ?_
    refine s_iconst 102 C X d4_101 kc_iconst_1 ?_
    refine s_laload 103 C X d4_102 A_b ⟨by decide, by decide⟩ (v := (.long t)) rfl ?_
    refine s_lcmp 104 C X d4_103 ?_
    have hz104 : (XT.cmpL (newT x n t) t) = 0 := own_cmp0 (by simp [newT, c3, c28])
    refine s_if_ne 111 107 C X d4_104 (fun c => absurd hz104 c) (fun c104 => ?_)
    have t_c104 : ((newT x n t)).toInt = (t).toInt := cl_eq.mp c104
    refine s_iconst 108 C X d4_107 kc_iconst_1 ?_
    refine s_goto 112 C X d4_108 ?_
    refine s_nreturn C X d4_112 rfl (by simp) rfl ?_
    exact ⟨rfl, newN x f n, newT x n t, newF x, Kp, E_o, F_o__linesEnded, F_o__afterCarriageReturn, F_o__lastTextLine, (by rw [show newN x f n + 1 = ((n + 1) + (1 : Int64)) from by simp [newN, c3, c28], show newT x n t = t from by simp [newT, c3, c28]]; exact A_b), own_newF x⟩
  have t_c3 : ¬ ((x).toInt = (13 : Int)) := fun q => c3 (Int32.toInt_inj.mp q)
  refine s_iloadN 7 C X d4_6 rfl ?_
  refine s_bipush 9 C X d4_7 kc_bipush_10 ?_
  refine s_icmp_ne 22 12 C X d4_9 (fun c9 => ?_) (fun c9 => ?_)
  · have t_c9 : ¬ ((x).toInt = (10 : Int)) := fun q => c9 (Int32.toInt_inj.mp q)
    refine s_iconst 23 C X d4_22 kc_iconst_0 ?_
    refine s_istore 25 C X (l' := #[.val (.ref o), .val (.ref b), .val (.int y), .val (.int x), .val (.int (0 : Int32)), .unset]) d4_23 rfl ?_
    refine s_iloadN 26 C X d4_25 rfl ?_
    refine s_bipush 28 C X d4_26 kc_bipush_13 ?_
    refine s_icmp_eq 53 31 C X d4_28 (fun c => absurd c c3) (fun c28 => ?_)
    have t_c28 : ¬ ((x).toInt = (13 : Int)) := fun q => c28 (Int32.toInt_inj.mp q)
    refine s_iloadN 32 C X d4_31 rfl ?_
    refine s_bipush 34 C X d4_32 kc_bipush_10 ?_
    refine s_icmp_eq 53 37 C X d4_34 (fun c => absurd c c9) (fun c34 => ?_)
    have t_c34 : ¬ ((x).toInt = (10 : Int)) := fun q => c34 (Int32.toInt_inj.mp q)
    refine s_iloadN 38 C X d4_37 rfl ?_
    refine s_bipush 40 C X d4_38 kc_bipush_32 ?_
    refine s_icmp_eq 53 43 C X d4_40 (fun c40 => ?_) (fun c40 => ?_)
    · have t_c40 : (x).toInt = (32 : Int) := congrArg Int32.toInt c40
      refine s_iconst 54 C X d4_53 kc_iconst_0 ?_
      refine s_istore 56 C X (l' := #[.val (.ref o), .val (.ref b), .val (.int y), .val (.int x), .val (.int (0 : Int32)), .val (.int (0 : Int32))]) d4_54 rfl ?_
      refine s_iload 58 C X d4_56 rfl ?_
      refine s_if_eq 67 61 C X d4_58 (fun _ => ?_) (fun c => absurd (by decide : (0 : Int32) = (0 : Int32)) c)
      refine s_iload 69 C X d4_67 rfl ?_
      refine s_if_eq 80 72 C X d4_69 (fun _ => ?_) (fun c => absurd (by decide : (0 : Int32) = (0 : Int32)) c)
      refine s_aloadN 81 C X d4_80 rfl rfl ?_
      refine s_iloadN 82 C X d4_81 rfl ?_
      refine s_callV 85 [(.int x)] [] 0 C X d4_82 (List.mem_of_getElem? (i := 17) rfl) (List.mem_of_getElem? (i := 18) rfl) (notFace_of_selects (args := #[]) (mvT C.2.1 (C.w (List.mem_of_getElem? (i := 20) rfl)))) (List.mem_of_getElem? (i := 20) rfl) (List.mem_of_getElem? (i := 19) rfl) (List.mem_of_getElem? (i := 6) rfl) (List.mem_of_getElem? (i := 21) rfl) E_o (rm_pass l Z a0 hw o x n t f _ n0 X.sz F_o__linesEnded F_o__afterCarriageReturn F_o__lastTextLine E_o g_o) (lenOf pd__I_V rfl) rfl rfl rfl (fun T v h3 X q => ?_)
      obtain ⟨rfl, Kc, _, F_o__linesEnded, F_o__afterCarriageReturn, F_o__lastTextLine⟩ := q
      have Kp := Kp.trans Kc (allS (Or.inl (by simp)) all0)
      have A_b := A_b.keep Kc (ninS (Ne.symm ne_o_b) nin0)
      have E_o := E_o.keep Kc
      refine Run.cast (st' := []) rfl ?_
      refine s_aloadN 86 C X d4_85 rfl rfl ?_
      refine s_callV 89 [] [] 0 C X d4_86 (List.mem_of_getElem? (i := 26) rfl) (List.mem_of_getElem? (i := 27) rfl) (notFace_of_selects (args := #[]) (mvT C.2.1 (C.w (List.mem_of_getElem? (i := 29) rfl)))) (List.mem_of_getElem? (i := 29) rfl) (List.mem_of_getElem? (i := 28) rfl) (List.mem_of_getElem? (i := 6) rfl) (List.mem_of_getElem? (i := 30) rfl) E_o (rm_getLine l Z a0 hw o (newN x f n) (newT x n t) (newF x) _ n0 X.sz F_o__linesEnded F_o__afterCarriageReturn F_o__lastTextLine) (lenOf pd___J rfl) rfl rfl rfl (fun T v h4 X q => ?_)
      obtain ⟨rfl, hE⟩ := q
      rw [hE] at X
      refine Run.cast (st' := [(.long ((newN x f n) + (1 : Int64)))]) rfl ?_
      refine s_aloadN 90 C X d4_89 rfl rfl ?_
      refine s_iconst 91 C X d4_90 kc_iconst_0 ?_
      refine s_laload 92 C X d4_91 A_b ⟨by decide, by decide⟩ (v := (.long (n + 1))) rfl ?_
      refine s_lcmp 93 C X d4_92 ?_
      have hz93 : (XT.cmpL ((newN x f n) + (1 : Int64)) (n + 1)) = 0 := own_cmp0 (by simp [newN, c3, c9, c28, c34, c40])
      refine s_if_ne 111 96 C X d4_93 (fun c => absurd hz93 c) (fun c93 => ?_)
      have t_c93 : (((newN x f n) + (1 : Int64))).toInt = ((n + 1)).toInt := cl_eq.mp c93
      refine s_aloadN 97 C X d4_96 rfl rfl ?_
      refine s_callV 100 [] [] 0 C X d4_97 (List.mem_of_getElem? (i := 31) rfl) (List.mem_of_getElem? (i := 32) rfl) (notFace_of_selects (args := #[]) (mvT C.2.1 (C.w (List.mem_of_getElem? (i := 34) rfl)))) (List.mem_of_getElem? (i := 34) rfl) (List.mem_of_getElem? (i := 33) rfl) (List.mem_of_getElem? (i := 6) rfl) (List.mem_of_getElem? (i := 35) rfl) E_o (rm_getLastTextLine l Z a0 hw o (newN x f n) (newT x n t) (newF x) _ n0 X.sz F_o__linesEnded F_o__afterCarriageReturn F_o__lastTextLine) (lenOf pd___J rfl) rfl rfl rfl (fun T v h5 X q => ?_)
      obtain ⟨rfl, hE⟩ := q
      rw [hE] at X
      refine Run.cast (st' := [(.long (newT x n t))]) rfl ?_
      refine s_aloadN 101 C X d4_100 rfl rfl ?_
      refine s_iconst 102 C X d4_101 kc_iconst_1 ?_
      refine s_laload 103 C X d4_102 A_b ⟨by decide, by decide⟩ (v := (.long t)) rfl ?_
      refine s_lcmp 104 C X d4_103 ?_
      have hz104 : (XT.cmpL (newT x n t) t) = 0 := own_cmp0 (by simp [newT, c3, c9, c28, c34, c40])
      refine s_if_ne 111 107 C X d4_104 (fun c => absurd hz104 c) (fun c104 => ?_)
      have t_c104 : ((newT x n t)).toInt = (t).toInt := cl_eq.mp c104
      refine s_iconst 108 C X d4_107 kc_iconst_1 ?_
      refine s_goto 112 C X d4_108 ?_
      refine s_nreturn C X d4_112 rfl (by simp) rfl ?_
      exact ⟨rfl, newN x f n, newT x n t, newF x, Kp, E_o, F_o__linesEnded, F_o__afterCarriageReturn, F_o__lastTextLine, (by rw [show newN x f n + 1 = (n + 1) from by simp [newN, c3, c9, c28, c34, c40], show newT x n t = t from by simp [newT, c3, c9, c28, c34, c40]]; exact A_b), own_newF x⟩
    have t_c40 : ¬ ((x).toInt = (32 : Int)) := fun q => c40 (Int32.toInt_inj.mp q)
    refine s_iloadN 44 C X d4_43 rfl ?_
    refine s_bipush 46 C X d4_44 kc_bipush_9 ?_
    refine s_icmp_eq 53 49 C X d4_46 (fun c46 => ?_) (fun c46 => ?_)
    · have t_c46 : (x).toInt = (9 : Int) := congrArg Int32.toInt c46
      refine s_iconst 54 C X d4_53 kc_iconst_0 ?_
      refine s_istore 56 C X (l' := #[.val (.ref o), .val (.ref b), .val (.int y), .val (.int x), .val (.int (0 : Int32)), .val (.int (0 : Int32))]) d4_54 rfl ?_
      refine s_iload 58 C X d4_56 rfl ?_
      refine s_if_eq 67 61 C X d4_58 (fun _ => ?_) (fun c => absurd (by decide : (0 : Int32) = (0 : Int32)) c)
      refine s_iload 69 C X d4_67 rfl ?_
      refine s_if_eq 80 72 C X d4_69 (fun _ => ?_) (fun c => absurd (by decide : (0 : Int32) = (0 : Int32)) c)
      refine s_aloadN 81 C X d4_80 rfl rfl ?_
      refine s_iloadN 82 C X d4_81 rfl ?_
      refine s_callV 85 [(.int x)] [] 0 C X d4_82 (List.mem_of_getElem? (i := 17) rfl) (List.mem_of_getElem? (i := 18) rfl) (notFace_of_selects (args := #[]) (mvT C.2.1 (C.w (List.mem_of_getElem? (i := 20) rfl)))) (List.mem_of_getElem? (i := 20) rfl) (List.mem_of_getElem? (i := 19) rfl) (List.mem_of_getElem? (i := 6) rfl) (List.mem_of_getElem? (i := 21) rfl) E_o (rm_pass l Z a0 hw o x n t f _ n0 X.sz F_o__linesEnded F_o__afterCarriageReturn F_o__lastTextLine E_o g_o) (lenOf pd__I_V rfl) rfl rfl rfl (fun T v h6 X q => ?_)
      obtain ⟨rfl, Kc, _, F_o__linesEnded, F_o__afterCarriageReturn, F_o__lastTextLine⟩ := q
      have Kp := Kp.trans Kc (allS (Or.inl (by simp)) all0)
      have A_b := A_b.keep Kc (ninS (Ne.symm ne_o_b) nin0)
      have E_o := E_o.keep Kc
      refine Run.cast (st' := []) rfl ?_
      refine s_aloadN 86 C X d4_85 rfl rfl ?_
      refine s_callV 89 [] [] 0 C X d4_86 (List.mem_of_getElem? (i := 26) rfl) (List.mem_of_getElem? (i := 27) rfl) (notFace_of_selects (args := #[]) (mvT C.2.1 (C.w (List.mem_of_getElem? (i := 29) rfl)))) (List.mem_of_getElem? (i := 29) rfl) (List.mem_of_getElem? (i := 28) rfl) (List.mem_of_getElem? (i := 6) rfl) (List.mem_of_getElem? (i := 30) rfl) E_o (rm_getLine l Z a0 hw o (newN x f n) (newT x n t) (newF x) _ n0 X.sz F_o__linesEnded F_o__afterCarriageReturn F_o__lastTextLine) (lenOf pd___J rfl) rfl rfl rfl (fun T v h7 X q => ?_)
      obtain ⟨rfl, hE⟩ := q
      rw [hE] at X
      refine Run.cast (st' := [(.long ((newN x f n) + (1 : Int64)))]) rfl ?_
      refine s_aloadN 90 C X d4_89 rfl rfl ?_
      refine s_iconst 91 C X d4_90 kc_iconst_0 ?_
      refine s_laload 92 C X d4_91 A_b ⟨by decide, by decide⟩ (v := (.long (n + 1))) rfl ?_
      refine s_lcmp 93 C X d4_92 ?_
      have hz93 : (XT.cmpL ((newN x f n) + (1 : Int64)) (n + 1)) = 0 := own_cmp0 (by simp [newN, c3, c9, c28, c34, c40, c46])
      refine s_if_ne 111 96 C X d4_93 (fun c => absurd hz93 c) (fun c93 => ?_)
      have t_c93 : (((newN x f n) + (1 : Int64))).toInt = ((n + 1)).toInt := cl_eq.mp c93
      refine s_aloadN 97 C X d4_96 rfl rfl ?_
      refine s_callV 100 [] [] 0 C X d4_97 (List.mem_of_getElem? (i := 31) rfl) (List.mem_of_getElem? (i := 32) rfl) (notFace_of_selects (args := #[]) (mvT C.2.1 (C.w (List.mem_of_getElem? (i := 34) rfl)))) (List.mem_of_getElem? (i := 34) rfl) (List.mem_of_getElem? (i := 33) rfl) (List.mem_of_getElem? (i := 6) rfl) (List.mem_of_getElem? (i := 35) rfl) E_o (rm_getLastTextLine l Z a0 hw o (newN x f n) (newT x n t) (newF x) _ n0 X.sz F_o__linesEnded F_o__afterCarriageReturn F_o__lastTextLine) (lenOf pd___J rfl) rfl rfl rfl (fun T v h8 X q => ?_)
      obtain ⟨rfl, hE⟩ := q
      rw [hE] at X
      refine Run.cast (st' := [(.long (newT x n t))]) rfl ?_
      refine s_aloadN 101 C X d4_100 rfl rfl ?_
      refine s_iconst 102 C X d4_101 kc_iconst_1 ?_
      refine s_laload 103 C X d4_102 A_b ⟨by decide, by decide⟩ (v := (.long t)) rfl ?_
      refine s_lcmp 104 C X d4_103 ?_
      have hz104 : (XT.cmpL (newT x n t) t) = 0 := own_cmp0 (by simp [newT, c3, c9, c28, c34, c40, c46])
      refine s_if_ne 111 107 C X d4_104 (fun c => absurd hz104 c) (fun c104 => ?_)
      have t_c104 : ((newT x n t)).toInt = (t).toInt := cl_eq.mp c104
      refine s_iconst 108 C X d4_107 kc_iconst_1 ?_
      refine s_goto 112 C X d4_108 ?_
      refine s_nreturn C X d4_112 rfl (by simp) rfl ?_
      exact ⟨rfl, newN x f n, newT x n t, newF x, Kp, E_o, F_o__linesEnded, F_o__afterCarriageReturn, F_o__lastTextLine, (by rw [show newN x f n + 1 = (n + 1) from by simp [newN, c3, c9, c28, c34, c40, c46], show newT x n t = t from by simp [newT, c3, c9, c28, c34, c40, c46]]; exact A_b), own_newF x⟩
    have t_c46 : ¬ ((x).toInt = (9 : Int)) := fun q => c46 (Int32.toInt_inj.mp q)
    refine s_iconst 50 C X d4_49 kc_iconst_1 ?_
    refine s_goto 54 C X d4_50 ?_
    refine s_istore 56 C X (l' := #[.val (.ref o), .val (.ref b), .val (.int y), .val (.int x), .val (.int (0 : Int32)), .val (.int (1 : Int32))]) d4_54 rfl ?_
    refine s_iload 58 C X d4_56 rfl ?_
    refine s_if_eq 67 61 C X d4_58 (fun c => absurd c (by decide)) (fun _ => ?_)
    refine s_aloadN 62 C X d4_61 rfl rfl ?_
    refine s_iconst 63 C X d4_62 kc_iconst_1 ?_
    refine s_aloadN 64 C X d4_63 rfl rfl ?_
    refine s_iconst 65 C X d4_64 kc_iconst_0 ?_
    refine s_laload 66 C X d4_65 A_b ⟨by decide, by decide⟩ (v := (.long (n + 1))) rfl ?_
    refine s_lastore 67 1 C X d4_66 A_b g_b ⟨by decide, by decide⟩ rfl (Nat.le_of_ble_eq_true rfl) (fun T _ X W A_b => ?_)
    have A_b : Arv Z _ b k_b .long (2 : Int32) [(.long (n + 1)), (.long (n + 1))] (.long (0 : Int64)) := A_b
    have F_o__linesEnded := F_o__linesEnded.other W (Or.inl ne_o_b)
    have F_o__afterCarriageReturn := F_o__afterCarriageReturn.other W (Or.inl ne_o_b)
    have F_o__lastTextLine := F_o__lastTextLine.other W (Or.inl ne_o_b)
    have E_o := E_o.wr W
    have Kp := Kp.wr W (Or.inl (by simp))
    refine s_iload 69 C X d4_67 rfl ?_
    refine s_if_eq 80 72 C X d4_69 (fun _ => ?_) (fun c => absurd (by decide : (0 : Int32) = (0 : Int32)) c)
    refine s_aloadN 81 C X d4_80 rfl rfl ?_
    refine s_iloadN 82 C X d4_81 rfl ?_
    refine s_callV 85 [(.int x)] [] 0 C X d4_82 (List.mem_of_getElem? (i := 17) rfl) (List.mem_of_getElem? (i := 18) rfl) (notFace_of_selects (args := #[]) (mvT C.2.1 (C.w (List.mem_of_getElem? (i := 20) rfl)))) (List.mem_of_getElem? (i := 20) rfl) (List.mem_of_getElem? (i := 19) rfl) (List.mem_of_getElem? (i := 6) rfl) (List.mem_of_getElem? (i := 21) rfl) E_o (rm_pass l Z a0 hw o x n t f _ n0 X.sz F_o__linesEnded F_o__afterCarriageReturn F_o__lastTextLine E_o g_o) (lenOf pd__I_V rfl) rfl rfl rfl (fun T v h9 X q => ?_)
    obtain ⟨rfl, Kc, _, F_o__linesEnded, F_o__afterCarriageReturn, F_o__lastTextLine⟩ := q
    have Kp := Kp.trans Kc (allS (Or.inl (by simp)) all0)
    have A_b := A_b.keep Kc (ninS (Ne.symm ne_o_b) nin0)
    have E_o := E_o.keep Kc
    refine Run.cast (st' := []) rfl ?_
    refine s_aloadN 86 C X d4_85 rfl rfl ?_
    refine s_callV 89 [] [] 0 C X d4_86 (List.mem_of_getElem? (i := 26) rfl) (List.mem_of_getElem? (i := 27) rfl) (notFace_of_selects (args := #[]) (mvT C.2.1 (C.w (List.mem_of_getElem? (i := 29) rfl)))) (List.mem_of_getElem? (i := 29) rfl) (List.mem_of_getElem? (i := 28) rfl) (List.mem_of_getElem? (i := 6) rfl) (List.mem_of_getElem? (i := 30) rfl) E_o (rm_getLine l Z a0 hw o (newN x f n) (newT x n t) (newF x) _ n0 X.sz F_o__linesEnded F_o__afterCarriageReturn F_o__lastTextLine) (lenOf pd___J rfl) rfl rfl rfl (fun T v h10 X q => ?_)
    obtain ⟨rfl, hE⟩ := q
    rw [hE] at X
    refine Run.cast (st' := [(.long ((newN x f n) + (1 : Int64)))]) rfl ?_
    refine s_aloadN 90 C X d4_89 rfl rfl ?_
    refine s_iconst 91 C X d4_90 kc_iconst_0 ?_
    refine s_laload 92 C X d4_91 A_b ⟨by decide, by decide⟩ (v := (.long (n + 1))) rfl ?_
    refine s_lcmp 93 C X d4_92 ?_
    have hz93 : (XT.cmpL ((newN x f n) + (1 : Int64)) (n + 1)) = 0 := own_cmp0 (by simp [newN, c3, c9, c28, c34, c40, c46])
    refine s_if_ne 111 96 C X d4_93 (fun c => absurd hz93 c) (fun c93 => ?_)
    have t_c93 : (((newN x f n) + (1 : Int64))).toInt = ((n + 1)).toInt := cl_eq.mp c93
    refine s_aloadN 97 C X d4_96 rfl rfl ?_
    refine s_callV 100 [] [] 0 C X d4_97 (List.mem_of_getElem? (i := 31) rfl) (List.mem_of_getElem? (i := 32) rfl) (notFace_of_selects (args := #[]) (mvT C.2.1 (C.w (List.mem_of_getElem? (i := 34) rfl)))) (List.mem_of_getElem? (i := 34) rfl) (List.mem_of_getElem? (i := 33) rfl) (List.mem_of_getElem? (i := 6) rfl) (List.mem_of_getElem? (i := 35) rfl) E_o (rm_getLastTextLine l Z a0 hw o (newN x f n) (newT x n t) (newF x) _ n0 X.sz F_o__linesEnded F_o__afterCarriageReturn F_o__lastTextLine) (lenOf pd___J rfl) rfl rfl rfl (fun T v h11 X q => ?_)
    obtain ⟨rfl, hE⟩ := q
    rw [hE] at X
    refine Run.cast (st' := [(.long (newT x n t))]) rfl ?_
    refine s_aloadN 101 C X d4_100 rfl rfl ?_
    refine s_iconst 102 C X d4_101 kc_iconst_1 ?_
    refine s_laload 103 C X d4_102 A_b ⟨by decide, by decide⟩ (v := (.long (n + 1))) rfl ?_
    refine s_lcmp 104 C X d4_103 ?_
    have hz104 : (XT.cmpL (newT x n t) (n + 1)) = 0 := own_cmp0 (by simp [newT, c3, c9, c28, c34, c40, c46])
    refine s_if_ne 111 107 C X d4_104 (fun c => absurd hz104 c) (fun c104 => ?_)
    have t_c104 : ((newT x n t)).toInt = ((n + 1)).toInt := cl_eq.mp c104
    refine s_iconst 108 C X d4_107 kc_iconst_1 ?_
    refine s_goto 112 C X d4_108 ?_
    refine s_nreturn C X d4_112 rfl (by simp) rfl ?_
    exact ⟨rfl, newN x f n, newT x n t, newF x, Kp, E_o, F_o__linesEnded, F_o__afterCarriageReturn, F_o__lastTextLine, (by rw [show newN x f n + 1 = (n + 1) from by simp [newN, c3, c9, c28, c34, c40, c46], show newT x n t = (n + 1) from by simp [newT, c3, c9, c28, c34, c40, c46]]; exact A_b), own_newF x⟩
  have t_c9 : (x).toInt = (10 : Int) := congrArg Int32.toInt c9
  refine s_iloadN 13 C X d4_12 rfl ?_
  refine s_bipush 15 C X d4_13 kc_bipush_13 ?_
  refine s_icmp_eq 22 18 C X d4_15 (fun c15 => ?_) (fun c15 => ?_)
  · have t_c15 : (y).toInt = (13 : Int) := congrArg Int32.toInt c15
    refine s_iconst 23 C X d4_22 kc_iconst_0 ?_
    refine s_istore 25 C X (l' := #[.val (.ref o), .val (.ref b), .val (.int y), .val (.int x), .val (.int (0 : Int32)), .unset]) d4_23 rfl ?_
    refine s_iloadN 26 C X d4_25 rfl ?_
    refine s_bipush 28 C X d4_26 kc_bipush_13 ?_
    refine s_icmp_eq 53 31 C X d4_28 (fun c => absurd c c3) (fun c28 => ?_)
    have t_c28 : ¬ ((x).toInt = (13 : Int)) := fun q => c28 (Int32.toInt_inj.mp q)
    refine s_iloadN 32 C X d4_31 rfl ?_
    refine s_bipush 34 C X d4_32 kc_bipush_10 ?_
    refine s_icmp_eq 53 37 C X d4_34 (fun c34 => ?_) (fun c => absurd c9 c)
    have t_c34 : (x).toInt = (10 : Int) := congrArg Int32.toInt c34
    refine s_iconst 54 C X d4_53 kc_iconst_0 ?_
    refine s_istore 56 C X (l' := #[.val (.ref o), .val (.ref b), .val (.int y), .val (.int x), .val (.int (0 : Int32)), .val (.int (0 : Int32))]) d4_54 rfl ?_
    refine s_iload 58 C X d4_56 rfl ?_
    refine s_if_eq 67 61 C X d4_58 (fun _ => ?_) (fun c => absurd (by decide : (0 : Int32) = (0 : Int32)) c)
    refine s_iload 69 C X d4_67 rfl ?_
    refine s_if_eq 80 72 C X d4_69 (fun _ => ?_) (fun c => absurd (by decide : (0 : Int32) = (0 : Int32)) c)
    refine s_aloadN 81 C X d4_80 rfl rfl ?_
    refine s_iloadN 82 C X d4_81 rfl ?_
    refine s_callV 85 [(.int x)] [] 0 C X d4_82 (List.mem_of_getElem? (i := 17) rfl) (List.mem_of_getElem? (i := 18) rfl) (notFace_of_selects (args := #[]) (mvT C.2.1 (C.w (List.mem_of_getElem? (i := 20) rfl)))) (List.mem_of_getElem? (i := 20) rfl) (List.mem_of_getElem? (i := 19) rfl) (List.mem_of_getElem? (i := 6) rfl) (List.mem_of_getElem? (i := 21) rfl) E_o (rm_pass l Z a0 hw o x n t f _ n0 X.sz F_o__linesEnded F_o__afterCarriageReturn F_o__lastTextLine E_o g_o) (lenOf pd__I_V rfl) rfl rfl rfl (fun T v h12 X q => ?_)
    obtain ⟨rfl, Kc, _, F_o__linesEnded, F_o__afterCarriageReturn, F_o__lastTextLine⟩ := q
    have Kp := Kp.trans Kc (allS (Or.inl (by simp)) all0)
    have A_b := A_b.keep Kc (ninS (Ne.symm ne_o_b) nin0)
    have E_o := E_o.keep Kc
    refine Run.cast (st' := []) rfl ?_
    refine s_aloadN 86 C X d4_85 rfl rfl ?_
    refine s_callV 89 [] [] 0 C X d4_86 (List.mem_of_getElem? (i := 26) rfl) (List.mem_of_getElem? (i := 27) rfl) (notFace_of_selects (args := #[]) (mvT C.2.1 (C.w (List.mem_of_getElem? (i := 29) rfl)))) (List.mem_of_getElem? (i := 29) rfl) (List.mem_of_getElem? (i := 28) rfl) (List.mem_of_getElem? (i := 6) rfl) (List.mem_of_getElem? (i := 30) rfl) E_o (rm_getLine l Z a0 hw o (newN x f n) (newT x n t) (newF x) _ n0 X.sz F_o__linesEnded F_o__afterCarriageReturn F_o__lastTextLine) (lenOf pd___J rfl) rfl rfl rfl (fun T v h13 X q => ?_)
    obtain ⟨rfl, hE⟩ := q
    rw [hE] at X
    refine Run.cast (st' := [(.long ((newN x f n) + (1 : Int64)))]) rfl ?_
    refine s_aloadN 90 C X d4_89 rfl rfl ?_
    refine s_iconst 91 C X d4_90 kc_iconst_0 ?_
    refine s_laload 92 C X d4_91 A_b ⟨by decide, by decide⟩ (v := (.long (n + 1))) rfl ?_
    refine s_lcmp 93 C X d4_92 ?_
    have hf93 : f = 1 := hfy.elim (fun q => q.1) (fun q => absurd c15 q.2)
    have hz93 : (XT.cmpL ((newN x f n) + (1 : Int64)) (n + 1)) = 0 := own_cmp0 (by simp [newN, c3, c9, c15, c28, c34, hf93])
    refine s_if_ne 111 96 C X d4_93 (fun c => absurd hz93 c) (fun c93 => ?_)
    have t_c93 : (((newN x f n) + (1 : Int64))).toInt = ((n + 1)).toInt := cl_eq.mp c93
    refine s_aloadN 97 C X d4_96 rfl rfl ?_
    refine s_callV 100 [] [] 0 C X d4_97 (List.mem_of_getElem? (i := 31) rfl) (List.mem_of_getElem? (i := 32) rfl) (notFace_of_selects (args := #[]) (mvT C.2.1 (C.w (List.mem_of_getElem? (i := 34) rfl)))) (List.mem_of_getElem? (i := 34) rfl) (List.mem_of_getElem? (i := 33) rfl) (List.mem_of_getElem? (i := 6) rfl) (List.mem_of_getElem? (i := 35) rfl) E_o (rm_getLastTextLine l Z a0 hw o (newN x f n) (newT x n t) (newF x) _ n0 X.sz F_o__linesEnded F_o__afterCarriageReturn F_o__lastTextLine) (lenOf pd___J rfl) rfl rfl rfl (fun T v h14 X q => ?_)
    obtain ⟨rfl, hE⟩ := q
    rw [hE] at X
    refine Run.cast (st' := [(.long (newT x n t))]) rfl ?_
    refine s_aloadN 101 C X d4_100 rfl rfl ?_
    refine s_iconst 102 C X d4_101 kc_iconst_1 ?_
    refine s_laload 103 C X d4_102 A_b ⟨by decide, by decide⟩ (v := (.long t)) rfl ?_
    refine s_lcmp 104 C X d4_103 ?_
    have hf104 : f = 1 := hfy.elim (fun q => q.1) (fun q => absurd c15 q.2)
    have hz104 : (XT.cmpL (newT x n t) t) = 0 := own_cmp0 (by simp [newT, c3, c9, c15, c28, c34, hf104])
    refine s_if_ne 111 107 C X d4_104 (fun c => absurd hz104 c) (fun c104 => ?_)
    have t_c104 : ((newT x n t)).toInt = (t).toInt := cl_eq.mp c104
    refine s_iconst 108 C X d4_107 kc_iconst_1 ?_
    refine s_goto 112 C X d4_108 ?_
    refine s_nreturn C X d4_112 rfl (by simp) rfl ?_
    exact ⟨rfl, newN x f n, newT x n t, newF x, Kp, E_o, F_o__linesEnded, F_o__afterCarriageReturn, F_o__lastTextLine, (by rw [show newN x f n + 1 = (n + 1) from by simp [newN, c3, c9, c15, c28, c34, hf93], show newT x n t = t from by simp [newT, c3, c9, c15, c28, c34]]; exact A_b), own_newF x⟩
  have t_c15 : ¬ ((y).toInt = (13 : Int)) := fun q => c15 (Int32.toInt_inj.mp q)
  refine s_iconst 19 C X d4_18 kc_iconst_1 ?_
  refine s_goto 23 C X d4_19 ?_
  refine s_istore 25 C X (l' := #[.val (.ref o), .val (.ref b), .val (.int y), .val (.int x), .val (.int (1 : Int32)), .unset]) d4_23 rfl ?_
  refine s_iloadN 26 C X d4_25 rfl ?_
  refine s_bipush 28 C X d4_26 kc_bipush_13 ?_
  refine s_icmp_eq 53 31 C X d4_28 (fun c => absurd c c3) (fun c28 => ?_)
  have t_c28 : ¬ ((x).toInt = (13 : Int)) := fun q => c28 (Int32.toInt_inj.mp q)
  refine s_iloadN 32 C X d4_31 rfl ?_
  refine s_bipush 34 C X d4_32 kc_bipush_10 ?_
  refine s_icmp_eq 53 37 C X d4_34 (fun c34 => ?_) (fun c => absurd c9 c)
  have t_c34 : (x).toInt = (10 : Int) := congrArg Int32.toInt c34
  refine s_iconst 54 C X d4_53 kc_iconst_0 ?_
  refine s_istore 56 C X (l' := #[.val (.ref o), .val (.ref b), .val (.int y), .val (.int x), .val (.int (1 : Int32)), .val (.int (0 : Int32))]) d4_54 rfl ?_
  refine s_iload 58 C X d4_56 rfl ?_
  refine s_if_eq 67 61 C X d4_58 (fun _ => ?_) (fun c => absurd (by decide : (0 : Int32) = (0 : Int32)) c)
  refine s_iload 69 C X d4_67 rfl ?_
  refine s_if_eq 80 72 C X d4_69 (fun c => absurd c (by decide)) (fun _ => ?_)
  refine s_aloadN 73 C X d4_72 rfl rfl ?_
  refine s_iconst 74 C X d4_73 kc_iconst_0 ?_
  refine s_aloadN 75 C X d4_74 rfl rfl ?_
  refine s_iconst 76 C X d4_75 kc_iconst_0 ?_
  refine s_laload 77 C X d4_76 A_b ⟨by decide, by decide⟩ (v := (.long (n + 1))) rfl ?_
  refine s_lconst 78 C X (z := (1 : Int64)) d4_77 rfl ?_
  refine s_ladd 79 C X d4_78 ?_
  refine s_lastore 80 0 C X d4_79 A_b g_b ⟨by decide, by decide⟩ rfl (Nat.le_of_ble_eq_true rfl) (fun T _ X W A_b => ?_)
  have A_b : Arv Z _ b k_b .long (2 : Int32) [(.long ((n + 1) + (1 : Int64))), (.long t)] (.long (0 : Int64)) := A_b
  have F_o__linesEnded := F_o__linesEnded.other W (Or.inl ne_o_b)
  have F_o__afterCarriageReturn := F_o__afterCarriageReturn.other W (Or.inl ne_o_b)
  have F_o__lastTextLine := F_o__lastTextLine.other W (Or.inl ne_o_b)
  have E_o := E_o.wr W
  have Kp := Kp.wr W (Or.inl (by simp))
  refine s_aloadN 81 C X d4_80 rfl rfl ?_
  refine s_iloadN 82 C X d4_81 rfl ?_
  refine s_callV 85 [(.int x)] [] 0 C X d4_82 (List.mem_of_getElem? (i := 17) rfl) (List.mem_of_getElem? (i := 18) rfl) (notFace_of_selects (args := #[]) (mvT C.2.1 (C.w (List.mem_of_getElem? (i := 20) rfl)))) (List.mem_of_getElem? (i := 20) rfl) (List.mem_of_getElem? (i := 19) rfl) (List.mem_of_getElem? (i := 6) rfl) (List.mem_of_getElem? (i := 21) rfl) E_o (rm_pass l Z a0 hw o x n t f _ n0 X.sz F_o__linesEnded F_o__afterCarriageReturn F_o__lastTextLine E_o g_o) (lenOf pd__I_V rfl) rfl rfl rfl (fun T v h15 X q => ?_)
  obtain ⟨rfl, Kc, _, F_o__linesEnded, F_o__afterCarriageReturn, F_o__lastTextLine⟩ := q
  have Kp := Kp.trans Kc (allS (Or.inl (by simp)) all0)
  have A_b := A_b.keep Kc (ninS (Ne.symm ne_o_b) nin0)
  have E_o := E_o.keep Kc
  refine Run.cast (st' := []) rfl ?_
  refine s_aloadN 86 C X d4_85 rfl rfl ?_
  refine s_callV 89 [] [] 0 C X d4_86 (List.mem_of_getElem? (i := 26) rfl) (List.mem_of_getElem? (i := 27) rfl) (notFace_of_selects (args := #[]) (mvT C.2.1 (C.w (List.mem_of_getElem? (i := 29) rfl)))) (List.mem_of_getElem? (i := 29) rfl) (List.mem_of_getElem? (i := 28) rfl) (List.mem_of_getElem? (i := 6) rfl) (List.mem_of_getElem? (i := 30) rfl) E_o (rm_getLine l Z a0 hw o (newN x f n) (newT x n t) (newF x) _ n0 X.sz F_o__linesEnded F_o__afterCarriageReturn F_o__lastTextLine) (lenOf pd___J rfl) rfl rfl rfl (fun T v h16 X q => ?_)
  obtain ⟨rfl, hE⟩ := q
  rw [hE] at X
  refine Run.cast (st' := [(.long ((newN x f n) + (1 : Int64)))]) rfl ?_
  refine s_aloadN 90 C X d4_89 rfl rfl ?_
  refine s_iconst 91 C X d4_90 kc_iconst_0 ?_
  refine s_laload 92 C X d4_91 A_b ⟨by decide, by decide⟩ (v := (.long ((n + 1) + (1 : Int64)))) rfl ?_
  refine s_lcmp 93 C X d4_92 ?_
  have hf93 : f = 0 := hfy.elim (fun q => absurd q.2 c15) (fun q => q.1)
  have hz93 : (XT.cmpL ((newN x f n) + (1 : Int64)) ((n + 1) + (1 : Int64))) = 0 := own_cmp0 (by simp [newN, c3, c9, c15, c28, c34, hf93])
  refine s_if_ne 111 96 C X d4_93 (fun c => absurd hz93 c) (fun c93 => ?_)
  have t_c93 : (((newN x f n) + (1 : Int64))).toInt = (((n + 1) + (1 : Int64))).toInt := cl_eq.mp c93
  refine s_aloadN 97 C X d4_96 rfl rfl ?_
  refine s_callV 100 [] [] 0 C X d4_97 (List.mem_of_getElem? (i := 31) rfl) (List.mem_of_getElem? (i := 32) rfl) (notFace_of_selects (args := #[]) (mvT C.2.1 (C.w (List.mem_of_getElem? (i := 34) rfl)))) (List.mem_of_getElem? (i := 34) rfl) (List.mem_of_getElem? (i := 33) rfl) (List.mem_of_getElem? (i := 6) rfl) (List.mem_of_getElem? (i := 35) rfl) E_o (rm_getLastTextLine l Z a0 hw o (newN x f n) (newT x n t) (newF x) _ n0 X.sz F_o__linesEnded F_o__afterCarriageReturn F_o__lastTextLine) (lenOf pd___J rfl) rfl rfl rfl (fun T v h17 X q => ?_)
  obtain ⟨rfl, hE⟩ := q
  rw [hE] at X
  refine Run.cast (st' := [(.long (newT x n t))]) rfl ?_
  refine s_aloadN 101 C X d4_100 rfl rfl ?_
  refine s_iconst 102 C X d4_101 kc_iconst_1 ?_
  refine s_laload 103 C X d4_102 A_b ⟨by decide, by decide⟩ (v := (.long t)) rfl ?_
  refine s_lcmp 104 C X d4_103 ?_
  have hf104 : f = 0 := hfy.elim (fun q => absurd q.2 c15) (fun q => q.1)
  have hz104 : (XT.cmpL (newT x n t) t) = 0 := own_cmp0 (by simp [newT, c3, c9, c15, c28, c34, hf104])
  refine s_if_ne 111 107 C X d4_104 (fun c => absurd hz104 c) (fun c104 => ?_)
  have t_c104 : ((newT x n t)).toInt = (t).toInt := cl_eq.mp c104
  refine s_iconst 108 C X d4_107 kc_iconst_1 ?_
  refine s_goto 112 C X d4_108 ?_
  refine s_nreturn C X d4_112 rfl (by simp) rfl ?_
  exact ⟨rfl, newN x f n, newT x n t, newF x, Kp, E_o, F_o__linesEnded, F_o__afterCarriageReturn, F_o__lastTextLine, (by rw [show newN x f n + 1 = ((n + 1) + (1 : Int64)) from by simp [newN, c3, c9, c15, c28, c34, hf93], show newT x n t = t from by simp [newT, c3, c9, c15, c28, c34]]; exact A_b), own_newF x⟩
set_option maxRecDepth 65536 in
set_option maxHeartbeats 40000000 in
theorem rm0 (l : Launch) (Z : State) (a0 : Array Value) (hw : ∀ d ∈ tables_1, d.before a0 Z = true) (x0 x1 x2 : Int32) (h0 : Heap) (n0 : Nat) (Z0 : n0 ≤ h0.size)  :
    Met l Z x code maxLocals ret room_1 tables_1 #[(.int x0), (.int x1), (.int x2)] h0 n0 (fun v h => v = some (.int 1)) := by
  refine Met.mk (tabs := tables_1) (a0 := a0) (ls0 := #[.val (.int x0), .val (.int x1), .val (.int x2), .unset, .unset, .unset, .unset, .unset, .unset, .unset, .unset]) (plainFor_of_name pn_com_example_shapelint_shapelint_io_LineCounterPassPinLaw) hw Z0 (fun m => by first | (simp [entryFrame, mkF, argsToLocals, Value.category, maxLocals]; done) | rfl) ?_
  intro p e s m below meth c T C X
  refine s_iloadN 1 C X at_0 rfl ?_
  refine s_callS 4 [(.int x0)] [] 0 C X at_1 (List.mem_of_getElem? (i := 0) rfl) (List.mem_of_getElem? (i := 1) rfl) (List.mem_of_getElem? (i := 2) rfl) (List.mem_of_getElem? (i := 3) rfl) (rm_pick l Z a0 hw x0 _ n0 X.sz) (lenOf pd__I_I rfl) rfl rfl rfl (fun T v h0 X q => ?_)
  obtain ⟨zx0, rfl, hE⟩ := q
  rw [hE] at X
  refine Run.cast (st' := [(.int zx0)]) rfl ?_
  refine s_istoreN 5 C X (l' := #[.val (.int x0), .val (.int x1), .val (.int x2), .val (.int zx0), .unset, .unset, .unset, .unset, .unset, .unset, .unset]) at_4 rfl ?_
  refine s_iloadN 6 C X at_5 rfl ?_
  refine s_callS 9 [(.int x1)] [] 0 C X at_6 (List.mem_of_getElem? (i := 0) rfl) (List.mem_of_getElem? (i := 1) rfl) (List.mem_of_getElem? (i := 2) rfl) (List.mem_of_getElem? (i := 3) rfl) (rm_pick l Z a0 hw x1 _ n0 X.sz) (lenOf pd__I_I rfl) rfl rfl rfl (fun T v h1 X q => ?_)
  obtain ⟨zx1, rfl, hE⟩ := q
  rw [hE] at X
  refine Run.cast (st' := [(.int zx1)]) rfl ?_
  refine s_istore 11 C X (l' := #[.val (.int x0), .val (.int x1), .val (.int x2), .val (.int zx0), .val (.int zx1), .unset, .unset, .unset, .unset, .unset, .unset]) at_9 rfl ?_
  refine s_iloadN 12 C X at_11 rfl ?_
  refine s_callS 15 [(.int x2)] [] 0 C X at_12 (List.mem_of_getElem? (i := 0) rfl) (List.mem_of_getElem? (i := 1) rfl) (List.mem_of_getElem? (i := 2) rfl) (List.mem_of_getElem? (i := 3) rfl) (rm_pick l Z a0 hw x2 _ n0 X.sz) (lenOf pd__I_I rfl) rfl rfl rfl (fun T v h2 X q => ?_)
  obtain ⟨zx2, rfl, hE⟩ := q
  rw [hE] at X
  refine Run.cast (st' := [(.int zx2)]) rfl ?_
  refine s_istore 17 C X (l' := #[.val (.int x0), .val (.int x1), .val (.int x2), .val (.int zx0), .val (.int zx1), .val (.int zx2), .unset, .unset, .unset, .unset, .unset]) at_15 rfl ?_
  refine s_new 20 C X at_17 (List.mem_of_getElem? (i := 4) rfl) (List.mem_of_getElem? (i := 5) rfl) (List.mem_of_getElem? (i := 6) rfl) (fun T _ o4 hb_o4 X E E_o4 D g_o4 => ?_)
  have F_o4__linesEnded : Fld Z _ o4 "com/example/shapelint/shapelint/io/LineCounter" "_linesEnded" "J" (.long (0 : Int64)) := D (Or.inl (hw _ (List.mem_of_getElem? (i := 23) rfl))) (ty := .long) (by decide)
  have F_o4__afterCarriageReturn : Fld Z _ o4 "com/example/shapelint/shapelint/io/LineCounter" "_afterCarriageReturn" "Z" (.int (0 : Int32)) := D (Or.inl (hw _ (List.mem_of_getElem? (i := 25) rfl))) (ty := .boolean) (by decide)
  have F_o4__lastTextLine : Fld Z _ o4 "com/example/shapelint/shapelint/io/LineCounter" "_lastTextLine" "J" (.long (0 : Int64)) := D (Or.inl (hw _ (List.mem_of_getElem? (i := 37) rfl))) (ty := .long) (by decide)
  refine s_dup 21 C X at_20 rfl ?_
  refine s_callC 24 [] [(.ref o4)] 1 C X at_21 rfl (List.mem_of_getElem? (i := 7) rfl) (List.mem_of_getElem? (i := 8) rfl) (List.mem_of_getElem? (i := 6) rfl) (List.mem_of_getElem? (i := 9) rfl) (rm_init l Z a0 hw o4 _ n0 X.sz) (lenOf pd___V rfl) rfl rfl rfl (fun T v h4 X q => ?_)
  obtain ⟨rfl, hE⟩ := q
  rw [hE] at X
  refine Run.cast (st' := [(.ref o4)]) rfl ?_
  refine s_astore 26 C X (l' := #[.val (.int x0), .val (.int x1), .val (.int x2), .val (.int zx0), .val (.int zx1), .val (.int zx2), .val (.ref o4), .unset, .unset, .unset, .unset]) at_24 rfl rfl ?_
  refine s_iconst 27 C X at_26 kc_iconst_2 ?_
  refine s_newarray 29 2 C X at_27 (List.mem_of_getElem? (i := 13) rfl) (by decide) (by decide) (fun T _ o6 k_o6 hb_o6 X E A_o6 g_o6 => ?_)
  have ne_o4_o6 : o4 ≠ o6 := Nat.ne_of_lt (Nat.lt_of_lt_of_le E_o4.lt (Nat.le_of_eq hb_o6))
  have E_o4 := E_o4.ext E
  have F_o4__linesEnded := F_o4__linesEnded.ext E
  have F_o4__afterCarriageReturn := F_o4__afterCarriageReturn.ext E
  have F_o4__lastTextLine := F_o4__lastTextLine.ext E
  have A_o6 : Arv Z _ o6 k_o6 .long (2 : Int32) [(.long (0 : Int64)), (.long (0 : Int64))] (.long (0 : Int64)) := A_o6.pad (pad_rep [] _ 2)
  refine s_dup 30 C X at_29 rfl ?_
  refine s_iconst 31 C X at_30 kc_iconst_0 ?_
  refine s_lconst 32 C X (z := (1 : Int64)) at_31 rfl ?_
  refine s_lastore 33 0 C X at_32 A_o6 g_o6 ⟨by decide, by decide⟩ rfl (Nat.le_of_ble_eq_true rfl) (fun T _ X W A_o6 => ?_)
  have A_o6 : Arv Z _ o6 k_o6 .long (2 : Int32) [(.long (1 : Int64)), (.long (0 : Int64))] (.long (0 : Int64)) := A_o6
  have E_o4 := E_o4.wr W
  have F_o4__linesEnded := F_o4__linesEnded.other W (Or.inl ne_o4_o6)
  have F_o4__afterCarriageReturn := F_o4__afterCarriageReturn.other W (Or.inl ne_o4_o6)
  have F_o4__lastTextLine := F_o4__lastTextLine.other W (Or.inl ne_o4_o6)
  refine s_dup 34 C X at_33 rfl ?_
  refine s_iconst 35 C X at_34 kc_iconst_1 ?_
  refine s_lconst 36 C X (z := (0 : Int64)) at_35 rfl ?_
  refine s_lastore 37 1 C X at_36 A_o6 g_o6 ⟨by decide, by decide⟩ rfl (Nat.le_of_ble_eq_true rfl) (fun T _ X W A_o6 => ?_)
  have A_o6 : Arv Z _ o6 k_o6 .long (2 : Int32) [(.long (1 : Int64)), (.long (0 : Int64))] (.long (0 : Int64)) := A_o6
  have E_o4 := E_o4.wr W
  have F_o4__linesEnded := F_o4__linesEnded.other W (Or.inl ne_o4_o6)
  have F_o4__afterCarriageReturn := F_o4__afterCarriageReturn.other W (Or.inl ne_o4_o6)
  have F_o4__lastTextLine := F_o4__lastTextLine.other W (Or.inl ne_o4_o6)
  refine s_astore 39 C X (l' := #[.val (.int x0), .val (.int x1), .val (.int x2), .val (.int zx0), .val (.int zx1), .val (.int zx2), .val (.ref o4), .val (.ref o6), .unset, .unset, .unset]) at_37 rfl rfl ?_
  refine s_aload 41 C X at_39 rfl rfl ?_
  refine s_aload 43 C X at_41 rfl rfl ?_
  refine s_iconst 44 C X at_43 kc_iconst_m1 ?_
  refine s_iloadN 45 C X at_44 rfl ?_
  have A_o6 : Arv Z _ o6 k_o6 .long 2 [(.long ((0 : Int64) + 1)), (.long 0)] (.long 0) := A_o6
  refine s_callS 48 [(.ref o4), (.ref o6), (.int (-1 : Int32)), (.int zx0)] [] 0 C X at_45 (List.mem_of_getElem? (i := 14) rfl) (List.mem_of_getElem? (i := 15) rfl) (List.mem_of_getElem? (i := 2) rfl) (List.mem_of_getElem? (i := 16) rfl) (rm_step l Z a0 hw o4 o6 (-1 : Int32) zx0 (0 : Int64) (0 : Int64) (0 : Int32) k_o6 _ n0 X.sz F_o4__linesEnded F_o4__afterCarriageReturn F_o4__lastTextLine E_o4 A_o6 g_o4 g_o6 ne_o4_o6 (Or.inr ⟨rfl, by decide⟩)) (lenOf pd__Lcom_example_shapelint_shapelint_io_LineCounter__JII_Z rfl) rfl rfl rfl (fun T v h6 X q => ?_)
  obtain ⟨rfl, n1, t1, f1, _, E_o4, F_o4__linesEnded, F_o4__afterCarriageReturn, F_o4__lastTextLine, A_o6, hfy⟩ := q
  refine Run.cast (st' := [(.int (1 : Int32))]) rfl ?_
  refine s_istore 50 C X (l' := #[.val (.int x0), .val (.int x1), .val (.int x2), .val (.int zx0), .val (.int zx1), .val (.int zx2), .val (.ref o4), .val (.ref o6), .val (.int (1 : Int32)), .unset, .unset]) at_48 rfl ?_
  refine s_aload 52 C X at_50 rfl rfl ?_
  refine s_aload 54 C X at_52 rfl rfl ?_
  refine s_iloadN 55 C X at_54 rfl ?_
  refine s_iload 57 C X at_55 rfl ?_
  refine s_callS 60 [(.ref o4), (.ref o6), (.int zx0), (.int zx1)] [] 0 C X at_57 (List.mem_of_getElem? (i := 14) rfl) (List.mem_of_getElem? (i := 15) rfl) (List.mem_of_getElem? (i := 2) rfl) (List.mem_of_getElem? (i := 16) rfl) (rm_step l Z a0 hw o4 o6 zx0 zx1 n1 t1 f1 k_o6 _ n0 X.sz F_o4__linesEnded F_o4__afterCarriageReturn F_o4__lastTextLine E_o4 A_o6 g_o4 g_o6 ne_o4_o6 hfy) (lenOf pd__Lcom_example_shapelint_shapelint_io_LineCounter__JII_Z rfl) rfl rfl rfl (fun T v h7 X q => ?_)
  obtain ⟨rfl, n2, t2, f2, _, E_o4, F_o4__linesEnded, F_o4__afterCarriageReturn, F_o4__lastTextLine, A_o6, hfy⟩ := q
  refine Run.cast (st' := [(.int (1 : Int32))]) rfl ?_
  refine s_istore 62 C X (l' := #[.val (.int x0), .val (.int x1), .val (.int x2), .val (.int zx0), .val (.int zx1), .val (.int zx2), .val (.ref o4), .val (.ref o6), .val (.int (1 : Int32)), .val (.int (1 : Int32)), .unset]) at_60 rfl ?_
  refine s_aload 64 C X at_62 rfl rfl ?_
  refine s_aload 66 C X at_64 rfl rfl ?_
  refine s_iload 68 C X at_66 rfl ?_
  refine s_iload 70 C X at_68 rfl ?_
  refine s_callS 73 [(.ref o4), (.ref o6), (.int zx1), (.int zx2)] [] 0 C X at_70 (List.mem_of_getElem? (i := 14) rfl) (List.mem_of_getElem? (i := 15) rfl) (List.mem_of_getElem? (i := 2) rfl) (List.mem_of_getElem? (i := 16) rfl) (rm_step l Z a0 hw o4 o6 zx1 zx2 n2 t2 f2 k_o6 _ n0 X.sz F_o4__linesEnded F_o4__afterCarriageReturn F_o4__lastTextLine E_o4 A_o6 g_o4 g_o6 ne_o4_o6 hfy) (lenOf pd__Lcom_example_shapelint_shapelint_io_LineCounter__JII_Z rfl) rfl rfl rfl (fun T v h8 X q => ?_)
  obtain ⟨rfl, n3, t3, f3, _, E_o4, F_o4__linesEnded, F_o4__afterCarriageReturn, F_o4__lastTextLine, A_o6, hfy⟩ := q
  refine Run.cast (st' := [(.int (1 : Int32))]) rfl ?_
  refine s_istore 75 C X (l' := #[.val (.int x0), .val (.int x1), .val (.int x2), .val (.int zx0), .val (.int zx1), .val (.int zx2), .val (.ref o4), .val (.ref o6), .val (.int (1 : Int32)), .val (.int (1 : Int32)), .val (.int (1 : Int32))]) at_73 rfl ?_
  refine s_iload 77 C X at_75 rfl ?_
  refine s_if_eq 94 80 C X at_77 (fun c => absurd c (by decide)) (fun _ => ?_)
  refine s_iload 82 C X at_80 rfl ?_
  refine s_if_eq 94 85 C X at_82 (fun c => absurd c (by decide)) (fun _ => ?_)
  refine s_iload 87 C X at_85 rfl ?_
  refine s_if_eq 94 90 C X at_87 (fun c => absurd c (by decide)) (fun _ => ?_)
  refine s_iconst 91 C X at_90 kc_iconst_1 ?_
  refine s_goto 95 C X at_91 ?_
  refine s_nreturn C X at_95 rfl (by simp) rfl ?_
  rfl
set_option maxRecDepth 65536 in
set_option maxHeartbeats 40000000 in
theorem comes_1 {Post : Tables → Env → Array Value → State → Outcome → State → Prop} (hpost : ∀ tb e args s v u, (limb_1_1.after args s (.returned v) u = true ∧ limb_1_2.after args s (.returned v) u = true ∧ True) → FrameEnd s (.returned v) u (Jvm.fieldLocs frame_1_writes args s ++ Jvm.arrayLocs frame_1_arrays args s ++ Jvm.staticLocs frame_1_statics s) 16 128 → Post tb e args s (.returned v) u) :
    ArmFor flags0 classFile x code maxLocals ret World_1 tables_1 room_1 Calls_1 rest_1 Pre_1 Post := by
  intro l hfl _ _ p e ha hc hk s m args below hf hA hF happ hP
  obtain ⟨hcalls, hrest, hpre⟩ := hP
  obtain ⟨-, -, -, hnamed, -, -, -, hat⟩ := (Spec.applies_iff hf).mp happ
  obtain ⟨hg, hn⟩ := and_e (Cond.before_iff.mp (show (Jvm.Cond.and given_1 narrow_1).before args s = true from hpre))
  obtain ⟨g0, g1⟩ := and_e hg
  obtain ⟨ga0, gr0⟩ := and_e g1
  obtain ⟨ga1, gr1⟩ := and_e gr0
  obtain ⟨w0, w1, w2, rfl⟩ : ∃ w0 w1 w2 : Value, args = #[w0, w1, w2] := by
    have hs : args.size = 3 := by simpa [Cond.value, given_1] using g0
    obtain ⟨L⟩ := args
    match L, hs with
    | [w0, w1, w2], _ => exact ⟨w0, w1, w2, rfl⟩
  have hw := fun d (hd : d ∈ tables_1) => atoms_spec (ws := Jvm.Cond.code x code maxLocals ret :: tables_1) hat d (List.mem_cons_of_mem _ hd)
  have hfit : Fit s := fun {y c} hc i hi => by
    obtain ⟨ha, rfl⟩ := Array.getElem?_eq_some_iff.mp hc
    have q := List.all_eq_true.mp ((Array.all_eq_true_iff_forall_mem.mp hF) _ (Array.getElem_mem ha)) i (List.mem_range.mpr hi)
    simpa [Array.getElem?_eq_getElem hi] using q
  obtain ⟨i0, e0⟩ := is_v ga0
  obtain rfl : w0 = (.int i0) := Option.some.inj e0
  obtain ⟨i1, e1⟩ := is_v ga1
  obtain rfl : w1 = (.int i1) := Option.some.inj e1
  obtain ⟨i2, e2⟩ := is_v gr1
  obtain rfl : w2 = (.int i2) := Option.some.inj e2
  obtain ⟨n, o, h1, h2, h3, _, L, rfl, ⟨rfl, N⟩, hq⟩ := rm0 l s _ hw i0 i1 i2  s.heap s.heap.size (Nat.le_refl _)  p e ha hc hk s m _ below hf ((Spec.applies_iff_loose hf).mp happ).1 ⟨rfl, State.Warmed39.refl s, rfl⟩ trivial
  exact ⟨n, _, h1, h2, h3, hpost _ _ _ _ _ _ ⟨Cond.after_iff.mpr rfl, Cond.after_iff.mpr (eq_i res_at (Term.int_eval (1)) rfl), trivial⟩ ⟨hq.1, hq.2.1, (hq.2.2.sift fun y hy => Or.inr (N y hy)).mono (by decide) (by decide)⟩⟩
theorem main_1_1 : Claimed_1_1 := comes_1 fun _ _ _ _ _ _ h hF => ⟨h.1, hF⟩
theorem main_1_2 : Claimed_1_2 := comes_1 fun _ _ _ _ _ _ h hF => ⟨h.2.1, hF⟩
end Jvm.Pilot.@@N@@
namespace Jvm.Pilot.@@N@@
open Jvm Jvm.ClassFile Sem Op Lib Jvm.Free Jvm.Stand Jvm.Pilot.@@N@@.Jvm.D
/-! MADE BY PROGRAM (witnessworld.py) out of the Statement's table words and the real class files: 11 classes; the members and pool entries that the words name. The judged class is class 1, her method 3. -/
namespace start1
open Jvm.ClassFile
def u (s : String) : CpInfo := .utf8 (stringToUtf16 s)
/-- a pool by its gaps: so many unusable entries, then the entry; so many at the end -/
def gap : Nat → List CpInfo → List CpInfo
  | 0, r => r
  | n + 1, r => .unusable :: gap n r
def poolList (es : List (Nat × CpInfo)) (last : Nat) : List CpInfo := es.foldr (fun e r => gap e.1 (e.2 :: r)) (gap last [])
def pool (es : List (Nat × CpInfo)) (last : Nat) : Array CpInfo := ⟨poolList es last⟩
def fileOf (pool : Array CpInfo) (this : Nat) (attrs : Array Attribute := #[]) (ms : Array MethodInfo := #[]) (fl : Nat := 33) (sup : Nat := 0) (ifs : Array Nat := #[]) (fds : Array FieldInfo := #[]) : ClassFile where
  minorVersion := 0
  majorVersion := 65
  constantPool := pool
  accessFlags := fl
  thisClass := this
  superClass := sup
  interfaces := ifs
  fields := fds
  methods := ms
  attributes := attrs
def plain (name : String) (sup : Option ClassId) : Class where
  name := name
  kind := .ordinary
  loader := none
  accessFlags := 33
  super := sup
  interfaces := #[]
  cf := none
  fields := #[]
  methods := #[]
  instanceTypes := #[]
  staticTypes := #[]
  resolved := #[]
  callSites := []
  init := .initialized
  statics := none
  mirror := none

def pool0 : Array CpInfo := pool [(5, u "<init>"), (0, u "()V"), (1, .class_ 10), (1, u "java/lang/Object")] 113

def k0c0 : Code := { maxStack := 0, maxLocals := 1, code := object_method_1_code, exceptionTable := #[], attributes := #[] }
def k0m0 : Method := { name := "<init>", desc := "()V", sig := { parameters := [], returnType := none }, accessFlags := 1, code := some k0c0 }
/-- java/lang/Object -/
def k0 : Class := { plain "java/lang/Object" none with
  accessFlags := 33
  interfaces := #[]
  cf := some (fileOf pool0 8 #[] #[{ accessFlags := 1, nameIndex := 5, descriptorIndex := 6, attributes := #[] }] 33 0 #[] #[])
  fields := #[]
  methods := #[k0m0]
  instanceTypes := #[]
  staticTypes := #[]
  resolved := Array.replicate 124 none
  statics := none }

def pool1 : Array CpInfo := pool [(2, .class_ 4), (0, .nameAndType 5 6), (0, u "java/lang/Object"), (0, u "<init>"), (0, u "()V"), (0, .methodref 8 9), (0, .class_ 10), (0, .nameAndType 11 12), (0, u "com/example/shapelint/shapelint/io/LineCounter"), (0, u "pass"), (0, u "(I)V"), (0, .methodref 8 14), (0, .nameAndType 15 16), (0, u "getLine"), (0, u "()J"), (0, .methodref 8 18), (0, .nameAndType 19 16), (0, u "getLastTextLine"), (0, .methodref 21 22), (0, .class_ 23), (0, .nameAndType 24 25), (0, u "com/example/shapelint/shapelint/io/LineCounterPassPinLaw"), (0, u "pick"), (0, u "(I)I"), (0, .methodref 8 3), (0, .methodref 21 28), (0, .nameAndType 29 30), (0, u "step"), (0, u "(Lcom/example/shapelint/shapelint/io/LineCounter;[JII)Z"), (3, u "law"), (0, u "(III)Z")] 4

def k1m0 : Method := { name := "<init>", desc := "()V", sig := { parameters := [], returnType := none }, accessFlags := 1, code := none }
def k1c1 : Code := { maxStack := 2, maxLocals := 2, code := method_2_code, exceptionTable := #[], attributes := #[] }
def k1m1 : Method := { name := "pick", desc := "(I)I", sig := { parameters := [.int], returnType := some .int }, accessFlags := 10, code := some k1c1 }
def k1c2 : Code := { maxStack := 6, maxLocals := 6, code := method_3_code, exceptionTable := #[], attributes := #[] }
def k1m2 : Method := { name := "step", desc := "(Lcom/example/shapelint/shapelint/io/LineCounter;[JII)Z", sig := { parameters := [(.object "com/example/shapelint/shapelint/io/LineCounter"), (.array .long), .int, .int], returnType := some .boolean }, accessFlags := 10, code := some k1c2 }
def k1c3 : Code := { maxStack := 5, maxLocals := 11, code := code, exceptionTable := #[], attributes := #[] }
def k1m3 : Method := { name := "law", desc := "(III)Z", sig := { parameters := [.int, .int, .int], returnType := some .boolean }, accessFlags := 9, code := some k1c3 }
/-- com/example/shapelint/shapelint/io/LineCounterPassPinLaw -/
def k1 : Class := { plain "com/example/shapelint/shapelint/io/LineCounterPassPinLaw" (some 0) with
  accessFlags := 49
  interfaces := #[]
  cf := some (fileOf pool1 21 #[] #[{ accessFlags := 1, nameIndex := 5, descriptorIndex := 6, attributes := #[] }, { accessFlags := 10, nameIndex := 24, descriptorIndex := 25, attributes := #[] }, { accessFlags := 10, nameIndex := 29, descriptorIndex := 30, attributes := #[] }, { accessFlags := 9, nameIndex := 34, descriptorIndex := 35, attributes := #[] }] 49 2 #[] #[])
  fields := #[]
  methods := #[k1m0, k1m1, k1m2, k1m3]
  instanceTypes := #[]
  staticTypes := #[]
  resolved := Array.replicate 40 none
  statics := none }

def pool2 : Array CpInfo := pool [(1, .methodref 2 3), (0, .class_ 4), (0, .nameAndType 5 6), (0, u "java/lang/Object"), (0, u "<init>"), (0, u "()V"), (0, .fieldref 8 9), (0, .class_ 10), (0, .nameAndType 11 12), (0, u "com/example/shapelint/shapelint/io/LineCounter"), (0, u "_linesEnded"), (0, u "J"), (0, .fieldref 8 14), (0, .nameAndType 15 12), (0, u "_lastTextLine"), (0, .fieldref 8 17), (0, .nameAndType 18 19), (0, u "_afterCarriageReturn"), (0, u "Z"), (2, u "getLine"), (0, u "()J"), (0, u "getLastTextLine"), (0, u "pass"), (0, u "(I)V")] 3

def k2c0 : Code := { maxStack := 1, maxLocals := 1, code := prog_9_method_1_code, exceptionTable := #[], attributes := #[] }
def k2m0 : Method := { name := "<init>", desc := "()V", sig := { parameters := [], returnType := none }, accessFlags := 0, code := some k2c0 }
def k2c1 : Code := { maxStack := 4, maxLocals := 1, code := prog_9_method_2_code, exceptionTable := #[], attributes := #[] }
def k2m1 : Method := { name := "getLine", desc := "()J", sig := { parameters := [], returnType := some .long }, accessFlags := 0, code := some k2c1 }
def k2c2 : Code := { maxStack := 2, maxLocals := 1, code := prog_9_method_3_code, exceptionTable := #[], attributes := #[] }
def k2m2 : Method := { name := "getLastTextLine", desc := "()J", sig := { parameters := [], returnType := some .long }, accessFlags := 0, code := some k2c2 }
def k2c3 : Code := { maxStack := 5, maxLocals := 2, code := prog_9_method_4_code, exceptionTable := #[], attributes := #[] }
def k2m3 : Method := { name := "pass", desc := "(I)V", sig := { parameters := [.int], returnType := none }, accessFlags := 0, code := some k2c3 }
/-- com/example/shapelint/shapelint/io/LineCounter -/
def k2 : Class := { plain "com/example/shapelint/shapelint/io/LineCounter" (some 0) with
  accessFlags := 48
  interfaces := #[]
  cf := some (fileOf pool2 8 #[] #[{ accessFlags := 0, nameIndex := 5, descriptorIndex := 6, attributes := #[] }, { accessFlags := 0, nameIndex := 22, descriptorIndex := 23, attributes := #[] }, { accessFlags := 0, nameIndex := 24, descriptorIndex := 23, attributes := #[] }, { accessFlags := 0, nameIndex := 25, descriptorIndex := 26, attributes := #[] }] 48 2 #[] #[{ accessFlags := 2, nameIndex := 11, descriptorIndex := 12, attributes := #[] }, { accessFlags := 2, nameIndex := 18, descriptorIndex := 19, attributes := #[] }, { accessFlags := 2, nameIndex := 15, descriptorIndex := 12, attributes := #[] }])
  fields := #[{ name := "_linesEnded", type := .long, accessFlags := 2, slot := 0, constantValue := 0 }, { name := "_afterCarriageReturn", type := .boolean, accessFlags := 2, slot := 1, constantValue := 0 }, { name := "_lastTextLine", type := .long, accessFlags := 2, slot := 2, constantValue := 0 }]
  methods := #[k2m0, k2m1, k2m2, k2m3]
  instanceTypes := #[.long, .boolean, .long]
  staticTypes := #[]
  resolved := Array.replicate 30 none
  statics := none }

def pool3 : Array CpInfo := pool [(1, u "java/lang/Cloneable"), (0, .class_ 1), (0, u "java/lang/Object"), (0, .class_ 3)] 3

/-- java/lang/Cloneable -/
def k3 : Class := { plain "java/lang/Cloneable" (some 0) with
  accessFlags := 1537
  interfaces := #[]
  cf := some (fileOf pool3 2 #[] #[] 1537 4 #[] #[])
  fields := #[]
  methods := #[]
  instanceTypes := #[]
  staticTypes := #[]
  resolved := Array.replicate 8 none
  statics := none }

def pool4 : Array CpInfo := pool [(1, u "java/io/Serializable"), (0, .class_ 1), (0, u "java/lang/Object"), (0, .class_ 3)] 3

/-- java/io/Serializable -/
def k4 : Class := { plain "java/io/Serializable" (some 0) with
  accessFlags := 1537
  interfaces := #[]
  cf := some (fileOf pool4 2 #[] #[] 1537 4 #[] #[])
  fields := #[]
  methods := #[]
  instanceTypes := #[]
  staticTypes := #[]
  resolved := Array.replicate 8 none
  statics := none }

/-- the primitive byte -/
def k5 : Class := { plain "byte" none with kind := .primitive 'B', accessFlags := 0x411 }
/-- [B -/
def k6 : Class := { plain "[B" (some 0) with kind := .array 5 .byte, interfaces := #[3, 4], accessFlags := 1041 }

/-- the primitive int -/
def k7 : Class := { plain "int" none with kind := .primitive 'I', accessFlags := 0x411 }
/-- [I -/
def k8 : Class := { plain "[I" (some 0) with kind := .array 7 .int, interfaces := #[3, 4], accessFlags := 1041 }

/-- the primitive long -/
def k9 : Class := { plain "long" none with kind := .primitive 'J', accessFlags := 0x411 }
/-- [J -/
def k10 : Class := { plain "[J" (some 0) with kind := .array 9 .long, interfaces := #[3, 4], accessFlags := 1041 }

def heap : Heap := #[]
def classes : Array Class := #[k0, k1, k2, k3, k4, k5, k6, k7, k8, k9, k10]
def interned : List (Array UInt16 × Addr) := []
def slotsUsed : Nat := 0
def theMethod : MethodId := ⟨1, 3⟩
def args0 : Array Value := #[.int 5, .int 6, .int 7]
def aboutOver (below : List Frame) : State where
  vm := { classes := classes, interned := interned.toArray }
  heap := heap
  slotsUsed := slotsUsed
  threads := #[{ frames := .invoking theMethod args0 :: below }]
def below0 : List Frame := [.native { method := ⟨0, 0⟩, args := #[] }]
def about1 : State := aboutOver below0
def p0 : Program := .bare "" "" ""
def e0 : Env := launch0.env 0 0 0
theorem w_frames : about1.frames = Frame.invoking theMethod args0 :: below0 := rfl
set_option maxRecDepth 65536 in
theorem w_args : argsFit about1.vm theMethod args0 = true := by decide +kernel
set_option maxRecDepth 65536 in
theorem w_heap : heapFits about1 = true := by decide +kernel
set_option maxRecDepth 65536 in
theorem w_runnable : about1.curStatus? = some .runnable := by decide +kernel
set_option maxRecDepth 65536 in
theorem w_alone : about1.alone = true := by decide +kernel
set_option maxRecDepth 65536 in
theorem w_named : about1.methodNamed? x = some theMethod := by decide +kernel
set_option maxRecDepth 65536 in
theorem w_hears : about1.hears theMethod below0 = true := by decide +kernel
set_option maxRecDepth 65536 in
theorem w_ripe : about1.ripe theMethod args0 below0 = true := by decide +kernel
theorem w_running : about1.status = .running := rfl
set_option maxRecDepth 65536 in
theorem w_room : about1.hasRoom e0.platform room_1 = true :=
  launch0.hasRoom_least _ room_1 (by decide +kernel) (by decide +kernel) (by decide +kernel) (by decide +kernel) (by decide +kernel) (by decide +kernel)
theorem allAtoms_all (ts : List Jvm.Cond) (a : Array Jvm.Value) (st : Jvm.State) : (allAtoms ts).before a st = ts.all (fun c => c.before a st) := by
  induction ts with
  | nil => rfl
  | cons c t ih =>
    show (Jvm.Cond.and c (allAtoms t)).before a st = _
    rw [Jvm.Cond.before_and, ih, List.all_cons]
def words1 : List Jvm.Cond := Jvm.Cond.code x code maxLocals ret :: tables_1
/-- a 'code' word, met by the world's own term for the bytes: nothing is compared byte by byte -/
theorem code_word {y : MethodName} {bytes : ByteArray} {mx : Nat} {rt : Option FieldType} {a : Array Value} {s : State} {m : MethodId} {meth : Method} {c : Code} (h1 : s.methodNamed? y = some m) (h2 : s.vm.method? m = some meth) (h3 : meth.code = some c) (h4 : c.code = bytes)
    (h5 : (c.maxLocals == mx && c.exceptionTable.isEmpty && decide (c.maxStack ≤ mostOperands) && decide (meth.sig.returnType = rt) && !meth.locks && decide (parseMethodDescriptor y.desc = some meth.sig)) = true) : (Jvm.Cond.code y bytes mx rt).before a s = true := by
  simp only [Bool.and_eq_true, beq_iff_eq, Bool.not_eq_true', decide_eq_true_eq] at h5
  obtain ⟨⟨⟨⟨⟨g1, g2⟩, g3⟩, g4⟩, g5⟩, g6⟩ := h5
  simp [Cond.before, Cond.holds, Cond.value, h1, h2, h3, h4, g1, g2, g3, g4, g5, g6]
def isCode : Jvm.Cond → Bool
  | .code _ _ _ _ => true
  | _ => false
theorem all_split {L : List Jvm.Cond} {P : Jvm.Cond → Bool} (h1 : L.all (fun c => isCode c || P c) = true) (h2 : ∀ c ∈ L.filter isCode, P c = true) : L.all P = true := by
  refine List.all_eq_true.mpr fun c hc => ?_
  have h := List.all_eq_true.mp h1 c hc
  rcases Bool.eq_false_or_eq_true (isCode c) with hi | hi
  · exact h2 c (List.mem_filter.mpr ⟨hc, hi⟩)
  · simpa [hi] using h
set_option maxRecDepth 65536 in
theorem w_c0 : (Jvm.Cond.code x code maxLocals ret).before args0 about1 = true := code_word (m := ⟨1, 3⟩) (meth := k1m3) (c := k1c3) (by decide +kernel) rfl rfl rfl (by decide +kernel)
set_option maxRecDepth 65536 in
theorem w_c1 : (Jvm.Cond.code ({ cls := "com/example/shapelint/shapelint/io/LineCounterPassPinLaw", name := "pick", desc := "(I)I" } : Jvm.MethodName) method_2_code (2 : Nat) (Option.some Jvm.ClassFile.FieldType.int)).before args0 about1 = true := code_word (m := ⟨1, 1⟩) (meth := k1m1) (c := k1c1) (by decide +kernel) rfl rfl rfl (by decide +kernel)
set_option maxRecDepth 65536 in
theorem w_c2 : (Jvm.Cond.code ({ cls := "com/example/shapelint/shapelint/io/LineCounter", name := "<init>", desc := "()V" } : Jvm.MethodName) prog_9_method_1_code (1 : Nat) (Option.none : Option Jvm.ClassFile.FieldType)).before args0 about1 = true := code_word (m := ⟨2, 0⟩) (meth := k2m0) (c := k2c0) (by decide +kernel) rfl rfl rfl (by decide +kernel)
set_option maxRecDepth 65536 in
theorem w_c3 : (Jvm.Cond.code ({ cls := "java/lang/Object", name := "<init>", desc := "()V" } : Jvm.MethodName) object_method_1_code (1 : Nat) (Option.none : Option Jvm.ClassFile.FieldType)).before args0 about1 = true := code_word (m := ⟨0, 0⟩) (meth := k0m0) (c := k0c0) (by decide +kernel) rfl rfl rfl (by decide +kernel)
set_option maxRecDepth 65536 in
theorem w_c4 : (Jvm.Cond.code ({ cls := "com/example/shapelint/shapelint/io/LineCounterPassPinLaw", name := "step", desc := "(Lcom/example/shapelint/shapelint/io/LineCounter;[JII)Z" } : Jvm.MethodName) method_3_code (6 : Nat) (Option.some Jvm.ClassFile.FieldType.boolean)).before args0 about1 = true := code_word (m := ⟨1, 2⟩) (meth := k1m2) (c := k1c2) (by decide +kernel) rfl rfl rfl (by decide +kernel)
set_option maxRecDepth 65536 in
theorem w_c5 : (Jvm.Cond.code ({ cls := "com/example/shapelint/shapelint/io/LineCounter", name := "pass", desc := "(I)V" } : Jvm.MethodName) prog_9_method_4_code (2 : Nat) (Option.none : Option Jvm.ClassFile.FieldType)).before args0 about1 = true := code_word (m := ⟨2, 3⟩) (meth := k2m3) (c := k2c3) (by decide +kernel) rfl rfl rfl (by decide +kernel)
set_option maxRecDepth 65536 in
theorem w_c6 : (Jvm.Cond.code ({ cls := "com/example/shapelint/shapelint/io/LineCounter", name := "getLine", desc := "()J" } : Jvm.MethodName) prog_9_method_2_code (1 : Nat) (Option.some Jvm.ClassFile.FieldType.long)).before args0 about1 = true := code_word (m := ⟨2, 1⟩) (meth := k2m1) (c := k2c1) (by decide +kernel) rfl rfl rfl (by decide +kernel)
set_option maxRecDepth 65536 in
theorem w_c7 : (Jvm.Cond.code ({ cls := "com/example/shapelint/shapelint/io/LineCounter", name := "getLastTextLine", desc := "()J" } : Jvm.MethodName) prog_9_method_3_code (1 : Nat) (Option.some Jvm.ClassFile.FieldType.long)).before args0 about1 = true := code_word (m := ⟨2, 2⟩) (meth := k2m2) (c := k2c2) (by decide +kernel) rfl rfl rfl (by decide +kernel)
def codes1 : List Jvm.Cond := [Jvm.Cond.code x code maxLocals ret, Jvm.Cond.code ({ cls := "com/example/shapelint/shapelint/io/LineCounterPassPinLaw", name := "pick", desc := "(I)I" } : Jvm.MethodName) method_2_code (2 : Nat) (Option.some Jvm.ClassFile.FieldType.int), Jvm.Cond.code ({ cls := "com/example/shapelint/shapelint/io/LineCounter", name := "<init>", desc := "()V" } : Jvm.MethodName) prog_9_method_1_code (1 : Nat) (Option.none : Option Jvm.ClassFile.FieldType), Jvm.Cond.code ({ cls := "java/lang/Object", name := "<init>", desc := "()V" } : Jvm.MethodName) object_method_1_code (1 : Nat) (Option.none : Option Jvm.ClassFile.FieldType), Jvm.Cond.code ({ cls := "com/example/shapelint/shapelint/io/LineCounterPassPinLaw", name := "step", desc := "(Lcom/example/shapelint/shapelint/io/LineCounter;[JII)Z" } : Jvm.MethodName) method_3_code (6 : Nat) (Option.some Jvm.ClassFile.FieldType.boolean), Jvm.Cond.code ({ cls := "com/example/shapelint/shapelint/io/LineCounter", name := "pass", desc := "(I)V" } : Jvm.MethodName) prog_9_method_4_code (2 : Nat) (Option.none : Option Jvm.ClassFile.FieldType), Jvm.Cond.code ({ cls := "com/example/shapelint/shapelint/io/LineCounter", name := "getLine", desc := "()J" } : Jvm.MethodName) prog_9_method_2_code (1 : Nat) (Option.some Jvm.ClassFile.FieldType.long), Jvm.Cond.code ({ cls := "com/example/shapelint/shapelint/io/LineCounter", name := "getLastTextLine", desc := "()J" } : Jvm.MethodName) prog_9_method_3_code (1 : Nat) (Option.some Jvm.ClassFile.FieldType.long)]
set_option maxRecDepth 65536 in
theorem codes_eq : words1.filter isCode = codes1 := rfl
theorem w_codes : ∀ c ∈ words1.filter isCode, c.before args0 about1 = true := by
  rw [codes_eq]
  intro c hc
  simp only [codes1, List.mem_cons, List.not_mem_nil, or_false] at hc
  rcases hc with rfl | rfl | rfl | rfl | rfl | rfl | rfl | rfl
  · exact w_c0
  · exact w_c1
  · exact w_c2
  · exact w_c3
  · exact w_c4
  · exact w_c5
  · exact w_c6
  · exact w_c7
set_option maxRecDepth 65536 in
theorem w_t1 : (words1.take 24).all (fun c => isCode c || c.before args0 about1) = true := by decide +kernel
set_option maxRecDepth 65536 in
theorem w_t2 : (words1.drop 24).all (fun c => isCode c || c.before args0 about1) = true := by decide +kernel
theorem w_tables : (allAtoms (Jvm.Cond.code x code maxLocals ret :: tables_1)).before args0 about1 = true := by
  rw [allAtoms_all]
  show words1.all (fun c => c.before args0 about1) = true
  refine all_split ?_ w_codes
  rw [← List.take_append_drop 24 words1, List.all_append, w_t1, w_t2]
  rfl
set_option maxRecDepth 65536 in
theorem w_case : (Jvm.Cond.and given_1 narrow_1).before args0 about1 = true := by decide +kernel
theorem w_applies : (headSpec (Jvm.Cond.code x code maxLocals ret :: tables_1) room_1).applies x e0.platform about1 = true :=
  (Spec.applies_iff w_frames).mpr ⟨w_running, w_runnable, w_alone, w_named, w_hears, w_ripe, w_room, w_tables⟩
theorem atStart : AtStart classFile x code maxLocals ret World_1 tables_1 room_1 Calls_1 rest_1 Pre_1 launch0 p0 e0 about1 theMethod args0 below0 :=
  ⟨lists_1, trivial, launch0.admits_env _ _ _, launch0.least_env, fairChoices_fair.cas, fairChoices_fair.clock, w_frames, w_args, w_heap, w_applies, trivial, trivial, w_case⟩
end start1
theorem witness_1 : WitnessClaimed_1 := ⟨start1.p0, start1.e0, start1.about1, start1.theMethod, start1.args0, start1.below0, start1.atStart⟩
end Jvm.Pilot.@@N@@
