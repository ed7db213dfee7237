import JvmDerived
import JvmDerived.Pilot.@@N@@Statement
import JvmDerived.Pilot.@@N@@Code
set_option linter.unusedVariables false
set_option linter.unusedSimpArgs false
namespace Jvm.OwnK
open Jvm Sem ClassFile Op Lib Jvm.Stand Jvm.Free Jvm.LawKit Jvm.RoadKit
section A
variable {tabs : List Jvm.Cond} {a0 : Array Value} {Z : State} {own nm : String} {code : ByteArray} {ml : Nat} {ret : Option FieldType} {p : Program} {l : Launch} {e : Env} {R : Room} {s : State} {m : MethodId} {args : Array Value} {below : List Frame} {meth : Method} {c : Code} {n0 : Nat} {T : State} {h : Heap} {k n : Nat} {Q : Option Value → Heap → Prop} {G : Outcome → State → List Loc → Prop} {pc : Nat} {ls : Array Slot} {st : List Value}
/-- what stands fast through a method's walk -/
def Cx (tabs : List Jvm.Cond) (a0 : Array Value) (Z : State) (own nm : String) (code : ByteArray) (ml : Nat) (ret : Option FieldType) (p : Program) (s : State) (m : MethodId) (meth : Method) (c : Code) : Prop :=
  p.tables.exec = Jvm.exec ∧ Z.Warmed39 s.vm ∧ c.code = code ∧ c.maxLocals = ml ∧ s.vm.findClass own = some m.cls ∧ meth.sig.returnType = ret ∧ meth.locks = false ∧ meth.name = nm ∧ ∀ d ∈ tabs, d.before a0 Z = true
/-- where the walk stands: the heap h, k cells and n slots made so far, nothing below n0 written -/
def St (p : Program) (l : Launch) (e : Env) (R : Room) (s : State) (m : MethodId) (args : Array Value) (below : List Frame) (meth : Method) (c : Code) (n0 : Nat) (T : State) (h : Heap) (k n : Nat) : Prop :=
  ∃ locs, Stand p l e R s m args below meth c T locs k n ∧ T.heap = h ∧ Fr n0 locs ∧ n0 ≤ s.heap.size
/-- from this frame the method ends, and returns what Q says -/
def Run (p : Program) (e : Env) (below : List Frame) (n0 : Nat) (Q : Option Value → Heap → Prop) (G : Outcome → State → List Loc → Prop) (m : MethodId) (T : State) (pc : Nat) (ls : Array Slot) (st : List Value) : Prop :=
  ∃ s₂ o, Steps p.tables e below (T.setTop (mkF m pc ls st)) s₂ ∧ s₂.status = .running ∧ Ended s₂ below o ∧ ∃ v L, o = .returned v ∧ (Q v s₂.heap ∧ Fr n0 L) ∧ G o s₂ L
theorem Run.step {T' : State} {pc' : Nat} {ls' : Array Slot} {st' : List Value} (f : ∀ t, Steps p.tables e below (T'.setTop (mkF m pc' ls' st')) t → Steps p.tables e below (T.setTop (mkF m pc ls st)) t) (r : Run p e below n0 Q G m T' pc' ls' st') : Run p e below n0 Q G m T pc ls st := by
  obtain ⟨s₂, o, h1, h2⟩ := r
  exact ⟨s₂, o, f _ h1, h2⟩
theorem Run.steps {T' : State} {pc' : Nat} {ls' : Array Slot} {st' : List Value} (f : Steps p.tables e below (T.setTop (mkF m pc ls st)) (T'.setTop (mkF m pc' ls' st'))) (r : Run p e below n0 Q G m T' pc' ls' st') : Run p e below n0 Q G m T pc ls st := Run.step (fun _ q => f.trans q) r
theorem Run.cast {st' : List Value} (q : st = st') (r : Run p e below n0 Q G m T pc ls st') : Run p e below n0 Q G m T pc ls st := q ▸ r
theorem St.at' (X : St p l e R s m args below meth c n0 T h k n) : Jvm.At T m c below := by obtain ⟨_, X, -⟩ := X; exact X.here
theorem St.sz (X : St p l e R s m args below meth c n0 T h k n) : n0 ≤ h.size := by
  obtain ⟨_, X, rfl, -, q⟩ := X
  exact Nat.le_trans q X.same.2.1
theorem Cx.d {r : Except DecodeError (Instr × Nat)} (C : Cx tabs a0 Z own nm code ml ret p s m meth c) (q : decode code pc = r) : decode c.code pc = r := hb C.2.2.1 q
theorem Cx.w {d : Jvm.Cond} (C : Cx tabs a0 Z own nm code ml ret p s m meth c) (q : d ∈ tabs) : d.before a0 Z = true := C.2.2.2.2.2.2.2.2 d q
theorem s_iloadN (pc' : Nat) (C : Cx tabs a0 Z own nm code ml ret p s m meth c) (X : St p l e R s m args below meth c n0 T h k n) {i : Fin 4} {v : Int32} (hd : decode code pc = .ok (.iload_n i, 1)) (hl : ls[i.val]? = some (.val (.int v))) (r : Run p e below n0 Q G m T pc' ls (.int v :: st)) (hp : pc + 1 = pc' := by rfl) : Run p e below n0 Q G m T pc ls st := by
  subst hp
  exact Run.step (fun t q => XS.iloadN X.at' C.1 rfl (C.d hd) hl q) r
theorem s_iload (pc' : Nat) (C : Cx tabs a0 Z own nm code ml ret p s m meth c) (X : St p l e R s m args below meth c n0 T h k n) {i : Nat} {v : Int32} (hd : decode code pc = .ok (.iload i, 2)) (hl : ls[i]? = some (.val (.int v))) (r : Run p e below n0 Q G m T pc' ls (.int v :: st)) (hp : pc + 2 = pc' := by rfl) : Run p e below n0 Q G m T pc ls st := by
  subst hp
  exact Run.step (fun t q => XS.iload X.at' C.1 rfl (C.d hd) hl q) r
theorem s_istoreN (pc' : Nat) (C : Cx tabs a0 Z own nm code ml ret p s m meth c) (X : St p l e R s m args below meth c n0 T h k n) {i : Fin 4} {v : Int32} {l' : Array Slot} (hd : decode code pc = .ok (.istore_n i, 1)) (hl : storeLocals ls i.val (.int v) = some l') (r : Run p e below n0 Q G m T pc' l' st) (hp : pc + 1 = pc' := by rfl) : Run p e below n0 Q G m T pc ls (.int v :: st) := by
  subst hp
  exact Run.step (fun t q => XS.istoreN X.at' C.1 rfl (C.d hd) rfl hl q) r
theorem s_istore (pc' : Nat) (C : Cx tabs a0 Z own nm code ml ret p s m meth c) (X : St p l e R s m args below meth c n0 T h k n) {i : Nat} {v : Int32} {l' : Array Slot} (hd : decode code pc = .ok (.istore i, 2)) (hl : storeLocals ls i (.int v) = some l') (r : Run p e below n0 Q G m T pc' l' st) (hp : pc + 2 = pc' := by rfl) : Run p e below n0 Q G m T pc ls (.int v :: st) := by
  subst hp
  exact Run.step (fun t q => XS.istore X.at' C.1 rfl (C.d hd) rfl hl q) r
theorem s_iconst (pc' : Nat) (C : Cx tabs a0 Z own nm code ml ret p s m meth c) (X : St p l e R s m args below meth c n0 T h k n) {i : Int} {z : Int32} (hd : decode code pc = .ok (.iconst i, 1)) (hz : Int32.ofInt i = z) (r : Run p e below n0 Q G m T pc' ls (.int z :: st)) (hp : pc + 1 = pc' := by rfl) : Run p e below n0 Q G m T pc ls st := by
  subst hp
  exact Run.step (fun t q => XS.iconst X.at' C.1 rfl (C.d hd) (by rw [hz]; exact q)) r
theorem s_bipush (pc' : Nat) (C : Cx tabs a0 Z own nm code ml ret p s m meth c) (X : St p l e R s m args below meth c n0 T h k n) {i : Int} {z : Int32} (hd : decode code pc = .ok (.bipush i, 2)) (hz : (Int8.ofInt i).toInt32 = z) (r : Run p e below n0 Q G m T pc' ls (.int z :: st)) (hp : pc + 2 = pc' := by rfl) : Run p e below n0 Q G m T pc ls st := by
  subst hp
  exact Run.step (fun t q => XS.bipush X.at' C.1 rfl (C.d hd) (by rw [hz]; exact q)) r
theorem s_sipush (pc' : Nat) (C : Cx tabs a0 Z own nm code ml ret p s m meth c) (X : St p l e R s m args below meth c n0 T h k n) {i : Int} {z : Int32} (hd : decode code pc = .ok (.sipush i, 3)) (hz : (Int16.ofInt i).toInt32 = z) (r : Run p e below n0 Q G m T pc' ls (.int z :: st)) (hp : pc + 3 = pc' := by rfl) : Run p e below n0 Q G m T pc ls st := by
  subst hp
  exact Run.step (fun t q => XS.sipush X.at' C.1 rfl (C.d hd) (by rw [hz]; exact q)) r
theorem s_i2c (pc' : Nat) (C : Cx tabs a0 Z own nm code ml ret p s m meth c) (X : St p l e R s m args below meth c n0 T h k n) {x : Int32} (hd : decode code pc = .ok (.i2c, 1)) (r : Run p e below n0 Q G m T pc' ls (.int x.toUInt32.toUInt16.toUInt32.toInt32 :: st)) (hp : pc + 1 = pc' := by rfl) : Run p e below n0 Q G m T pc ls (.int x :: st) := by
  subst hp
  exact Run.step (fun t q => XT.i2c X.at' C.1 rfl (C.d hd) rfl q) r
theorem s_goto (pc' : Nat) (C : Cx tabs a0 Z own nm code ml ret p s m meth c) (X : St p l e R s m args below meth c n0 T h k n) {o : Int} (hd : decode code pc = .ok (.goto o, 3)) (r : Run p e below n0 Q G m T pc' ls st) (hp : 0 ≤ (pc : Int) + o ∧ ((pc : Int) + o).toNat = pc' := by decide) : Run p e below n0 Q G m T pc ls st := by
  exact Run.step (fun t q => XS.goto X.at' C.1 rfl rfl (C.d hd) hp.1 hp.2 q) r
theorem s_icmp_lt (pY pN : Nat) (C : Cx tabs a0 Z own nm code ml ret p s m meth c) (X : St p l e R s m args below meth c n0 T h k n) {x y : Int32} {o : Int} (hd : decode code pc = .ok (.if_icmp .lt o, 3)) (ry : x < y → Run p e below n0 Q G m T pY ls st) (rn : ¬ x < y → Run p e below n0 Q G m T pN ls st) (hp : 0 ≤ (pc : Int) + o ∧ ((pc : Int) + o).toNat = pY ∧ pc + 3 = pN := by decide) : Run p e below n0 Q G m T pc ls (.int y :: .int x :: st) := by
  by_cases g : x < y
  · exact Run.step (fun t q => XS.icmpYes X.at' C.1 rfl rfl (C.d hd) rfl (tlt g).1 hp.1 hp.2.1 q) (ry g)
  · obtain rfl := hp.2.2
    exact Run.step (fun t q => XS.icmpNo X.at' C.1 rfl (C.d hd) rfl (flt g).1 q) (rn g)
theorem s_icmp_gt (pY pN : Nat) (C : Cx tabs a0 Z own nm code ml ret p s m meth c) (X : St p l e R s m args below meth c n0 T h k n) {x y : Int32} {o : Int} (hd : decode code pc = .ok (.if_icmp .gt o, 3)) (ry : y < x → Run p e below n0 Q G m T pY ls st) (rn : ¬ y < x → Run p e below n0 Q G m T pN ls st) (hp : 0 ≤ (pc : Int) + o ∧ ((pc : Int) + o).toNat = pY ∧ pc + 3 = pN := by decide) : Run p e below n0 Q G m T pc ls (.int y :: .int x :: st) := by
  by_cases g : y < x
  · exact Run.step (fun t q => XS.icmpYes X.at' C.1 rfl rfl (C.d hd) rfl (tlt g).2.2.1 hp.1 hp.2.1 q) (ry g)
  · obtain rfl := hp.2.2
    exact Run.step (fun t q => XS.icmpNo X.at' C.1 rfl (C.d hd) rfl (flt g).2.2.1 q) (rn g)
theorem s_icmp_eq (pY pN : Nat) (C : Cx tabs a0 Z own nm code ml ret p s m meth c) (X : St p l e R s m args below meth c n0 T h k n) {x y : Int32} {o : Int} (hd : decode code pc = .ok (.if_icmp .eq o, 3)) (ry : x = y → Run p e below n0 Q G m T pY ls st) (rn : ¬ x = y → Run p e below n0 Q G m T pN ls st) (hp : 0 ≤ (pc : Int) + o ∧ ((pc : Int) + o).toNat = pY ∧ pc + 3 = pN := by decide) : Run p e below n0 Q G m T pc ls (.int y :: .int x :: st) := by
  by_cases g : x = y
  · exact Run.step (fun t q => XS.icmpYes X.at' C.1 rfl rfl (C.d hd) rfl (teq g).1 hp.1 hp.2.1 q) (ry g)
  · obtain rfl := hp.2.2
    exact Run.step (fun t q => XS.icmpNo X.at' C.1 rfl (C.d hd) rfl (feq g).1 q) (rn g)
theorem s_icmp_ne (pY pN : Nat) (C : Cx tabs a0 Z own nm code ml ret p s m meth c) (X : St p l e R s m args below meth c n0 T h k n) {x y : Int32} {o : Int} (hd : decode code pc = .ok (.if_icmp .ne o, 3)) (ry : ¬ x = y → Run p e below n0 Q G m T pY ls st) (rn : x = y → Run p e below n0 Q G m T pN ls st) (hp : 0 ≤ (pc : Int) + o ∧ ((pc : Int) + o).toNat = pY ∧ pc + 3 = pN := by decide) : Run p e below n0 Q G m T pc ls (.int y :: .int x :: st) := by
  by_cases g : x = y
  · obtain rfl := hp.2.2
    exact Run.step (fun t q => XS.icmpNo X.at' C.1 rfl (C.d hd) rfl (teq g).2 q) (rn g)
  · exact Run.step (fun t q => XS.icmpYes X.at' C.1 rfl rfl (C.d hd) rfl (feq g).2 hp.1 hp.2.1 q) (ry g)
theorem s_ldcInt (pc' : Nat) (C : Cx tabs a0 Z own nm code ml ret p s m meth c) (X : St p l e R s m args below meth c n0 T h k n) {idx : Nat} {z : Int32} (hd : decode code pc = .ok (.ldc idx, 2)) (w : Jvm.Cond.constant own idx z ∈ tabs) (r : Run p e below n0 Q G m T pc' ls (.int z :: st)) (hp : pc + 2 = pc' := by rfl) : Run p e below n0 Q G m T pc ls st := by
  subst hp
  obtain ⟨_, Y, -⟩ := X
  exact Run.step (Y.ldcInt C.1 C.2.2.2.2.1 (mvT C.2.1 (C.w w)) (g := mkF m pc ls st) rfl (C.d hd)) r
theorem s_lsw (pc' : Nat) (C : Cx tabs a0 Z own nm code ml ret p s m meth c) (X : St p l e R s m args below meth c n0 T h k n) {df : Int} {ps : Array (Int × Int)} {len : Nat} {x : Int32} (hd : decode code pc = .ok (.lookupswitch df ps, len)) (hsort : (ps.toList.zip (ps.toList.drop 1)).all (fun (a, next) => a.1 < next.1) = true) (ho : 0 ≤ (pc : Int) + lookupswitch.offset ps.toList df x.toInt) (hp : ((pc : Int) + lookupswitch.offset ps.toList df x.toInt).toNat = pc') (r : Run p e below n0 Q G m T pc' ls st) : Run p e below n0 Q G m T pc ls (.int x :: st) := by
  subst hp
  refine Run.step (fun t q => ?_) r
  have hA := X.at'
  jvm_step hA [hA.top, C.1, C.d hd, lookupswitch.wp_chain, ho]
  exact ⟨by simpa using hsort, q⟩
theorem FE_mono {kc ks : Nat} (hk : k ≤ kc) (hn : n ≤ ks) : ∀ (v : Option Value) (t : State) (L : List Loc), FrameEnd s (.returned v) t L k n → FrameEnd s (.returned v) t L kc ks := fun v t L h => ⟨h.1, h.2.1, h.2.2.mono hk hn⟩
theorem Run.done (C : Cx tabs a0 Z own nm code ml ret p s m meth c) (X : St p l e R s m args below meth c n0 T h k n) {v : Option Value} (hv : ret = none → v = none) (hG : ∀ (v : Option Value) (t : State) (L : List Loc), FrameEnd s (.returned v) t L k n → G (.returned v) t L) (q : Q v h) (f : ∀ locs fs, Stand p l e R s m args below meth c T locs k n → (∀ (f : JFrame) (acts : List Action), f.method = m → f.locked = none → f.entered = [] → (doReturn e (T.setTop f) acts v).1 = T.setFrames fs) → Steps p.tables e below (T.setTop (mkF m pc ls st)) (T.setFrames fs)) : Run p e below n0 Q G m T pc ls st := by
  obtain ⟨locs, Y, rfl, N, -⟩ := X
  obtain ⟨fs, hr, hrun, hended, hW, hsame⟩ := Y.leave (v := v) (by rw [C.2.2.2.2.2.1]; exact hv) C.2.2.2.2.2.2.1
  exact ⟨_, _, f locs fs Y hr, hrun, hended, _, _, rfl, ⟨q, N⟩, hG _ _ _ ⟨⟨_, rfl⟩, hW, hsame⟩⟩
theorem s_nreturn (C : Cx tabs a0 Z own nm code ml ret p s m meth c) (X : St p l e R s m args below meth c n0 T h k n) {z z' : Int32} {t : FieldType} (hd : decode code pc = .ok (.ireturn, 1)) (hr : ret = some t) (ht : t = .boolean ∨ t = .byte ∨ t = .char ∨ t = .short) (hz : nar t z = z') (q : Q (some (.int z')) h) (hG : ∀ (v : Option Value) (t : State) (L : List Loc), FrameEnd s (.returned v) t L k n → G (.returned v) t L := by exact FE_mono (by decide) (by decide)) : Run p e below n0 Q G m T pc ls (.int z :: st) := by
  subst hr hz
  refine Run.done C X (fun w => by cases w) hG q (fun locs fs Y hr => ?_)
  exact retN Y C.1 C.2.2.2.2.2.1 ht (C.d hd) hr
/-- a method's contract at given arguments and a given heap -/
def Met (l : Launch) (Z : State) (y : MethodName) (bytes : ByteArray) (ml : Nat) (ret : Option FieldType) (rm : Room) (ws : List Jvm.Cond) (as : Array Value) (h : Heap) (n0 : Nat) (Q : Option Value → Heap → Prop) : Prop :=
  MetFree l y (head1 (Jvm.Cond.code y bytes ml ret :: ws) rm) (fun a U => a = as ∧ Z.Warmed39 U.vm ∧ U.heap = h) (fun _ _ _ _ _ => True) (fun _ U o U' => ∃ v L, o = .returned v ∧ (Q v U'.heap ∧ Fr n0 L) ∧ FrameEnd U o U' L rm.cells rm.slots)
theorem Met.mk {y : MethodName} {rm : Room} {ws : List Jvm.Cond} {as : Array Value} {ls0 : Array Slot} (hpl : plainFor y = true) (hw : ∀ d ∈ tabs, d.before a0 Z = true) (hn : n0 ≤ h.size) (hef : ∀ m, entryFrame m as ml = mkF m 0 ls0 [])
    (body : ∀ p e s m below meth c T, Cx tabs a0 Z y.cls y.name code ml ret p s m meth c → St p l e rm s m as below meth c n0 T h 0 0 → Run p e below n0 Q (fun o t L => FrameEnd s o t L rm.cells rm.slots) m T 0 ls0 []) : Met l Z y code ml ret rm ws as h n0 Q := by
  refine MetFree.of_bodySF hpl hisR ?_
  intro p e s m args below meth c s₁ Bd hml0 hP hK
  obtain ⟨rfl, hZ, rfl⟩ := hP
  have X0 : Stand p l e rm s m args below meth c s₁ [] 0 0 := Stand.of_body Bd
  have e0 : s₁.heap = s.heap := by rw [Bd.state]; rfl
  have r := body p e s m below meth c s₁ ⟨Bd.exec, hZ, Bd.bytes, hml0, findClass_of_methodNamed Bd.named, Bd.returns, Bd.notSynchronized, (name_of_methodNamed Bd.named Bd.method).1, hw⟩ ⟨[], X0, e0, Fr.nil n0, hn⟩
  obtain ⟨s₂, o, h1, h2⟩ := r
  exact ⟨s₂, o, castTop (hef m) h1, h2⟩
theorem s_callS (pc' : Nat) (argsL rest : List Value) (W : Nat) (C : Cx tabs a0 Z own nm code ml ret p s m meth c) (X : St p l e R s m args below meth c n0 T h k n) {idx : Nat} {y : MethodName} {bytes : ByteArray} {maxL : Nat} {rt : Option FieldType} {rm : Room} {stk : List Value} {Q1 : Option Value → Heap → Prop} (hd : decode code pc = .ok (.invokestatic idx, 3)) (w1 : Jvm.Cond.methodLink own idx y ∈ tabs) (w2 : Jvm.Cond.static y ∈ tabs) (w3 : Jvm.Cond.initialized y.cls ∈ tabs) (w4 : Jvm.Cond.code y bytes maxL rt ∈ tabs)
    (M : Met l Z y bytes maxL rt rm [] argsL.toArray h n0 Q1) (hlen : ∀ sig, parseMethodDescriptor y.desc = some sig → argsL.length = sig.parameters.length) (hs : stk = argsL.reverse ++ rest) (hsz : ls.size = ml) (hW : (rest.map fun v => v.category).sum = W)
    (r : ∀ T' v h', St p l e R s m args below meth c n0 T' h' (k + rm.cells) (n + rm.slots) → Q1 v h' → Run p e below n0 Q G m T' pc' ls (v.toList ++ rest)) (hp : pc + 3 = pc' := by rfl) (hr : rm.frames + 1 ≤ R.frames ∧ W + (maxL + 11) + rm.locals ≤ R.locals ∧ k + rm.cells ≤ R.cells ∧ n + rm.slots ≤ R.slots := by decide) (hy : y.cls ≠ "java/lang/invoke/MethodHandle" ∧ y.cls ≠ "java/lang/invoke/VarHandle" := by decide) : Run p e below n0 Q G m T pc ls stk := by
  subst hp hs
  obtain ⟨locs, Y, eT, N, q⟩ := X
  obtain ⟨v, _, ⟨T1, L1, k1, n1⟩, -, Y', ⟨Lc, hQ, l1, y1, z1⟩, f⟩ := Jvm.LawKit.callS Y C.1 C.2.2.2.2.1 (mvT C.2.1 (C.w w1)) (mvT C.2.1 (C.w w2)) (mvT C.2.1 (C.w w3)) (mvT C.2.1 (C.w w4)) hy (backOf (W := W) (Q := fun v h L => Q1 v h ∧ Fr n0 L) M C.2.1 (C.w w4) (C.w w3) hr.1 hr.2.1) (g := mkF m pc ls (argsL.reverse ++ rest)) rfl (hsz.trans C.2.2.2.1.symm) (argsL := argsL) (rest := rest) hlen rfl (by show 2 * 0 + _ ≤ _; rw [hW]; omega) (C.d hd) (fun _ _ => ⟨rfl, eT, hr.2.2.1, hr.2.2.2⟩)
  dsimp only [Pt.U, Pt.locs, Pt.cells, Pt.slots] at Y' l1 y1 z1 f hQ
  subst l1 y1 z1
  exact Run.step f (r T1 v _ ⟨_, Y', rfl, Fr.app N hQ.2, q⟩ hQ.1)
end A
end Jvm.OwnK
namespace Jvm.Pilot.@@N@@
open Jvm Jvm.ClassFile Sem Op Lib Jvm.Free Jvm.Stand Jvm.LawKit Jvm.RoadKit Bundle Jvm.OwnK Jvm.Pilot.@@N@@.Jvm.D
theorem pn_com_example_tinsel_tally_tinseltally_Blanks : plainName "com/example/tinsel_tally/tinseltally/Blanks" = true := by first | (simp [plainName, overriddenIn]; done) | decide +kernel
theorem d1_0 : decode prog_3_method_3_code 0 = .ok (.iload_n 0, 1) := by decide +kernel
theorem d1_1 : decode prog_3_method_3_code 1 = .ok (.lookupswitch 231 #[(9, 219), (10, 219), (11, 219), (12, 219), (13, 219), (32, 219), (133, 219), (160, 219), (5760, 219), (8192, 223), (8193, 223), (8194, 223), (8195, 223), (8196, 223), (8197, 223), (8198, 223), (8199, 223), (8200, 223), (8201, 227), (8202, 227), (8232, 227), (8233, 227), (8239, 227), (8287, 227), (12288, 227), (65279, 227)], 219) := by decide +kernel
theorem d1_220 : decode prog_3_method_3_code 220 = .ok (.iconst 1, 1) := by decide +kernel
theorem kc_iconst_1 : Int32.ofInt 1 = (1 : Int32) := by decide +kernel
theorem d1_221 : decode prog_3_method_3_code 221 = .ok (.goto 12, 3) := by decide +kernel
theorem d1_233 : decode prog_3_method_3_code 233 = .ok (.ireturn, 1) := by decide +kernel
theorem d1_224 : decode prog_3_method_3_code 224 = .ok (.iconst 1, 1) := by decide +kernel
theorem d1_225 : decode prog_3_method_3_code 225 = .ok (.goto 8, 3) := by decide +kernel
theorem d1_228 : decode prog_3_method_3_code 228 = .ok (.iconst 1, 1) := by decide +kernel
theorem d1_229 : decode prog_3_method_3_code 229 = .ok (.goto 4, 3) := by decide +kernel
theorem d1_232 : decode prog_3_method_3_code 232 = .ok (.iconst 0, 1) := by decide +kernel
theorem kc_iconst_0 : Int32.ofInt 0 = (0 : Int32) := by decide +kernel
theorem pn_com_example_tinsel_tally_tinseltally_BlanksIsBlankPinLaw : plainName "com/example/tinsel_tally/tinseltally/BlanksIsBlankPinLaw" = true := by first | (simp [plainName, overriddenIn]; done) | decide +kernel
theorem d2_0 : decode method_3_code 0 = .ok (.iload_n 0, 1) := by decide +kernel
theorem d2_1 : decode method_3_code 1 = .ok (.istore_n 1, 1) := by decide +kernel
theorem d2_2 : decode method_3_code 2 = .ok (.iload_n 1, 1) := by decide +kernel
theorem d2_3 : decode method_3_code 3 = .ok (.bipush 9, 2) := by decide +kernel
theorem kc_bipush_9 : (Int8.ofInt 9).toInt32 = (9 : Int32) := by decide +kernel
theorem d2_5 : decode method_3_code 5 = .ok (.if_icmp .lt 11, 3) := by decide +kernel
theorem d2_16 : decode method_3_code 16 = .ok (.iload_n 1, 1) := by decide +kernel
theorem d2_17 : decode method_3_code 17 = .ok (.bipush 32, 2) := by decide +kernel
theorem kc_bipush_32 : (Int8.ofInt 32).toInt32 = (32 : Int32) := by decide +kernel
theorem d2_19 : decode method_3_code 19 = .ok (.if_icmp .eq 24, 3) := by decide +kernel
theorem d2_43 : decode method_3_code 43 = .ok (.iconst 1, 1) := by decide +kernel
theorem d2_44 : decode method_3_code 44 = .ok (.ireturn, 1) := by decide +kernel
theorem d2_22 : decode method_3_code 22 = .ok (.iload_n 1, 1) := by decide +kernel
theorem d2_23 : decode method_3_code 23 = .ok (.sipush 133, 3) := by decide +kernel
theorem kc_sipush_133 : (Int16.ofInt 133).toInt32 = (133 : Int32) := by decide +kernel
theorem d2_26 : decode method_3_code 26 = .ok (.if_icmp .eq 17, 3) := by decide +kernel
theorem d2_29 : decode method_3_code 29 = .ok (.iload_n 1, 1) := by decide +kernel
theorem d2_30 : decode method_3_code 30 = .ok (.sipush 160, 3) := by decide +kernel
theorem kc_sipush_160 : (Int16.ofInt 160).toInt32 = (160 : Int32) := by decide +kernel
theorem d2_33 : decode method_3_code 33 = .ok (.if_icmp .eq 10, 3) := by decide +kernel
theorem d2_36 : decode method_3_code 36 = .ok (.iload_n 1, 1) := by decide +kernel
theorem d2_37 : decode method_3_code 37 = .ok (.sipush 5760, 3) := by decide +kernel
theorem kc_sipush_5760 : (Int16.ofInt 5760).toInt32 = (5760 : Int32) := by decide +kernel
theorem d2_40 : decode method_3_code 40 = .ok (.if_icmp .ne 5, 3) := by decide +kernel
theorem d2_45 : decode method_3_code 45 = .ok (.iload_n 1, 1) := by decide +kernel
theorem d2_46 : decode method_3_code 46 = .ok (.sipush 8192, 3) := by decide +kernel
theorem kc_sipush_8192 : (Int16.ofInt 8192).toInt32 = (8192 : Int32) := by decide +kernel
theorem d2_49 : decode method_3_code 49 = .ok (.if_icmp .lt 12, 3) := by decide +kernel
theorem d2_61 : decode method_3_code 61 = .ok (.iload_n 1, 1) := by decide +kernel
theorem d2_62 : decode method_3_code 62 = .ok (.sipush 8232, 3) := by decide +kernel
theorem kc_sipush_8232 : (Int16.ofInt 8232).toInt32 = (8232 : Int32) := by decide +kernel
theorem d2_65 : decode method_3_code 65 = .ok (.if_icmp .eq 24, 3) := by decide +kernel
theorem d2_89 : decode method_3_code 89 = .ok (.iconst 1, 1) := by decide +kernel
theorem d2_90 : decode method_3_code 90 = .ok (.ireturn, 1) := by decide +kernel
theorem d2_68 : decode method_3_code 68 = .ok (.iload_n 1, 1) := by decide +kernel
theorem d2_69 : decode method_3_code 69 = .ok (.sipush 8233, 3) := by decide +kernel
theorem kc_sipush_8233 : (Int16.ofInt 8233).toInt32 = (8233 : Int32) := by decide +kernel
theorem d2_72 : decode method_3_code 72 = .ok (.if_icmp .eq 17, 3) := by decide +kernel
theorem d2_75 : decode method_3_code 75 = .ok (.iload_n 1, 1) := by decide +kernel
theorem d2_76 : decode method_3_code 76 = .ok (.sipush 8239, 3) := by decide +kernel
theorem kc_sipush_8239 : (Int16.ofInt 8239).toInt32 = (8239 : Int32) := by decide +kernel
theorem d2_79 : decode method_3_code 79 = .ok (.if_icmp .eq 10, 3) := by decide +kernel
theorem d2_82 : decode method_3_code 82 = .ok (.iload_n 1, 1) := by decide +kernel
theorem d2_83 : decode method_3_code 83 = .ok (.sipush 8287, 3) := by decide +kernel
theorem kc_sipush_8287 : (Int16.ofInt 8287).toInt32 = (8287 : Int32) := by decide +kernel
theorem d2_86 : decode method_3_code 86 = .ok (.if_icmp .ne 5, 3) := by decide +kernel
theorem d2_91 : decode method_3_code 91 = .ok (.iload_n 1, 1) := by decide +kernel
theorem d2_92 : decode method_3_code 92 = .ok (.sipush 12288, 3) := by decide +kernel
theorem kc_sipush_12288 : (Int16.ofInt 12288).toInt32 = (12288 : Int32) := by decide +kernel
theorem d2_95 : decode method_3_code 95 = .ok (.if_icmp .eq 9, 3) := by decide +kernel
theorem d2_104 : decode method_3_code 104 = .ok (.iconst 1, 1) := by decide +kernel
theorem d2_105 : decode method_3_code 105 = .ok (.ireturn, 1) := by decide +kernel
theorem d2_98 : decode method_3_code 98 = .ok (.iload_n 1, 1) := by decide +kernel
theorem d2_99 : decode method_3_code 99 = .ok (.ldc 18, 2) := by decide +kernel
theorem d2_101 : decode method_3_code 101 = .ok (.if_icmp .ne 5, 3) := by decide +kernel
theorem d2_106 : decode method_3_code 106 = .ok (.iconst 0, 1) := by decide +kernel
theorem d2_107 : decode method_3_code 107 = .ok (.ireturn, 1) := by decide +kernel
theorem d2_52 : decode method_3_code 52 = .ok (.iload_n 1, 1) := by decide +kernel
theorem d2_53 : decode method_3_code 53 = .ok (.sipush 8202, 3) := by decide +kernel
theorem kc_sipush_8202 : (Int16.ofInt 8202).toInt32 = (8202 : Int32) := by decide +kernel
theorem d2_56 : decode method_3_code 56 = .ok (.if_icmp .gt 5, 3) := by decide +kernel
theorem d2_59 : decode method_3_code 59 = .ok (.iconst 1, 1) := by decide +kernel
theorem d2_60 : decode method_3_code 60 = .ok (.ireturn, 1) := by decide +kernel
theorem d2_8 : decode method_3_code 8 = .ok (.iload_n 1, 1) := by decide +kernel
theorem d2_9 : decode method_3_code 9 = .ok (.bipush 13, 2) := by decide +kernel
theorem kc_bipush_13 : (Int8.ofInt 13).toInt32 = (13 : Int32) := by decide +kernel
theorem d2_11 : decode method_3_code 11 = .ok (.if_icmp .gt 5, 3) := by decide +kernel
theorem d2_14 : decode method_3_code 14 = .ok (.iconst 1, 1) := by decide +kernel
theorem d2_15 : decode method_3_code 15 = .ok (.ireturn, 1) := by decide +kernel
theorem pd__C_Z : parseMethodDescriptor "(C)Z" = some ⟨[.char], some .boolean⟩ := by decide +kernel
def blankP (z : Int) : Prop := (9 ≤ z ∧ z ≤ 13) ∨ z = 32 ∨ z = 133 ∨ z = 160 ∨ z = 5760 ∨ (8192 ≤ z ∧ z ≤ 8202) ∨ z = 8232 ∨ z = 8233 ∨ z = 8239 ∨ z = 8287 ∨ z = 12288 ∨ z = 65279
theorem kz_9 : (9 : Int32).toInt = 9 := by decide +kernel
theorem kz_13 : (13 : Int32).toInt = 13 := by decide +kernel
theorem kz_32 : (32 : Int32).toInt = 32 := by decide +kernel
theorem kz_133 : (133 : Int32).toInt = 133 := by decide +kernel
theorem kz_160 : (160 : Int32).toInt = 160 := by decide +kernel
theorem kz_5760 : (5760 : Int32).toInt = 5760 := by decide +kernel
theorem kz_8192 : (8192 : Int32).toInt = 8192 := by decide +kernel
theorem kz_8202 : (8202 : Int32).toInt = 8202 := by decide +kernel
theorem kz_8232 : (8232 : Int32).toInt = 8232 := by decide +kernel
theorem kz_8233 : (8233 : Int32).toInt = 8233 := by decide +kernel
theorem kz_8239 : (8239 : Int32).toInt = 8239 := by decide +kernel
theorem kz_8287 : (8287 : Int32).toInt = 8287 := by decide +kernel
theorem kz_12288 : (12288 : Int32).toInt = 12288 := by decide +kernel
theorem kz_65279 : (65279 : Int32).toInt = 65279 := by decide +kernel
set_option maxRecDepth 65536 in
set_option maxHeartbeats 40000000 in
theorem rm_isBlank (l : Launch) (Z : State) (a0 : Array Value) (hw : ∀ d ∈ tables_1, d.before a0 Z = true) (x0 : Int32) (h0 : Heap) (n0 : Nat) (Z0 : n0 ≤ h0.size)  :
    Met l Z (⟨"com/example/tinsel_tally/tinseltally/Blanks", "isBlank", "(C)Z"⟩ : MethodName) prog_3_method_3_code 1 (some .boolean) { frames := 0, cells := 0, slots := 0, locals := 0 } [] #[(.int x0)] h0 n0 (fun v h => ((v = some (.int 1) ∧ blankP x0.toInt) ∨ (v = some (.int 0) ∧ ¬ blankP x0.toInt)) ∧ h = h0) := by
  refine Met.mk (tabs := tables_1) (a0 := a0) (ls0 := #[.val (.int x0)]) (plainFor_of_name pn_com_example_tinsel_tally_tinseltally_Blanks) hw Z0 (fun m => by first | (simp [entryFrame, mkF, argsToLocals, Value.category]; done) | rfl) ?_
  intro p e s m below meth c T C X
  refine s_iloadN 1 C X d1_0 rfl ?_
  by_cases gk1_9 : (9 : Int) = (x0).toInt
  · refine s_lsw 220 C X d1_1 (by decide) (by rw [← gk1_9]; decide) (by rw [← gk1_9]; decide) ?_
    refine s_iconst 221 C X d1_220 kc_iconst_1 ?_
    refine s_goto 233 C X d1_221 ?_
    refine s_nreturn C X d1_233 rfl (by simp) rfl ?_
    exact ⟨Or.inl ⟨rfl, by unfold blankP; omega⟩, rfl⟩
  by_cases gk1_10 : (10 : Int) = (x0).toInt
  · refine s_lsw 220 C X d1_1 (by decide) (by rw [← gk1_10]; decide) (by rw [← gk1_10]; decide) ?_
    refine s_iconst 221 C X d1_220 kc_iconst_1 ?_
    refine s_goto 233 C X d1_221 ?_
    refine s_nreturn C X d1_233 rfl (by simp) rfl ?_
    exact ⟨Or.inl ⟨rfl, by unfold blankP; omega⟩, rfl⟩
  by_cases gk1_11 : (11 : Int) = (x0).toInt
  · refine s_lsw 220 C X d1_1 (by decide) (by rw [← gk1_11]; decide) (by rw [← gk1_11]; decide) ?_
    refine s_iconst 221 C X d1_220 kc_iconst_1 ?_
    refine s_goto 233 C X d1_221 ?_
    refine s_nreturn C X d1_233 rfl (by simp) rfl ?_
    exact ⟨Or.inl ⟨rfl, by unfold blankP; omega⟩, rfl⟩
  by_cases gk1_12 : (12 : Int) = (x0).toInt
  · refine s_lsw 220 C X d1_1 (by decide) (by rw [← gk1_12]; decide) (by rw [← gk1_12]; decide) ?_
    refine s_iconst 221 C X d1_220 kc_iconst_1 ?_
    refine s_goto 233 C X d1_221 ?_
    refine s_nreturn C X d1_233 rfl (by simp) rfl ?_
    exact ⟨Or.inl ⟨rfl, by unfold blankP; omega⟩, rfl⟩
  by_cases gk1_13 : (13 : Int) = (x0).toInt
  · refine s_lsw 220 C X d1_1 (by decide) (by rw [← gk1_13]; decide) (by rw [← gk1_13]; decide) ?_
    refine s_iconst 221 C X d1_220 kc_iconst_1 ?_
    refine s_goto 233 C X d1_221 ?_
    refine s_nreturn C X d1_233 rfl (by simp) rfl ?_
    exact ⟨Or.inl ⟨rfl, by unfold blankP; omega⟩, rfl⟩
  by_cases gk1_32 : (32 : Int) = (x0).toInt
  · refine s_lsw 220 C X d1_1 (by decide) (by rw [← gk1_32]; decide) (by rw [← gk1_32]; decide) ?_
    refine s_iconst 221 C X d1_220 kc_iconst_1 ?_
    refine s_goto 233 C X d1_221 ?_
    refine s_nreturn C X d1_233 rfl (by simp) rfl ?_
    exact ⟨Or.inl ⟨rfl, by unfold blankP; omega⟩, rfl⟩
  by_cases gk1_133 : (133 : Int) = (x0).toInt
  · refine s_lsw 220 C X d1_1 (by decide) (by rw [← gk1_133]; decide) (by rw [← gk1_133]; decide) ?_
    refine s_iconst 221 C X d1_220 kc_iconst_1 ?_
    refine s_goto 233 C X d1_221 ?_
    refine s_nreturn C X d1_233 rfl (by simp) rfl ?_
    exact ⟨Or.inl ⟨rfl, by unfold blankP; omega⟩, rfl⟩
  by_cases gk1_160 : (160 : Int) = (x0).toInt
  · refine s_lsw 220 C X d1_1 (by decide) (by rw [← gk1_160]; decide) (by rw [← gk1_160]; decide) ?_
    refine s_iconst 221 C X d1_220 kc_iconst_1 ?_
    refine s_goto 233 C X d1_221 ?_
    refine s_nreturn C X d1_233 rfl (by simp) rfl ?_
    exact ⟨Or.inl ⟨rfl, by unfold blankP; omega⟩, rfl⟩
  by_cases gk1_5760 : (5760 : Int) = (x0).toInt
  · refine s_lsw 220 C X d1_1 (by decide) (by rw [← gk1_5760]; decide) (by rw [← gk1_5760]; decide) ?_
    refine s_iconst 221 C X d1_220 kc_iconst_1 ?_
    refine s_goto 233 C X d1_221 ?_
    refine s_nreturn C X d1_233 rfl (by simp) rfl ?_
    exact ⟨Or.inl ⟨rfl, by unfold blankP; omega⟩, rfl⟩
  by_cases gk1_8192 : (8192 : Int) = (x0).toInt
  · refine s_lsw 224 C X d1_1 (by decide) (by rw [← gk1_8192]; decide) (by rw [← gk1_8192]; decide) ?_
    refine s_iconst 225 C X d1_224 kc_iconst_1 ?_
    refine s_goto 233 C X d1_225 ?_
    refine s_nreturn C X d1_233 rfl (by simp) rfl ?_
    exact ⟨Or.inl ⟨rfl, by unfold blankP; omega⟩, rfl⟩
  by_cases gk1_8193 : (8193 : Int) = (x0).toInt
  · refine s_lsw 224 C X d1_1 (by decide) (by rw [← gk1_8193]; decide) (by rw [← gk1_8193]; decide) ?_
    refine s_iconst 225 C X d1_224 kc_iconst_1 ?_
    refine s_goto 233 C X d1_225 ?_
    refine s_nreturn C X d1_233 rfl (by simp) rfl ?_
    exact ⟨Or.inl ⟨rfl, by unfold blankP; omega⟩, rfl⟩
  by_cases gk1_8194 : (8194 : Int) = (x0).toInt
  · refine s_lsw 224 C X d1_1 (by decide) (by rw [← gk1_8194]; decide) (by rw [← gk1_8194]; decide) ?_
    refine s_iconst 225 C X d1_224 kc_iconst_1 ?_
    refine s_goto 233 C X d1_225 ?_
    refine s_nreturn C X d1_233 rfl (by simp) rfl ?_
    exact ⟨Or.inl ⟨rfl, by unfold blankP; omega⟩, rfl⟩
  by_cases gk1_8195 : (8195 : Int) = (x0).toInt
  · refine s_lsw 224 C X d1_1 (by decide) (by rw [← gk1_8195]; decide) (by rw [← gk1_8195]; decide) ?_
    refine s_iconst 225 C X d1_224 kc_iconst_1 ?_
    refine s_goto 233 C X d1_225 ?_
    refine s_nreturn C X d1_233 rfl (by simp) rfl ?_
    exact ⟨Or.inl ⟨rfl, by unfold blankP; omega⟩, rfl⟩
  by_cases gk1_8196 : (8196 : Int) = (x0).toInt
  · refine s_lsw 224 C X d1_1 (by decide) (by rw [← gk1_8196]; decide) (by rw [← gk1_8196]; decide) ?_
    refine s_iconst 225 C X d1_224 kc_iconst_1 ?_
    refine s_goto 233 C X d1_225 ?_
    refine s_nreturn C X d1_233 rfl (by simp) rfl ?_
    exact ⟨Or.inl ⟨rfl, by unfold blankP; omega⟩, rfl⟩
  by_cases gk1_8197 : (8197 : Int) = (x0).toInt
  · refine s_lsw 224 C X d1_1 (by decide) (by rw [← gk1_8197]; decide) (by rw [← gk1_8197]; decide) ?_
    refine s_iconst 225 C X d1_224 kc_iconst_1 ?_
    refine s_goto 233 C X d1_225 ?_
    refine s_nreturn C X d1_233 rfl (by simp) rfl ?_
    exact ⟨Or.inl ⟨rfl, by unfold blankP; omega⟩, rfl⟩
  by_cases gk1_8198 : (8198 : Int) = (x0).toInt
  · refine s_lsw 224 C X d1_1 (by decide) (by rw [← gk1_8198]; decide) (by rw [← gk1_8198]; decide) ?_
    refine s_iconst 225 C X d1_224 kc_iconst_1 ?_
    refine s_goto 233 C X d1_225 ?_
    refine s_nreturn C X d1_233 rfl (by simp) rfl ?_
    exact ⟨Or.inl ⟨rfl, by unfold blankP; omega⟩, rfl⟩
  by_cases gk1_8199 : (8199 : Int) = (x0).toInt
  · refine s_lsw 224 C X d1_1 (by decide) (by rw [← gk1_8199]; decide) (by rw [← gk1_8199]; decide) ?_
    refine s_iconst 225 C X d1_224 kc_iconst_1 ?_
    refine s_goto 233 C X d1_225 ?_
    refine s_nreturn C X d1_233 rfl (by simp) rfl ?_
    exact ⟨Or.inl ⟨rfl, by unfold blankP; omega⟩, rfl⟩
  by_cases gk1_8200 : (8200 : Int) = (x0).toInt
  · refine s_lsw 224 C X d1_1 (by decide) (by rw [← gk1_8200]; decide) (by rw [← gk1_8200]; decide) ?_
    refine s_iconst 225 C X d1_224 kc_iconst_1 ?_
    refine s_goto 233 C X d1_225 ?_
    refine s_nreturn C X d1_233 rfl (by simp) rfl ?_
    exact ⟨Or.inl ⟨rfl, by unfold blankP; omega⟩, rfl⟩
  by_cases gk1_8201 : (8201 : Int) = (x0).toInt
  · refine s_lsw 228 C X d1_1 (by decide) (by rw [← gk1_8201]; decide) (by rw [← gk1_8201]; decide) ?_
    refine s_iconst 229 C X d1_228 kc_iconst_1 ?_
    refine s_goto 233 C X d1_229 ?_
    refine s_nreturn C X d1_233 rfl (by simp) rfl ?_
    exact ⟨Or.inl ⟨rfl, by unfold blankP; omega⟩, rfl⟩
  by_cases gk1_8202 : (8202 : Int) = (x0).toInt
  · refine s_lsw 228 C X d1_1 (by decide) (by rw [← gk1_8202]; decide) (by rw [← gk1_8202]; decide) ?_
    refine s_iconst 229 C X d1_228 kc_iconst_1 ?_
    refine s_goto 233 C X d1_229 ?_
    refine s_nreturn C X d1_233 rfl (by simp) rfl ?_
    exact ⟨Or.inl ⟨rfl, by unfold blankP; omega⟩, rfl⟩
  by_cases gk1_8232 : (8232 : Int) = (x0).toInt
  · refine s_lsw 228 C X d1_1 (by decide) (by rw [← gk1_8232]; decide) (by rw [← gk1_8232]; decide) ?_
    refine s_iconst 229 C X d1_228 kc_iconst_1 ?_
    refine s_goto 233 C X d1_229 ?_
    refine s_nreturn C X d1_233 rfl (by simp) rfl ?_
    exact ⟨Or.inl ⟨rfl, by unfold blankP; omega⟩, rfl⟩
  by_cases gk1_8233 : (8233 : Int) = (x0).toInt
  · refine s_lsw 228 C X d1_1 (by decide) (by rw [← gk1_8233]; decide) (by rw [← gk1_8233]; decide) ?_
    refine s_iconst 229 C X d1_228 kc_iconst_1 ?_
    refine s_goto 233 C X d1_229 ?_
    refine s_nreturn C X d1_233 rfl (by simp) rfl ?_
    exact ⟨Or.inl ⟨rfl, by unfold blankP; omega⟩, rfl⟩
  by_cases gk1_8239 : (8239 : Int) = (x0).toInt
  · refine s_lsw 228 C X d1_1 (by decide) (by rw [← gk1_8239]; decide) (by rw [← gk1_8239]; decide) ?_
    refine s_iconst 229 C X d1_228 kc_iconst_1 ?_
    refine s_goto 233 C X d1_229 ?_
    refine s_nreturn C X d1_233 rfl (by simp) rfl ?_
    exact ⟨Or.inl ⟨rfl, by unfold blankP; omega⟩, rfl⟩
  by_cases gk1_8287 : (8287 : Int) = (x0).toInt
  · refine s_lsw 228 C X d1_1 (by decide) (by rw [← gk1_8287]; decide) (by rw [← gk1_8287]; decide) ?_
    refine s_iconst 229 C X d1_228 kc_iconst_1 ?_
    refine s_goto 233 C X d1_229 ?_
    refine s_nreturn C X d1_233 rfl (by simp) rfl ?_
    exact ⟨Or.inl ⟨rfl, by unfold blankP; omega⟩, rfl⟩
  by_cases gk1_12288 : (12288 : Int) = (x0).toInt
  · refine s_lsw 228 C X d1_1 (by decide) (by rw [← gk1_12288]; decide) (by rw [← gk1_12288]; decide) ?_
    refine s_iconst 229 C X d1_228 kc_iconst_1 ?_
    refine s_goto 233 C X d1_229 ?_
    refine s_nreturn C X d1_233 rfl (by simp) rfl ?_
    exact ⟨Or.inl ⟨rfl, by unfold blankP; omega⟩, rfl⟩
  by_cases gk1_65279 : (65279 : Int) = (x0).toInt
  · refine s_lsw 228 C X d1_1 (by decide) (by rw [← gk1_65279]; decide) (by rw [← gk1_65279]; decide) ?_
    refine s_iconst 229 C X d1_228 kc_iconst_1 ?_
    refine s_goto 233 C X d1_229 ?_
    refine s_nreturn C X d1_233 rfl (by simp) rfl ?_
    exact ⟨Or.inl ⟨rfl, by unfold blankP; omega⟩, rfl⟩
  have sw1 : lookupswitch.offset [(9, 219), (10, 219), (11, 219), (12, 219), (13, 219), (32, 219), (133, 219), (160, 219), (5760, 219), (8192, 223), (8193, 223), (8194, 223), (8195, 223), (8196, 223), (8197, 223), (8198, 223), (8199, 223), (8200, 223), (8201, 227), (8202, 227), (8232, 227), (8233, 227), (8239, 227), (8287, 227), (12288, 227), (65279, 227)] 231 (x0).toInt = 231 := by rw [lookupswitch.offset_cons, if_neg gk1_9, lookupswitch.offset_cons, if_neg gk1_10, lookupswitch.offset_cons, if_neg gk1_11, lookupswitch.offset_cons, if_neg gk1_12, lookupswitch.offset_cons, if_neg gk1_13, lookupswitch.offset_cons, if_neg gk1_32, lookupswitch.offset_cons, if_neg gk1_133, lookupswitch.offset_cons, if_neg gk1_160, lookupswitch.offset_cons, if_neg gk1_5760, lookupswitch.offset_cons, if_neg gk1_8192, lookupswitch.offset_cons, if_neg gk1_8193, lookupswitch.offset_cons, if_neg gk1_8194, lookupswitch.offset_cons, if_neg gk1_8195, lookupswitch.offset_cons, if_neg gk1_8196, lookupswitch.offset_cons, if_neg gk1_8197, lookupswitch.offset_cons, if_neg gk1_8198, lookupswitch.offset_cons, if_neg gk1_8199, lookupswitch.offset_cons, if_neg gk1_8200, lookupswitch.offset_cons, if_neg gk1_8201, lookupswitch.offset_cons, if_neg gk1_8202, lookupswitch.offset_cons, if_neg gk1_8232, lookupswitch.offset_cons, if_neg gk1_8233, lookupswitch.offset_cons, if_neg gk1_8239, lookupswitch.offset_cons, if_neg gk1_8287, lookupswitch.offset_cons, if_neg gk1_12288, lookupswitch.offset_cons, if_neg gk1_65279, lookupswitch.offset_nil]
  refine s_lsw 232 C X d1_1 (by decide) (by rw [sw1]; decide) (by rw [sw1]; decide) ?_
  refine s_iconst 233 C X d1_232 kc_iconst_0 ?_
  refine s_nreturn C X d1_233 rfl (by simp) rfl ?_
  exact ⟨Or.inr ⟨rfl, by unfold blankP; omega⟩, rfl⟩
set_option maxRecDepth 65536 in
set_option maxHeartbeats 40000000 in
theorem rm_expected (l : Launch) (Z : State) (a0 : Array Value) (hw : ∀ d ∈ tables_1, d.before a0 Z = true) (x0 : Int32) (h0 : Heap) (n0 : Nat) (Z0 : n0 ≤ h0.size)  :
    Met l Z (⟨"com/example/tinsel_tally/tinseltally/BlanksIsBlankPinLaw", "expected", "(C)Z"⟩ : MethodName) method_3_code 2 (some .boolean) { frames := 0, cells := 0, slots := 0, locals := 0 } [] #[(.int x0)] h0 n0 (fun v h => ((v = some (.int 1) ∧ blankP x0.toInt) ∨ (v = some (.int 0) ∧ ¬ blankP x0.toInt)) ∧ h = h0) := by
  refine Met.mk (tabs := tables_1) (a0 := a0) (ls0 := #[.val (.int x0), .unset]) (plainFor_of_name pn_com_example_tinsel_tally_tinseltally_BlanksIsBlankPinLaw) hw Z0 (fun m => by first | (simp [entryFrame, mkF, argsToLocals, Value.category]; done) | rfl) ?_
  intro p e s m below meth c T C X
  refine s_iloadN 1 C X d2_0 rfl ?_
  refine s_istoreN 2 C X (l' := #[.val (.int x0), .val (.int x0)]) d2_1 rfl ?_
  refine s_iloadN 3 C X d2_2 rfl ?_
  refine s_bipush 5 C X d2_3 kc_bipush_9 ?_
  refine s_icmp_lt 16 8 C X d2_5 (fun c5 => ?_) (fun c5 => ?_)
  · have t_c5 : (x0).toInt < (9 : Int) := Int32.lt_iff_toInt_lt.mp c5
    refine s_iloadN 17 C X d2_16 rfl ?_
    refine s_bipush 19 C X d2_17 kc_bipush_32 ?_
    refine s_icmp_eq 43 22 C X d2_19 (fun c19 => ?_) (fun c19 => ?_)
    · have t_c19 : (x0).toInt = (32 : Int) := congrArg Int32.toInt c19
      refine s_iconst 44 C X d2_43 kc_iconst_1 ?_
      refine s_nreturn C X d2_44 rfl (by simp) rfl ?_
      exact ⟨Or.inl ⟨rfl, by unfold blankP; omega⟩, rfl⟩
    have t_c19 : ¬ ((x0).toInt = (32 : Int)) := fun q => c19 (Int32.toInt_inj.mp q)
    refine s_iloadN 23 C X d2_22 rfl ?_
    refine s_sipush 26 C X d2_23 kc_sipush_133 ?_
    refine s_icmp_eq 43 29 C X d2_26 (fun c26 => ?_) (fun c26 => ?_)
    · have t_c26 : (x0).toInt = (133 : Int) := congrArg Int32.toInt c26
      refine s_iconst 44 C X d2_43 kc_iconst_1 ?_
      refine s_nreturn C X d2_44 rfl (by simp) rfl ?_
      exact ⟨Or.inl ⟨rfl, by unfold blankP; omega⟩, rfl⟩
    have t_c26 : ¬ ((x0).toInt = (133 : Int)) := fun q => c26 (Int32.toInt_inj.mp q)
    refine s_iloadN 30 C X d2_29 rfl ?_
    refine s_sipush 33 C X d2_30 kc_sipush_160 ?_
    refine s_icmp_eq 43 36 C X d2_33 (fun c33 => ?_) (fun c33 => ?_)
    · have t_c33 : (x0).toInt = (160 : Int) := congrArg Int32.toInt c33
      refine s_iconst 44 C X d2_43 kc_iconst_1 ?_
      refine s_nreturn C X d2_44 rfl (by simp) rfl ?_
      exact ⟨Or.inl ⟨rfl, by unfold blankP; omega⟩, rfl⟩
    have t_c33 : ¬ ((x0).toInt = (160 : Int)) := fun q => c33 (Int32.toInt_inj.mp q)
    refine s_iloadN 37 C X d2_36 rfl ?_
    refine s_sipush 40 C X d2_37 kc_sipush_5760 ?_
    refine s_icmp_ne 45 43 C X d2_40 (fun c40 => ?_) (fun c40 => ?_)
    · have t_c40 : ¬ ((x0).toInt = (5760 : Int)) := fun q => c40 (Int32.toInt_inj.mp q)
      refine s_iloadN 46 C X d2_45 rfl ?_
      refine s_sipush 49 C X d2_46 kc_sipush_8192 ?_
      refine s_icmp_lt 61 52 C X d2_49 (fun c49 => ?_) (fun c49 => ?_)
      · have t_c49 : (x0).toInt < (8192 : Int) := Int32.lt_iff_toInt_lt.mp c49
        refine s_iloadN 62 C X d2_61 rfl ?_
        refine s_sipush 65 C X d2_62 kc_sipush_8232 ?_
        refine s_icmp_eq 89 68 C X d2_65 (fun c65 => ?_) (fun c65 => ?_)
        · have t_c65 : (x0).toInt = (8232 : Int) := congrArg Int32.toInt c65
          refine s_iconst 90 C X d2_89 kc_iconst_1 ?_
          refine s_nreturn C X d2_90 rfl (by simp) rfl ?_
          exact ⟨Or.inl ⟨rfl, by unfold blankP; omega⟩, rfl⟩
        have t_c65 : ¬ ((x0).toInt = (8232 : Int)) := fun q => c65 (Int32.toInt_inj.mp q)
        refine s_iloadN 69 C X d2_68 rfl ?_
        refine s_sipush 72 C X d2_69 kc_sipush_8233 ?_
        refine s_icmp_eq 89 75 C X d2_72 (fun c72 => ?_) (fun c72 => ?_)
        · have t_c72 : (x0).toInt = (8233 : Int) := congrArg Int32.toInt c72
          refine s_iconst 90 C X d2_89 kc_iconst_1 ?_
          refine s_nreturn C X d2_90 rfl (by simp) rfl ?_
          exact ⟨Or.inl ⟨rfl, by unfold blankP; omega⟩, rfl⟩
        have t_c72 : ¬ ((x0).toInt = (8233 : Int)) := fun q => c72 (Int32.toInt_inj.mp q)
        refine s_iloadN 76 C X d2_75 rfl ?_
        refine s_sipush 79 C X d2_76 kc_sipush_8239 ?_
        refine s_icmp_eq 89 82 C X d2_79 (fun c79 => ?_) (fun c79 => ?_)
        · have t_c79 : (x0).toInt = (8239 : Int) := congrArg Int32.toInt c79
          refine s_iconst 90 C X d2_89 kc_iconst_1 ?_
          refine s_nreturn C X d2_90 rfl (by simp) rfl ?_
          exact ⟨Or.inl ⟨rfl, by unfold blankP; omega⟩, rfl⟩
        have t_c79 : ¬ ((x0).toInt = (8239 : Int)) := fun q => c79 (Int32.toInt_inj.mp q)
        refine s_iloadN 83 C X d2_82 rfl ?_
        refine s_sipush 86 C X d2_83 kc_sipush_8287 ?_
        refine s_icmp_ne 91 89 C X d2_86 (fun c86 => ?_) (fun c86 => ?_)
        · have t_c86 : ¬ ((x0).toInt = (8287 : Int)) := fun q => c86 (Int32.toInt_inj.mp q)
          refine s_iloadN 92 C X d2_91 rfl ?_
          refine s_sipush 95 C X d2_92 kc_sipush_12288 ?_
          refine s_icmp_eq 104 98 C X d2_95 (fun c95 => ?_) (fun c95 => ?_)
          · have t_c95 : (x0).toInt = (12288 : Int) := congrArg Int32.toInt c95
            refine s_iconst 105 C X d2_104 kc_iconst_1 ?_
            refine s_nreturn C X d2_105 rfl (by simp) rfl ?_
            exact ⟨Or.inl ⟨rfl, by unfold blankP; omega⟩, rfl⟩
          have t_c95 : ¬ ((x0).toInt = (12288 : Int)) := fun q => c95 (Int32.toInt_inj.mp q)
          refine s_iloadN 99 C X d2_98 rfl ?_
          refine s_ldcInt 101 C X d2_99 (List.mem_of_getElem? (i := 8) rfl) ?_
          refine s_icmp_ne 106 104 C X d2_101 (fun c101 => ?_) (fun c101 => ?_)
          · have t_c101 : ¬ ((x0).toInt = (65279 : Int)) := fun q => c101 (Int32.toInt_inj.mp q)
            refine s_iconst 107 C X d2_106 kc_iconst_0 ?_
            refine s_nreturn C X d2_107 rfl (by simp) rfl ?_
            exact ⟨Or.inr ⟨rfl, by unfold blankP; omega⟩, rfl⟩
          have t_c101 : (x0).toInt = (65279 : Int) := congrArg Int32.toInt c101
          refine s_iconst 105 C X d2_104 kc_iconst_1 ?_
          refine s_nreturn C X d2_105 rfl (by simp) rfl ?_
          exact ⟨Or.inl ⟨rfl, by unfold blankP; omega⟩, rfl⟩
        have t_c86 : (x0).toInt = (8287 : Int) := congrArg Int32.toInt c86
        refine s_iconst 90 C X d2_89 kc_iconst_1 ?_
        refine s_nreturn C X d2_90 rfl (by simp) rfl ?_
        exact ⟨Or.inl ⟨rfl, by unfold blankP; omega⟩, rfl⟩
      have t_c49 : ¬ ((x0).toInt < (8192 : Int)) := fun q => c49 (Int32.lt_iff_toInt_lt.mpr q)
      refine s_iloadN 53 C X d2_52 rfl ?_
      refine s_sipush 56 C X d2_53 kc_sipush_8202 ?_
      refine s_icmp_gt 61 59 C X d2_56 (fun c56 => ?_) (fun c56 => ?_)
      · have t_c56 : (8202 : Int) < (x0).toInt := Int32.lt_iff_toInt_lt.mp c56
        refine s_iloadN 62 C X d2_61 rfl ?_
        refine s_sipush 65 C X d2_62 kc_sipush_8232 ?_
        refine s_icmp_eq 89 68 C X d2_65 (fun c65 => ?_) (fun c65 => ?_)
        · have t_c65 : (x0).toInt = (8232 : Int) := congrArg Int32.toInt c65
          refine s_iconst 90 C X d2_89 kc_iconst_1 ?_
          refine s_nreturn C X d2_90 rfl (by simp) rfl ?_
          exact ⟨Or.inl ⟨rfl, by unfold blankP; omega⟩, rfl⟩
        have t_c65 : ¬ ((x0).toInt = (8232 : Int)) := fun q => c65 (Int32.toInt_inj.mp q)
        refine s_iloadN 69 C X d2_68 rfl ?_
        refine s_sipush 72 C X d2_69 kc_sipush_8233 ?_
        refine s_icmp_eq 89 75 C X d2_72 (fun c72 => ?_) (fun c72 => ?_)
        · have t_c72 : (x0).toInt = (8233 : Int) := congrArg Int32.toInt c72
          refine s_iconst 90 C X d2_89 kc_iconst_1 ?_
          refine s_nreturn C X d2_90 rfl (by simp) rfl ?_
          exact ⟨Or.inl ⟨rfl, by unfold blankP; omega⟩, rfl⟩
        have t_c72 : ¬ ((x0).toInt = (8233 : Int)) := fun q => c72 (Int32.toInt_inj.mp q)
        refine s_iloadN 76 C X d2_75 rfl ?_
        refine s_sipush 79 C X d2_76 kc_sipush_8239 ?_
        refine s_icmp_eq 89 82 C X d2_79 (fun c79 => ?_) (fun c79 => ?_)
        · have t_c79 : (x0).toInt = (8239 : Int) := congrArg Int32.toInt c79
          refine s_iconst 90 C X d2_89 kc_iconst_1 ?_
          refine s_nreturn C X d2_90 rfl (by simp) rfl ?_
          exact ⟨Or.inl ⟨rfl, by unfold blankP; omega⟩, rfl⟩
        have t_c79 : ¬ ((x0).toInt = (8239 : Int)) := fun q => c79 (Int32.toInt_inj.mp q)
        refine s_iloadN 83 C X d2_82 rfl ?_
        refine s_sipush 86 C X d2_83 kc_sipush_8287 ?_
        refine s_icmp_ne 91 89 C X d2_86 (fun c86 => ?_) (fun c86 => ?_)
        · have t_c86 : ¬ ((x0).toInt = (8287 : Int)) := fun q => c86 (Int32.toInt_inj.mp q)
          refine s_iloadN 92 C X d2_91 rfl ?_
          refine s_sipush 95 C X d2_92 kc_sipush_12288 ?_
          refine s_icmp_eq 104 98 C X d2_95 (fun c95 => ?_) (fun c95 => ?_)
          · have t_c95 : (x0).toInt = (12288 : Int) := congrArg Int32.toInt c95
            refine s_iconst 105 C X d2_104 kc_iconst_1 ?_
            refine s_nreturn C X d2_105 rfl (by simp) rfl ?_
            exact ⟨Or.inl ⟨rfl, by unfold blankP; omega⟩, rfl⟩
          have t_c95 : ¬ ((x0).toInt = (12288 : Int)) := fun q => c95 (Int32.toInt_inj.mp q)
          refine s_iloadN 99 C X d2_98 rfl ?_
          refine s_ldcInt 101 C X d2_99 (List.mem_of_getElem? (i := 8) rfl) ?_
          refine s_icmp_ne 106 104 C X d2_101 (fun c101 => ?_) (fun c101 => ?_)
          · have t_c101 : ¬ ((x0).toInt = (65279 : Int)) := fun q => c101 (Int32.toInt_inj.mp q)
            refine s_iconst 107 C X d2_106 kc_iconst_0 ?_
            refine s_nreturn C X d2_107 rfl (by simp) rfl ?_
            exact ⟨Or.inr ⟨rfl, by unfold blankP; omega⟩, rfl⟩
          have t_c101 : (x0).toInt = (65279 : Int) := congrArg Int32.toInt c101
          refine s_iconst 105 C X d2_104 kc_iconst_1 ?_
          refine s_nreturn C X d2_105 rfl (by simp) rfl ?_
          exact ⟨Or.inl ⟨rfl, by unfold blankP; omega⟩, rfl⟩
        have t_c86 : (x0).toInt = (8287 : Int) := congrArg Int32.toInt c86
        refine s_iconst 90 C X d2_89 kc_iconst_1 ?_
        refine s_nreturn C X d2_90 rfl (by simp) rfl ?_
        exact ⟨Or.inl ⟨rfl, by unfold blankP; omega⟩, rfl⟩
      have t_c56 : ¬ ((8202 : Int) < (x0).toInt) := fun q => c56 (Int32.lt_iff_toInt_lt.mpr q)
      refine s_iconst 60 C X d2_59 kc_iconst_1 ?_
      refine s_nreturn C X d2_60 rfl (by simp) rfl ?_
      exact ⟨Or.inl ⟨rfl, by unfold blankP; omega⟩, rfl⟩
    have t_c40 : (x0).toInt = (5760 : Int) := congrArg Int32.toInt c40
    refine s_iconst 44 C X d2_43 kc_iconst_1 ?_
    refine s_nreturn C X d2_44 rfl (by simp) rfl ?_
    exact ⟨Or.inl ⟨rfl, by unfold blankP; omega⟩, rfl⟩
  have t_c5 : ¬ ((x0).toInt < (9 : Int)) := fun q => c5 (Int32.lt_iff_toInt_lt.mpr q)
  refine s_iloadN 9 C X d2_8 rfl ?_
  refine s_bipush 11 C X d2_9 kc_bipush_13 ?_
  refine s_icmp_gt 16 14 C X d2_11 (fun c11 => ?_) (fun c11 => ?_)
  · have t_c11 : (13 : Int) < (x0).toInt := Int32.lt_iff_toInt_lt.mp c11
    refine s_iloadN 17 C X d2_16 rfl ?_
    refine s_bipush 19 C X d2_17 kc_bipush_32 ?_
    refine s_icmp_eq 43 22 C X d2_19 (fun c19 => ?_) (fun c19 => ?_)
    · have t_c19 : (x0).toInt = (32 : Int) := congrArg Int32.toInt c19
      refine s_iconst 44 C X d2_43 kc_iconst_1 ?_
      refine s_nreturn C X d2_44 rfl (by simp) rfl ?_
      exact ⟨Or.inl ⟨rfl, by unfold blankP; omega⟩, rfl⟩
    have t_c19 : ¬ ((x0).toInt = (32 : Int)) := fun q => c19 (Int32.toInt_inj.mp q)
    refine s_iloadN 23 C X d2_22 rfl ?_
    refine s_sipush 26 C X d2_23 kc_sipush_133 ?_
    refine s_icmp_eq 43 29 C X d2_26 (fun c26 => ?_) (fun c26 => ?_)
    · have t_c26 : (x0).toInt = (133 : Int) := congrArg Int32.toInt c26
      refine s_iconst 44 C X d2_43 kc_iconst_1 ?_
      refine s_nreturn C X d2_44 rfl (by simp) rfl ?_
      exact ⟨Or.inl ⟨rfl, by unfold blankP; omega⟩, rfl⟩
    have t_c26 : ¬ ((x0).toInt = (133 : Int)) := fun q => c26 (Int32.toInt_inj.mp q)
    refine s_iloadN 30 C X d2_29 rfl ?_
    refine s_sipush 33 C X d2_30 kc_sipush_160 ?_
    refine s_icmp_eq 43 36 C X d2_33 (fun c33 => ?_) (fun c33 => ?_)
    · have t_c33 : (x0).toInt = (160 : Int) := congrArg Int32.toInt c33
      refine s_iconst 44 C X d2_43 kc_iconst_1 ?_
      refine s_nreturn C X d2_44 rfl (by simp) rfl ?_
      exact ⟨Or.inl ⟨rfl, by unfold blankP; omega⟩, rfl⟩
    have t_c33 : ¬ ((x0).toInt = (160 : Int)) := fun q => c33 (Int32.toInt_inj.mp q)
    refine s_iloadN 37 C X d2_36 rfl ?_
    refine s_sipush 40 C X d2_37 kc_sipush_5760 ?_
    refine s_icmp_ne 45 43 C X d2_40 (fun c40 => ?_) (fun c40 => ?_)
    · have t_c40 : ¬ ((x0).toInt = (5760 : Int)) := fun q => c40 (Int32.toInt_inj.mp q)
      refine s_iloadN 46 C X d2_45 rfl ?_
      refine s_sipush 49 C X d2_46 kc_sipush_8192 ?_
      refine s_icmp_lt 61 52 C X d2_49 (fun c49 => ?_) (fun c49 => ?_)
      · have t_c49 : (x0).toInt < (8192 : Int) := Int32.lt_iff_toInt_lt.mp c49
        refine s_iloadN 62 C X d2_61 rfl ?_
        refine s_sipush 65 C X d2_62 kc_sipush_8232 ?_
        refine s_icmp_eq 89 68 C X d2_65 (fun c65 => ?_) (fun c65 => ?_)
        · have t_c65 : (x0).toInt = (8232 : Int) := congrArg Int32.toInt c65
          refine s_iconst 90 C X d2_89 kc_iconst_1 ?_
          refine s_nreturn C X d2_90 rfl (by simp) rfl ?_
          exact ⟨Or.inl ⟨rfl, by unfold blankP; omega⟩, rfl⟩
        have t_c65 : ¬ ((x0).toInt = (8232 : Int)) := fun q => c65 (Int32.toInt_inj.mp q)
        refine s_iloadN 69 C X d2_68 rfl ?_
        refine s_sipush 72 C X d2_69 kc_sipush_8233 ?_
        refine s_icmp_eq 89 75 C X d2_72 (fun c72 => ?_) (fun c72 => ?_)
        · have t_c72 : (x0).toInt = (8233 : Int) := congrArg Int32.toInt c72
          refine s_iconst 90 C X d2_89 kc_iconst_1 ?_
          refine s_nreturn C X d2_90 rfl (by simp) rfl ?_
          exact ⟨Or.inl ⟨rfl, by unfold blankP; omega⟩, rfl⟩
        have t_c72 : ¬ ((x0).toInt = (8233 : Int)) := fun q => c72 (Int32.toInt_inj.mp q)
        refine s_iloadN 76 C X d2_75 rfl ?_
        refine s_sipush 79 C X d2_76 kc_sipush_8239 ?_
        refine s_icmp_eq 89 82 C X d2_79 (fun c79 => ?_) (fun c79 => ?_)
        · have t_c79 : (x0).toInt = (8239 : Int) := congrArg Int32.toInt c79
          refine s_iconst 90 C X d2_89 kc_iconst_1 ?_
          refine s_nreturn C X d2_90 rfl (by simp) rfl ?_
          exact ⟨Or.inl ⟨rfl, by unfold blankP; omega⟩, rfl⟩
        have t_c79 : ¬ ((x0).toInt = (8239 : Int)) := fun q => c79 (Int32.toInt_inj.mp q)
        refine s_iloadN 83 C X d2_82 rfl ?_
        refine s_sipush 86 C X d2_83 kc_sipush_8287 ?_
        refine s_icmp_ne 91 89 C X d2_86 (fun c86 => ?_) (fun c86 => ?_)
        · have t_c86 : ¬ ((x0).toInt = (8287 : Int)) := fun q => c86 (Int32.toInt_inj.mp q)
          refine s_iloadN 92 C X d2_91 rfl ?_
          refine s_sipush 95 C X d2_92 kc_sipush_12288 ?_
          refine s_icmp_eq 104 98 C X d2_95 (fun c95 => ?_) (fun c95 => ?_)
          · have t_c95 : (x0).toInt = (12288 : Int) := congrArg Int32.toInt c95
            refine s_iconst 105 C X d2_104 kc_iconst_1 ?_
            refine s_nreturn C X d2_105 rfl (by simp) rfl ?_
            exact ⟨Or.inl ⟨rfl, by unfold blankP; omega⟩, rfl⟩
          have t_c95 : ¬ ((x0).toInt = (12288 : Int)) := fun q => c95 (Int32.toInt_inj.mp q)
          refine s_iloadN 99 C X d2_98 rfl ?_
          refine s_ldcInt 101 C X d2_99 (List.mem_of_getElem? (i := 8) rfl) ?_
          refine s_icmp_ne 106 104 C X d2_101 (fun c101 => ?_) (fun c101 => ?_)
          · have t_c101 : ¬ ((x0).toInt = (65279 : Int)) := fun q => c101 (Int32.toInt_inj.mp q)
            refine s_iconst 107 C X d2_106 kc_iconst_0 ?_
            refine s_nreturn C X d2_107 rfl (by simp) rfl ?_
            exact ⟨Or.inr ⟨rfl, by unfold blankP; omega⟩, rfl⟩
          have t_c101 : (x0).toInt = (65279 : Int) := congrArg Int32.toInt c101
          refine s_iconst 105 C X d2_104 kc_iconst_1 ?_
          refine s_nreturn C X d2_105 rfl (by simp) rfl ?_
          exact ⟨Or.inl ⟨rfl, by unfold blankP; omega⟩, rfl⟩
        have t_c86 : (x0).toInt = (8287 : Int) := congrArg Int32.toInt c86
        refine s_iconst 90 C X d2_89 kc_iconst_1 ?_
        refine s_nreturn C X d2_90 rfl (by simp) rfl ?_
        exact ⟨Or.inl ⟨rfl, by unfold blankP; omega⟩, rfl⟩
      have t_c49 : ¬ ((x0).toInt < (8192 : Int)) := fun q => c49 (Int32.lt_iff_toInt_lt.mpr q)
      refine s_iloadN 53 C X d2_52 rfl ?_
      refine s_sipush 56 C X d2_53 kc_sipush_8202 ?_
      refine s_icmp_gt 61 59 C X d2_56 (fun c56 => ?_) (fun c56 => ?_)
      · have t_c56 : (8202 : Int) < (x0).toInt := Int32.lt_iff_toInt_lt.mp c56
        refine s_iloadN 62 C X d2_61 rfl ?_
        refine s_sipush 65 C X d2_62 kc_sipush_8232 ?_
        refine s_icmp_eq 89 68 C X d2_65 (fun c65 => ?_) (fun c65 => ?_)
        · have t_c65 : (x0).toInt = (8232 : Int) := congrArg Int32.toInt c65
          refine s_iconst 90 C X d2_89 kc_iconst_1 ?_
          refine s_nreturn C X d2_90 rfl (by simp) rfl ?_
          exact ⟨Or.inl ⟨rfl, by unfold blankP; omega⟩, rfl⟩
        have t_c65 : ¬ ((x0).toInt = (8232 : Int)) := fun q => c65 (Int32.toInt_inj.mp q)
        refine s_iloadN 69 C X d2_68 rfl ?_
        refine s_sipush 72 C X d2_69 kc_sipush_8233 ?_
        refine s_icmp_eq 89 75 C X d2_72 (fun c72 => ?_) (fun c72 => ?_)
        · have t_c72 : (x0).toInt = (8233 : Int) := congrArg Int32.toInt c72
          refine s_iconst 90 C X d2_89 kc_iconst_1 ?_
          refine s_nreturn C X d2_90 rfl (by simp) rfl ?_
          exact ⟨Or.inl ⟨rfl, by unfold blankP; omega⟩, rfl⟩
        have t_c72 : ¬ ((x0).toInt = (8233 : Int)) := fun q => c72 (Int32.toInt_inj.mp q)
        refine s_iloadN 76 C X d2_75 rfl ?_
        refine s_sipush 79 C X d2_76 kc_sipush_8239 ?_
        refine s_icmp_eq 89 82 C X d2_79 (fun c79 => ?_) (fun c79 => ?_)
        · have t_c79 : (x0).toInt = (8239 : Int) := congrArg Int32.toInt c79
          refine s_iconst 90 C X d2_89 kc_iconst_1 ?_
          refine s_nreturn C X d2_90 rfl (by simp) rfl ?_
          exact ⟨Or.inl ⟨rfl, by unfold blankP; omega⟩, rfl⟩
        have t_c79 : ¬ ((x0).toInt = (8239 : Int)) := fun q => c79 (Int32.toInt_inj.mp q)
        refine s_iloadN 83 C X d2_82 rfl ?_
        refine s_sipush 86 C X d2_83 kc_sipush_8287 ?_
        refine s_icmp_ne 91 89 C X d2_86 (fun c86 => ?_) (fun c86 => ?_)
        · have t_c86 : ¬ ((x0).toInt = (8287 : Int)) := fun q => c86 (Int32.toInt_inj.mp q)
          refine s_iloadN 92 C X d2_91 rfl ?_
          refine s_sipush 95 C X d2_92 kc_sipush_12288 ?_
          refine s_icmp_eq 104 98 C X d2_95 (fun c95 => ?_) (fun c95 => ?_)
          · have t_c95 : (x0).toInt = (12288 : Int) := congrArg Int32.toInt c95
            refine s_iconst 105 C X d2_104 kc_iconst_1 ?_
            refine s_nreturn C X d2_105 rfl (by simp) rfl ?_
            exact ⟨Or.inl ⟨rfl, by unfold blankP; omega⟩, rfl⟩
          have t_c95 : ¬ ((x0).toInt = (12288 : Int)) := fun q => c95 (Int32.toInt_inj.mp q)
          refine s_iloadN 99 C X d2_98 rfl ?_
          refine s_ldcInt 101 C X d2_99 (List.mem_of_getElem? (i := 8) rfl) ?_
          refine s_icmp_ne 106 104 C X d2_101 (fun c101 => ?_) (fun c101 => ?_)
          · have t_c101 : ¬ ((x0).toInt = (65279 : Int)) := fun q => c101 (Int32.toInt_inj.mp q)
            refine s_iconst 107 C X d2_106 kc_iconst_0 ?_
            refine s_nreturn C X d2_107 rfl (by simp) rfl ?_
            exact ⟨Or.inr ⟨rfl, by unfold blankP; omega⟩, rfl⟩
          have t_c101 : (x0).toInt = (65279 : Int) := congrArg Int32.toInt c101
          refine s_iconst 105 C X d2_104 kc_iconst_1 ?_
          refine s_nreturn C X d2_105 rfl (by simp) rfl ?_
          exact ⟨Or.inl ⟨rfl, by unfold blankP; omega⟩, rfl⟩
        have t_c86 : (x0).toInt = (8287 : Int) := congrArg Int32.toInt c86
        refine s_iconst 90 C X d2_89 kc_iconst_1 ?_
        refine s_nreturn C X d2_90 rfl (by simp) rfl ?_
        exact ⟨Or.inl ⟨rfl, by unfold blankP; omega⟩, rfl⟩
      have t_c56 : ¬ ((8202 : Int) < (x0).toInt) := fun q => c56 (Int32.lt_iff_toInt_lt.mpr q)
      refine s_iconst 60 C X d2_59 kc_iconst_1 ?_
      refine s_nreturn C X d2_60 rfl (by simp) rfl ?_
      exact ⟨Or.inl ⟨rfl, by unfold blankP; omega⟩, rfl⟩
    have t_c40 : (x0).toInt = (5760 : Int) := congrArg Int32.toInt c40
    refine s_iconst 44 C X d2_43 kc_iconst_1 ?_
    refine s_nreturn C X d2_44 rfl (by simp) rfl ?_
    exact ⟨Or.inl ⟨rfl, by unfold blankP; omega⟩, rfl⟩
  have t_c11 : ¬ ((13 : Int) < (x0).toInt) := fun q => c11 (Int32.lt_iff_toInt_lt.mpr q)
  refine s_iconst 15 C X d2_14 kc_iconst_1 ?_
  refine s_nreturn C X d2_15 rfl (by simp) rfl ?_
  exact ⟨Or.inl ⟨rfl, by unfold blankP; omega⟩, rfl⟩
set_option maxRecDepth 65536 in
set_option maxHeartbeats 40000000 in
theorem rm0 (l : Launch) (Z : State) (a0 : Array Value) (hw : ∀ d ∈ tables_1, d.before a0 Z = true) (x0 : Int32) (h0 : Heap) (n0 : Nat) (Z0 : n0 ≤ h0.size)  :
    Met l Z x code maxLocals ret room_1 tables_1 #[(.int x0)] h0 n0 (fun v h => v = some (.int 1)) := by
  refine Met.mk (tabs := tables_1) (a0 := a0) (ls0 := #[.val (.int x0), .unset]) (plainFor_of_name pn_com_example_tinsel_tally_tinseltally_BlanksIsBlankPinLaw) hw Z0 (fun m => by first | (simp [entryFrame, mkF, argsToLocals, Value.category, maxLocals]; done) | rfl) ?_
  intro p e s m below meth c T C X
  refine s_iloadN 1 C X at_0 rfl ?_
  refine s_i2c 2 C X at_1 ?_
  refine s_istoreN 3 C X (l' := #[.val (.int x0), .val (.int (x0).toUInt32.toUInt16.toUInt32.toInt32)]) at_2 rfl ?_
  refine s_iloadN 4 C X at_3 rfl ?_
  refine s_callS 7 [(.int (x0).toUInt32.toUInt16.toUInt32.toInt32)] [] 0 C X at_4 (List.mem_of_getElem? (i := 0) rfl) (List.mem_of_getElem? (i := 1) rfl) (List.mem_of_getElem? (i := 2) rfl) (List.mem_of_getElem? (i := 3) rfl) (rm_isBlank l Z a0 hw ((x0).toUInt32.toUInt16.toUInt32.toInt32) _ n0 X.sz) (lenOf pd__C_Z rfl) rfl rfl rfl (fun T v h0 X q => ?_)
  obtain ⟨⟨rfl, b_isBlank⟩ | ⟨rfl, b_isBlank⟩, hE⟩ := q
  · rw [hE] at X
    refine Run.cast (st' := [(.int (1 : Int32))]) rfl ?_
    refine s_iloadN 8 C X at_7 rfl ?_
    refine s_callS 11 [(.int (x0).toUInt32.toUInt16.toUInt32.toInt32)] [(.int (1 : Int32))] 1 C X at_8 (List.mem_of_getElem? (i := 4) rfl) (List.mem_of_getElem? (i := 5) rfl) (List.mem_of_getElem? (i := 6) rfl) (List.mem_of_getElem? (i := 7) rfl) (rm_expected l Z a0 hw ((x0).toUInt32.toUInt16.toUInt32.toInt32) _ n0 X.sz) (lenOf pd__C_Z rfl) rfl rfl rfl (fun T v h1 X q => ?_)
    obtain ⟨⟨rfl, b_expected⟩ | ⟨rfl, b_expected⟩, hE⟩ := q
    · rw [hE] at X
      refine Run.cast (st' := [(.int (1 : Int32)), (.int (1 : Int32))]) rfl ?_
      refine s_icmp_ne 18 14 C X at_11 (fun c => absurd (by decide : (1 : Int32) = (1 : Int32)) c) (fun _ => ?_)
      refine s_iconst 15 C X at_14 kc_iconst_1 ?_
      refine s_goto 19 C X at_15 ?_
      refine s_nreturn C X at_19 rfl (by simp) rfl ?_
      rfl
    · rw [hE] at X
      refine Run.cast (st' := [(.int (0 : Int32)), (.int (1 : Int32))]) rfl ?_
      refine s_icmp_ne 18 14 C X at_11 (fun _ => ?_) (fun c => absurd c (by decide))
      refine s_iconst 19 C X at_18 kc_iconst_0 ?_
      refine s_nreturn C X at_19 rfl (by simp) rfl ?_
      exact absurd b_isBlank b_expected
  · rw [hE] at X
    refine Run.cast (st' := [(.int (0 : Int32))]) rfl ?_
    refine s_iloadN 8 C X at_7 rfl ?_
    refine s_callS 11 [(.int (x0).toUInt32.toUInt16.toUInt32.toInt32)] [(.int (0 : Int32))] 1 C X at_8 (List.mem_of_getElem? (i := 4) rfl) (List.mem_of_getElem? (i := 5) rfl) (List.mem_of_getElem? (i := 6) rfl) (List.mem_of_getElem? (i := 7) rfl) (rm_expected l Z a0 hw ((x0).toUInt32.toUInt16.toUInt32.toInt32) _ n0 X.sz) (lenOf pd__C_Z rfl) rfl rfl rfl (fun T v h2 X q => ?_)
    obtain ⟨⟨rfl, b_expected⟩ | ⟨rfl, b_expected⟩, hE⟩ := q
    · rw [hE] at X
      refine Run.cast (st' := [(.int (1 : Int32)), (.int (0 : Int32))]) rfl ?_
      refine s_icmp_ne 18 14 C X at_11 (fun _ => ?_) (fun c => absurd c (by decide))
      refine s_iconst 19 C X at_18 kc_iconst_0 ?_
      refine s_nreturn C X at_19 rfl (by simp) rfl ?_
      exact absurd b_expected b_isBlank
    · rw [hE] at X
      refine Run.cast (st' := [(.int (0 : Int32)), (.int (0 : Int32))]) rfl ?_
      refine s_icmp_ne 18 14 C X at_11 (fun c => absurd (by decide : (0 : Int32) = (0 : Int32)) c) (fun _ => ?_)
      refine s_iconst 15 C X at_14 kc_iconst_1 ?_
      refine s_goto 19 C X at_15 ?_
      refine s_nreturn C X at_19 rfl (by simp) rfl ?_
      rfl
set_option maxRecDepth 65536 in
set_option maxHeartbeats 40000000 in
theorem comes_1 {Post : Tables → Env → Array Value → State → Outcome → State → Prop} (hpost : ∀ tb e args s v u, (limb_1_1.after args s (.returned v) u = true ∧ limb_1_2.after args s (.returned v) u = true ∧ True) → FrameEnd s (.returned v) u (Jvm.fieldLocs frame_1_writes args s ++ Jvm.arrayLocs frame_1_arrays args s ++ Jvm.staticLocs frame_1_statics s) 0 0 → Post tb e args s (.returned v) u) :
    ArmFor flags0 classFile x code maxLocals ret World_1 tables_1 room_1 Calls_1 rest_1 Pre_1 Post := by
  intro l hfl _ _ p e ha hc hk s m args below hf hA hF happ hP
  obtain ⟨hcalls, hrest, hpre⟩ := hP
  obtain ⟨-, -, -, hnamed, -, -, -, hat⟩ := (Spec.applies_iff hf).mp happ
  obtain ⟨hg, hn⟩ := and_e (Cond.before_iff.mp (show (Jvm.Cond.and given_1 narrow_1).before args s = true from hpre))
  obtain ⟨g0, g1⟩ := and_e hg
  obtain ⟨w0, rfl⟩ : ∃ w0 : Value, args = #[w0] := by
    have hs : args.size = 1 := by simpa [Cond.value, given_1] using g0
    obtain ⟨L⟩ := args
    match L, hs with
    | [w0], _ => exact ⟨w0, rfl⟩
  have hw := fun d (hd : d ∈ tables_1) => atoms_spec (ws := Jvm.Cond.code x code maxLocals ret :: tables_1) hat d (List.mem_cons_of_mem _ hd)
  have hfit : Fit s := fun {y c} hc i hi => by
    obtain ⟨ha, rfl⟩ := Array.getElem?_eq_some_iff.mp hc
    have q := List.all_eq_true.mp ((Array.all_eq_true_iff_forall_mem.mp hF) _ (Array.getElem_mem ha)) i (List.mem_range.mpr hi)
    simpa [Array.getElem?_eq_getElem hi] using q
  obtain ⟨i0, e0⟩ := is_v g1
  obtain rfl : w0 = (.int i0) := Option.some.inj e0
  obtain ⟨n, o, h1, h2, h3, _, L, rfl, ⟨rfl, N⟩, hq⟩ := rm0 l s _ hw i0  s.heap s.heap.size (Nat.le_refl _)  p e ha hc hk s m _ below hf ((Spec.applies_iff_loose hf).mp happ).1 ⟨rfl, State.Warmed39.refl s, rfl⟩ trivial
  exact ⟨n, _, h1, h2, h3, hpost _ _ _ _ _ _ ⟨Cond.after_iff.mpr rfl, Cond.after_iff.mpr (eq_i res_at (Term.int_eval (1)) rfl), trivial⟩ ⟨hq.1, hq.2.1, (hq.2.2.sift fun y hy => Or.inr (N y hy)).mono (by decide) (by decide)⟩⟩
theorem main_1_1 : Claimed_1_1 := comes_1 fun _ _ _ _ _ _ h hF => ⟨h.1, hF⟩
theorem main_1_2 : Claimed_1_2 := comes_1 fun _ _ _ _ _ _ h hF => ⟨h.2.1, hF⟩
end Jvm.Pilot.@@N@@
namespace Jvm.Pilot.@@N@@
open Jvm Jvm.ClassFile Sem Op Lib Jvm.Free Jvm.Stand Jvm.Pilot.@@N@@.Jvm.D
/-! MADE BY PROGRAM (witnessworld.py) out of the Statement's table words and the real class files: 9 classes; the members and pool entries that the words name. The judged class is class 1, her method 1. -/
namespace start1
open Jvm.ClassFile
def u (s : String) : CpInfo := .utf8 (stringToUtf16 s)
/-- a pool by its gaps: so many unusable entries, then the entry; so many at the end -/
def gap : Nat → List CpInfo → List CpInfo
  | 0, r => r
  | n + 1, r => .unusable :: gap n r
def poolList (es : List (Nat × CpInfo)) (last : Nat) : List CpInfo := es.foldr (fun e r => gap e.1 (e.2 :: r)) (gap last [])
def pool (es : List (Nat × CpInfo)) (last : Nat) : Array CpInfo := ⟨poolList es last⟩
def fileOf (pool : Array CpInfo) (this : Nat) (attrs : Array Attribute := #[]) (ms : Array MethodInfo := #[]) (fl : Nat := 33) (sup : Nat := 0) (ifs : Array Nat := #[]) (fds : Array FieldInfo := #[]) : ClassFile where
  minorVersion := 0
  majorVersion := 65
  constantPool := pool
  accessFlags := fl
  thisClass := this
  superClass := sup
  interfaces := ifs
  fields := fds
  methods := ms
  attributes := attrs
def plain (name : String) (sup : Option ClassId) : Class where
  name := name
  kind := .ordinary
  loader := none
  accessFlags := 33
  super := sup
  interfaces := #[]
  cf := none
  fields := #[]
  methods := #[]
  instanceTypes := #[]
  staticTypes := #[]
  resolved := #[]
  callSites := []
  init := .initialized
  statics := none
  mirror := none

def pool0 : Array CpInfo := pool [(5, u "<init>"), (0, u "()V"), (1, .class_ 10), (1, u "java/lang/Object")] 113

def k0m0 : Method := { name := "<init>", desc := "()V", sig := { parameters := [], returnType := none }, accessFlags := 1, code := none }
/-- java/lang/Object -/
def k0 : Class := { plain "java/lang/Object" none with
  accessFlags := 33
  interfaces := #[]
  cf := some (fileOf pool0 8 #[] #[{ accessFlags := 1, nameIndex := 5, descriptorIndex := 6, attributes := #[] }] 33 0 #[] #[])
  fields := #[]
  methods := #[k0m0]
  instanceTypes := #[]
  staticTypes := #[]
  resolved := Array.replicate 124 none
  statics := none }

def pool1 : Array CpInfo := pool [(2, .class_ 4), (1, u "java/lang/Object"), (0, u "<init>"), (0, u "()V"), (0, .methodref 8 9), (0, .class_ 10), (0, .nameAndType 11 12), (0, u "com/example/tinsel_tally/tinseltally/Blanks"), (0, u "isBlank"), (0, u "(C)Z"), (0, .methodref 14 15), (0, .class_ 16), (0, .nameAndType 17 12), (0, u "com/example/tinsel_tally/tinseltally/BlanksIsBlankPinLaw"), (0, u "expected"), (0, .integer 65279), (2, u "law"), (0, u "(I)Z")] 3

def k1m0 : Method := { name := "<init>", desc := "()V", sig := { parameters := [], returnType := none }, accessFlags := 2, code := none }
def k1c1 : Code := { maxStack := 2, maxLocals := 2, code := code, exceptionTable := #[], attributes := #[] }
def k1m1 : Method := { name := "law", desc := "(I)Z", sig := { parameters := [.int], returnType := some .boolean }, accessFlags := 9, code := some k1c1 }
def k1c2 : Code := { maxStack := 2, maxLocals := 2, code := method_3_code, exceptionTable := #[], attributes := #[] }
def k1m2 : Method := { name := "expected", desc := "(C)Z", sig := { parameters := [.char], returnType := some .boolean }, accessFlags := 10, code := some k1c2 }
/-- com/example/tinsel_tally/tinseltally/BlanksIsBlankPinLaw -/
def k1 : Class := { plain "com/example/tinsel_tally/tinseltally/BlanksIsBlankPinLaw" (some 0) with
  accessFlags := 49
  interfaces := #[]
  cf := some (fileOf pool1 14 #[] #[{ accessFlags := 2, nameIndex := 5, descriptorIndex := 6, attributes := #[] }, { accessFlags := 9, nameIndex := 21, descriptorIndex := 22, attributes := #[] }, { accessFlags := 10, nameIndex := 17, descriptorIndex := 12, attributes := #[] }] 49 2 #[] #[])
  fields := #[]
  methods := #[k1m0, k1m1, k1m2]
  instanceTypes := #[]
  staticTypes := #[]
  resolved := Array.replicate 26 none
  statics := none }

def pool2 : Array CpInfo := pool [(2, .class_ 4), (1, u "java/lang/Object"), (0, u "<init>"), (0, u "()V"), (11, .class_ 20), (1, u "com/example/tinsel_tally/tinseltally/Blanks"), (0, u "isBlank"), (0, u "(C)Z"), (4, u "NEXT_LINE"), (0, u "C"), (2, u "BYTE_ORDER_MARK")] 8

def k2m0 : Method := { name := "<init>", desc := "()V", sig := { parameters := [], returnType := none }, accessFlags := 2, code := none }
def k2c1 : Code := { maxStack := 1, maxLocals := 1, code := prog_3_method_3_code, exceptionTable := #[], attributes := #[] }
def k2m1 : Method := { name := "isBlank", desc := "(C)Z", sig := { parameters := [.char], returnType := some .boolean }, accessFlags := 8, code := some k2c1 }
/-- com/example/tinsel_tally/tinseltally/Blanks -/
def k2 : Class := { plain "com/example/tinsel_tally/tinseltally/Blanks" (some 0) with
  accessFlags := 49
  interfaces := #[]
  cf := some (fileOf pool2 18 #[] #[{ accessFlags := 2, nameIndex := 5, descriptorIndex := 6, attributes := #[] }, { accessFlags := 8, nameIndex := 21, descriptorIndex := 22, attributes := #[] }] 49 2 #[] #[{ accessFlags := 26, nameIndex := 27, descriptorIndex := 28, attributes := #[] }, { accessFlags := 26, nameIndex := 31, descriptorIndex := 28, attributes := #[] }])
  fields := #[{ name := "NEXT_LINE", type := .char, accessFlags := 26, slot := 0, constantValue := 0 }, { name := "BYTE_ORDER_MARK", type := .char, accessFlags := 26, slot := 1, constantValue := 0 }]
  methods := #[k2m0, k2m1]
  instanceTypes := #[]
  staticTypes := #[.char, .char]
  resolved := Array.replicate 40 none
  statics := none }

def pool3 : Array CpInfo := pool [(1, u "java/lang/Cloneable"), (0, .class_ 1), (0, u "java/lang/Object"), (0, .class_ 3)] 3

/-- java/lang/Cloneable -/
def k3 : Class := { plain "java/lang/Cloneable" (some 0) with
  accessFlags := 1537
  interfaces := #[]
  cf := some (fileOf pool3 2 #[] #[] 1537 4 #[] #[])
  fields := #[]
  methods := #[]
  instanceTypes := #[]
  staticTypes := #[]
  resolved := Array.replicate 8 none
  statics := none }

def pool4 : Array CpInfo := pool [(1, u "java/io/Serializable"), (0, .class_ 1), (0, u "java/lang/Object"), (0, .class_ 3)] 3

/-- java/io/Serializable -/
def k4 : Class := { plain "java/io/Serializable" (some 0) with
  accessFlags := 1537
  interfaces := #[]
  cf := some (fileOf pool4 2 #[] #[] 1537 4 #[] #[])
  fields := #[]
  methods := #[]
  instanceTypes := #[]
  staticTypes := #[]
  resolved := Array.replicate 8 none
  statics := none }

/-- the primitive byte -/
def k5 : Class := { plain "byte" none with kind := .primitive 'B', accessFlags := 0x411 }
/-- [B -/
def k6 : Class := { plain "[B" (some 0) with kind := .array 5 .byte, interfaces := #[3, 4], accessFlags := 1041 }

/-- the primitive int -/
def k7 : Class := { plain "int" none with kind := .primitive 'I', accessFlags := 0x411 }
/-- [I -/
def k8 : Class := { plain "[I" (some 0) with kind := .array 7 .int, interfaces := #[3, 4], accessFlags := 1041 }

def heap : Heap := #[]
def classes : Array Class := #[k0, k1, k2, k3, k4, k5, k6, k7, k8]
def interned : List (Array UInt16 × Addr) := []
def slotsUsed : Nat := 0
def theMethod : MethodId := ⟨1, 1⟩
def args0 : Array Value := #[.int 5]
def aboutOver (below : List Frame) : State where
  vm := { classes := classes, interned := interned.toArray }
  heap := heap
  slotsUsed := slotsUsed
  threads := #[{ frames := .invoking theMethod args0 :: below }]
def below0 : List Frame := [.native { method := ⟨0, 0⟩, args := #[] }]
def about1 : State := aboutOver below0
def p0 : Program := .bare "" "" ""
def e0 : Env := launch0.env 0 0 0
theorem w_frames : about1.frames = Frame.invoking theMethod args0 :: below0 := rfl
set_option maxRecDepth 65536 in
theorem w_args : argsFit about1.vm theMethod args0 = true := by decide +kernel
set_option maxRecDepth 65536 in
theorem w_heap : heapFits about1 = true := by decide +kernel
set_option maxRecDepth 65536 in
theorem w_runnable : about1.curStatus? = some .runnable := by decide +kernel
set_option maxRecDepth 65536 in
theorem w_alone : about1.alone = true := by decide +kernel
set_option maxRecDepth 65536 in
theorem w_named : about1.methodNamed? x = some theMethod := by decide +kernel
set_option maxRecDepth 65536 in
theorem w_hears : about1.hears theMethod below0 = true := by decide +kernel
set_option maxRecDepth 65536 in
theorem w_ripe : about1.ripe theMethod args0 below0 = true := by decide +kernel
theorem w_running : about1.status = .running := rfl
set_option maxRecDepth 65536 in
theorem w_room : about1.hasRoom e0.platform room_1 = true :=
  launch0.hasRoom_least _ room_1 (by decide +kernel) (by decide +kernel) (by decide +kernel) (by decide +kernel) (by decide +kernel) (by decide +kernel)
theorem allAtoms_all (ts : List Jvm.Cond) (a : Array Jvm.Value) (st : Jvm.State) : (allAtoms ts).before a st = ts.all (fun c => c.before a st) := by
  induction ts with
  | nil => rfl
  | cons c t ih =>
    show (Jvm.Cond.and c (allAtoms t)).before a st = _
    rw [Jvm.Cond.before_and, ih, List.all_cons]
def words1 : List Jvm.Cond := Jvm.Cond.code x code maxLocals ret :: tables_1
/-- a 'code' word, met by the world's own term for the bytes: nothing is compared byte by byte -/
theorem code_word {y : MethodName} {bytes : ByteArray} {mx : Nat} {rt : Option FieldType} {a : Array Value} {s : State} {m : MethodId} {meth : Method} {c : Code} (h1 : s.methodNamed? y = some m) (h2 : s.vm.method? m = some meth) (h3 : meth.code = some c) (h4 : c.code = bytes)
    (h5 : (c.maxLocals == mx && c.exceptionTable.isEmpty && decide (c.maxStack ≤ mostOperands) && decide (meth.sig.returnType = rt) && !meth.locks && decide (parseMethodDescriptor y.desc = some meth.sig)) = true) : (Jvm.Cond.code y bytes mx rt).before a s = true := by
  simp only [Bool.and_eq_true, beq_iff_eq, Bool.not_eq_true', decide_eq_true_eq] at h5
  obtain ⟨⟨⟨⟨⟨g1, g2⟩, g3⟩, g4⟩, g5⟩, g6⟩ := h5
  simp [Cond.before, Cond.holds, Cond.value, h1, h2, h3, h4, g1, g2, g3, g4, g5, g6]
def isCode : Jvm.Cond → Bool
  | .code _ _ _ _ => true
  | _ => false
theorem all_split {L : List Jvm.Cond} {P : Jvm.Cond → Bool} (h1 : L.all (fun c => isCode c || P c) = true) (h2 : ∀ c ∈ L.filter isCode, P c = true) : L.all P = true := by
  refine List.all_eq_true.mpr fun c hc => ?_
  have h := List.all_eq_true.mp h1 c hc
  rcases Bool.eq_false_or_eq_true (isCode c) with hi | hi
  · exact h2 c (List.mem_filter.mpr ⟨hc, hi⟩)
  · simpa [hi] using h
set_option maxRecDepth 65536 in
theorem w_c0 : (Jvm.Cond.code x code maxLocals ret).before args0 about1 = true := code_word (m := ⟨1, 1⟩) (meth := k1m1) (c := k1c1) (by decide +kernel) rfl rfl rfl (by decide +kernel)
set_option maxRecDepth 65536 in
theorem w_c1 : (Jvm.Cond.code ({ cls := "com/example/tinsel_tally/tinseltally/Blanks", name := "isBlank", desc := "(C)Z" } : Jvm.MethodName) prog_3_method_3_code (1 : Nat) (Option.some Jvm.ClassFile.FieldType.boolean)).before args0 about1 = true := code_word (m := ⟨2, 1⟩) (meth := k2m1) (c := k2c1) (by decide +kernel) rfl rfl rfl (by decide +kernel)
set_option maxRecDepth 65536 in
theorem w_c2 : (Jvm.Cond.code ({ cls := "com/example/tinsel_tally/tinseltally/BlanksIsBlankPinLaw", name := "expected", desc := "(C)Z" } : Jvm.MethodName) method_3_code (2 : Nat) (Option.some Jvm.ClassFile.FieldType.boolean)).before args0 about1 = true := code_word (m := ⟨1, 2⟩) (meth := k1m2) (c := k1c2) (by decide +kernel) rfl rfl rfl (by decide +kernel)
def codes1 : List Jvm.Cond := [Jvm.Cond.code x code maxLocals ret, Jvm.Cond.code ({ cls := "com/example/tinsel_tally/tinseltally/Blanks", name := "isBlank", desc := "(C)Z" } : Jvm.MethodName) prog_3_method_3_code (1 : Nat) (Option.some Jvm.ClassFile.FieldType.boolean), Jvm.Cond.code ({ cls := "com/example/tinsel_tally/tinseltally/BlanksIsBlankPinLaw", name := "expected", desc := "(C)Z" } : Jvm.MethodName) method_3_code (2 : Nat) (Option.some Jvm.ClassFile.FieldType.boolean)]
set_option maxRecDepth 65536 in
theorem codes_eq : words1.filter isCode = codes1 := rfl
theorem w_codes : ∀ c ∈ words1.filter isCode, c.before args0 about1 = true := by
  rw [codes_eq]
  intro c hc
  simp only [codes1, List.mem_cons, List.not_mem_nil, or_false] at hc
  rcases hc with rfl | rfl | rfl
  · exact w_c0
  · exact w_c1
  · exact w_c2
set_option maxRecDepth 65536 in
theorem w_t1 : words1.all (fun c => isCode c || c.before args0 about1) = true := by decide +kernel
theorem w_tables : (allAtoms (Jvm.Cond.code x code maxLocals ret :: tables_1)).before args0 about1 = true := by
  rw [allAtoms_all]
  show words1.all (fun c => c.before args0 about1) = true
  refine all_split ?_ w_codes
  rw [w_t1]
set_option maxRecDepth 65536 in
theorem w_case : (Jvm.Cond.and given_1 narrow_1).before args0 about1 = true := by decide +kernel
theorem w_applies : (headSpec (Jvm.Cond.code x code maxLocals ret :: tables_1) room_1).applies x e0.platform about1 = true :=
  (Spec.applies_iff w_frames).mpr ⟨w_running, w_runnable, w_alone, w_named, w_hears, w_ripe, w_room, w_tables⟩
theorem atStart : AtStart classFile x code maxLocals ret World_1 tables_1 room_1 Calls_1 rest_1 Pre_1 launch0 p0 e0 about1 theMethod args0 below0 :=
  ⟨lists_1, trivial, launch0.admits_env _ _ _, launch0.least_env, fairChoices_fair.cas, fairChoices_fair.clock, w_frames, w_args, w_heap, w_applies, trivial, trivial, w_case⟩
end start1
theorem witness_1 : WitnessClaimed_1 := ⟨start1.p0, start1.e0, start1.about1, start1.theMethod, start1.args0, start1.below0, start1.atStart⟩
end Jvm.Pilot.@@N@@
