import JvmDerived
import JvmDerived.Pilot.@@N@@Statement
import JvmDerived.Pilot.@@N@@Code
set_option linter.unusedVariables false
set_option linter.unusedSimpArgs false
namespace Jvm.OwnK
open Jvm Sem ClassFile Op Lib Jvm.Stand Jvm.Free Jvm.LawKit Jvm.RoadKit
section A
variable {tabs : List Jvm.Cond} {a0 : Array Value} {Z : State} {own nm : String} {code : ByteArray} {ml : Nat} {ret : Option FieldType} {p : Program} {l : Launch} {e : Env} {R : Room} {s : State} {m : MethodId} {args : Array Value} {below : List Frame} {meth : Method} {c : Code} {n0 : Nat} {T : State} {h : Heap} {k n : Nat} {Q : Option Value → Heap → Prop} {G : Outcome → State → List Loc → Prop} {pc : Nat} {ls : Array Slot} {st : List Value}
/-- what stands fast through a method's walk -/
def Cx (tabs : List Jvm.Cond) (a0 : Array Value) (Z : State) (own nm : String) (code : ByteArray) (ml : Nat) (ret : Option FieldType) (p : Program) (s : State) (m : MethodId) (meth : Method) (c : Code) : Prop :=
  p.tables.exec = Jvm.exec ∧ Z.Warmed39 s.vm ∧ c.code = code ∧ c.maxLocals = ml ∧ s.vm.findClass own = some m.cls ∧ meth.sig.returnType = ret ∧ meth.locks = false ∧ meth.name = nm ∧ ∀ d ∈ tabs, d.before a0 Z = true
/-- where the walk stands: the heap h, k cells and n slots made so far, nothing below n0 written -/
def St (p : Program) (l : Launch) (e : Env) (R : Room) (s : State) (m : MethodId) (args : Array Value) (below : List Frame) (meth : Method) (c : Code) (n0 : Nat) (T : State) (h : Heap) (k n : Nat) : Prop :=
  ∃ locs, Stand p l e R s m args below meth c T locs k n ∧ T.heap = h ∧ Fr n0 locs ∧ n0 ≤ s.heap.size
/-- from this frame the method ends, and returns what Q says -/
def Run (p : Program) (e : Env) (below : List Frame) (n0 : Nat) (Q : Option Value → Heap → Prop) (G : Outcome → State → List Loc → Prop) (m : MethodId) (T : State) (pc : Nat) (ls : Array Slot) (st : List Value) : Prop :=
  ∃ s₂ o, Steps p.tables e below (T.setTop (mkF m pc ls st)) s₂ ∧ s₂.status = .running ∧ Ended s₂ below o ∧ ∃ v L, o = .returned v ∧ (Q v s₂.heap ∧ Fr n0 L) ∧ G o s₂ L
theorem Run.step {T' : State} {pc' : Nat} {ls' : Array Slot} {st' : List Value} (f : ∀ t, Steps p.tables e below (T'.setTop (mkF m pc' ls' st')) t → Steps p.tables e below (T.setTop (mkF m pc ls st)) t) (r : Run p e below n0 Q G m T' pc' ls' st') : Run p e below n0 Q G m T pc ls st := by
  obtain ⟨s₂, o, h1, h2⟩ := r
  exact ⟨s₂, o, f _ h1, h2⟩
theorem Run.steps {T' : State} {pc' : Nat} {ls' : Array Slot} {st' : List Value} (f : Steps p.tables e below (T.setTop (mkF m pc ls st)) (T'.setTop (mkF m pc' ls' st'))) (r : Run p e below n0 Q G m T' pc' ls' st') : Run p e below n0 Q G m T pc ls st := Run.step (fun _ q => f.trans q) r
theorem Run.cast {st' : List Value} (q : st = st') (r : Run p e below n0 Q G m T pc ls st') : Run p e below n0 Q G m T pc ls st := q ▸ r
theorem St.at' (X : St p l e R s m args below meth c n0 T h k n) : Jvm.At T m c below := by obtain ⟨_, X, -⟩ := X; exact X.here
theorem St.sz (X : St p l e R s m args below meth c n0 T h k n) : n0 ≤ h.size := by
  obtain ⟨_, X, rfl, -, q⟩ := X
  exact Nat.le_trans q X.same.2.1
theorem Cx.d {r : Except DecodeError (Instr × Nat)} (C : Cx tabs a0 Z own nm code ml ret p s m meth c) (q : decode code pc = r) : decode c.code pc = r := hb C.2.2.1 q
theorem Cx.w {d : Jvm.Cond} (C : Cx tabs a0 Z own nm code ml ret p s m meth c) (q : d ∈ tabs) : d.before a0 Z = true := C.2.2.2.2.2.2.2.2 d q
theorem s_iloadN (pc' : Nat) (C : Cx tabs a0 Z own nm code ml ret p s m meth c) (X : St p l e R s m args below meth c n0 T h k n) {i : Fin 4} {v : Int32} (hd : decode code pc = .ok (.iload_n i, 1)) (hl : ls[i.val]? = some (.val (.int v))) (r : Run p e below n0 Q G m T pc' ls (.int v :: st)) (hp : pc + 1 = pc' := by rfl) : Run p e below n0 Q G m T pc ls st := by
  subst hp
  exact Run.step (fun t q => XS.iloadN X.at' C.1 rfl (C.d hd) hl q) r
theorem s_iload (pc' : Nat) (C : Cx tabs a0 Z own nm code ml ret p s m meth c) (X : St p l e R s m args below meth c n0 T h k n) {i : Nat} {v : Int32} (hd : decode code pc = .ok (.iload i, 2)) (hl : ls[i]? = some (.val (.int v))) (r : Run p e below n0 Q G m T pc' ls (.int v :: st)) (hp : pc + 2 = pc' := by rfl) : Run p e below n0 Q G m T pc ls st := by
  subst hp
  exact Run.step (fun t q => XS.iload X.at' C.1 rfl (C.d hd) hl q) r
theorem s_aloadN (pc' : Nat) (C : Cx tabs a0 Z own nm code ml ret p s m meth c) (X : St p l e R s m args below meth c n0 T h k n) {i : Fin 4} {v : Value} (hd : decode code pc = .ok (.aload_n i, 1)) (hl : ls[i.val]? = some (.val v)) (hv : v.isRef = true) (r : Run p e below n0 Q G m T pc' ls (v :: st)) (hp : pc + 1 = pc' := by rfl) : Run p e below n0 Q G m T pc ls st := by
  subst hp
  exact Run.step (fun t q => XS.aloadN X.at' C.1 rfl (C.d hd) hl hv q) r
theorem s_aload (pc' : Nat) (C : Cx tabs a0 Z own nm code ml ret p s m meth c) (X : St p l e R s m args below meth c n0 T h k n) {i : Nat} {v : Value} (hd : decode code pc = .ok (.aload i, 2)) (hl : ls[i]? = some (.val v)) (hv : v.isRef = true) (r : Run p e below n0 Q G m T pc' ls (v :: st)) (hp : pc + 2 = pc' := by rfl) : Run p e below n0 Q G m T pc ls st := by
  subst hp
  exact Run.step (fun t q => XS.aload X.at' C.1 rfl (C.d hd) hl hv q) r
theorem s_istore (pc' : Nat) (C : Cx tabs a0 Z own nm code ml ret p s m meth c) (X : St p l e R s m args below meth c n0 T h k n) {i : Nat} {v : Int32} {l' : Array Slot} (hd : decode code pc = .ok (.istore i, 2)) (hl : storeLocals ls i (.int v) = some l') (r : Run p e below n0 Q G m T pc' l' st) (hp : pc + 2 = pc' := by rfl) : Run p e below n0 Q G m T pc ls (.int v :: st) := by
  subst hp
  exact Run.step (fun t q => XS.istore X.at' C.1 rfl (C.d hd) rfl hl q) r
theorem s_astoreN (pc' : Nat) (C : Cx tabs a0 Z own nm code ml ret p s m meth c) (X : St p l e R s m args below meth c n0 T h k n) {i : Fin 4} {v : Value} {l' : Array Slot} (hd : decode code pc = .ok (.astore_n i, 1)) (hv : v.isRef = true) (hl : storeLocals ls i.val v = some l') (r : Run p e below n0 Q G m T pc' l' st) (hp : pc + 1 = pc' := by rfl) : Run p e below n0 Q G m T pc ls (v :: st) := by
  subst hp
  exact Run.step (fun t q => XS.astoreN X.at' C.1 rfl (C.d hd) rfl hv hl q) r
theorem s_astore (pc' : Nat) (C : Cx tabs a0 Z own nm code ml ret p s m meth c) (X : St p l e R s m args below meth c n0 T h k n) {i : Nat} {v : Value} {l' : Array Slot} (hd : decode code pc = .ok (.astore i, 2)) (hv : v.isRef = true) (hl : storeLocals ls i v = some l') (r : Run p e below n0 Q G m T pc' l' st) (hp : pc + 2 = pc' := by rfl) : Run p e below n0 Q G m T pc ls (v :: st) := by
  subst hp
  exact Run.step (fun t q => XS.astore X.at' C.1 rfl (C.d hd) rfl hv hl q) r
theorem s_iconst (pc' : Nat) (C : Cx tabs a0 Z own nm code ml ret p s m meth c) (X : St p l e R s m args below meth c n0 T h k n) {i : Int} {z : Int32} (hd : decode code pc = .ok (.iconst i, 1)) (hz : Int32.ofInt i = z) (r : Run p e below n0 Q G m T pc' ls (.int z :: st)) (hp : pc + 1 = pc' := by rfl) : Run p e below n0 Q G m T pc ls st := by
  subst hp
  exact Run.step (fun t q => XS.iconst X.at' C.1 rfl (C.d hd) (by rw [hz]; exact q)) r
theorem s_aconstNull (pc' : Nat) (C : Cx tabs a0 Z own nm code ml ret p s m meth c) (X : St p l e R s m args below meth c n0 T h k n) (hd : decode code pc = .ok (.aconst_null, 1)) (r : Run p e below n0 Q G m T pc' ls (.null :: st)) (hp : pc + 1 = pc' := by rfl) : Run p e below n0 Q G m T pc ls st := by
  subst hp
  exact Run.step (fun t q => XS.aconstNull X.at' C.1 rfl (C.d hd) q) r
theorem s_dup (pc' : Nat) (C : Cx tabs a0 Z own nm code ml ret p s m meth c) (X : St p l e R s m args below meth c n0 T h k n) {v : Value} (hd : decode code pc = .ok (.dup, 1)) (hc : v.category = 1) (r : Run p e below n0 Q G m T pc' ls (v :: v :: st)) (hp : pc + 1 = pc' := by rfl) : Run p e below n0 Q G m T pc ls (v :: st) := by
  subst hp
  exact Run.step (fun t q => XS.dup X.at' C.1 rfl (C.d hd) rfl hc q) r
theorem s_dload (pc' : Nat) (C : Cx tabs a0 Z own nm code ml ret p s m meth c) (X : St p l e R s m args below meth c n0 T h k n) {i : Nat} {v : UInt64} (hd : decode code pc = .ok (.dload i, 2)) (hl : ls[i]? = some (.val (.double v))) (r : Run p e below n0 Q G m T pc' ls (.double v :: st)) (hp : pc + 2 = pc' := by rfl) : Run p e below n0 Q G m T pc ls st := by
  subst hp
  exact Run.step (fun t q => XS.dload X.at' C.1 rfl (C.d hd) hl q) r
theorem s_dconst0 (pc' : Nat) (C : Cx tabs a0 Z own nm code ml ret p s m meth c) (X : St p l e R s m args below meth c n0 T h k n) {z : UInt64} (hd : decode code pc = .ok (.dconst 0, 1)) (hz : FP.dconst0 = z) (r : Run p e below n0 Q G m T pc' ls (.double z :: st)) (hp : pc + 1 = pc' := by rfl) : Run p e below n0 Q G m T pc ls st := by
  subst hp
  exact Run.step (fun t q => XS.dconst0 X.at' C.1 rfl (C.d hd) hz q) r
theorem s_goto (pc' : Nat) (C : Cx tabs a0 Z own nm code ml ret p s m meth c) (X : St p l e R s m args below meth c n0 T h k n) {o : Int} (hd : decode code pc = .ok (.goto o, 3)) (r : Run p e below n0 Q G m T pc' ls st) (hp : 0 ≤ (pc : Int) + o ∧ ((pc : Int) + o).toNat = pc' := by decide) : Run p e below n0 Q G m T pc ls st := by
  exact Run.step (fun t q => XS.goto X.at' C.1 rfl rfl (C.d hd) hp.1 hp.2 q) r
theorem s_icmp_eq (pY pN : Nat) (C : Cx tabs a0 Z own nm code ml ret p s m meth c) (X : St p l e R s m args below meth c n0 T h k n) {x y : Int32} {o : Int} (hd : decode code pc = .ok (.if_icmp .eq o, 3)) (ry : x = y → Run p e below n0 Q G m T pY ls st) (rn : ¬ x = y → Run p e below n0 Q G m T pN ls st) (hp : 0 ≤ (pc : Int) + o ∧ ((pc : Int) + o).toNat = pY ∧ pc + 3 = pN := by decide) : Run p e below n0 Q G m T pc ls (.int y :: .int x :: st) := by
  by_cases g : x = y
  · exact Run.step (fun t q => XS.icmpYes X.at' C.1 rfl rfl (C.d hd) rfl (teq g).1 hp.1 hp.2.1 q) (ry g)
  · obtain rfl := hp.2.2
    exact Run.step (fun t q => XS.icmpNo X.at' C.1 rfl (C.d hd) rfl (feq g).1 q) (rn g)
theorem s_if_eq (pY pN : Nat) (C : Cx tabs a0 Z own nm code ml ret p s m meth c) (X : St p l e R s m args below meth c n0 T h k n) {x : Int32} {o : Int} (hd : decode code pc = .ok (.ifCond .eq o, 3)) (ry : x = (0 : Int32) → Run p e below n0 Q G m T pY ls st) (rn : ¬ x = (0 : Int32) → Run p e below n0 Q G m T pN ls st) (hp : 0 ≤ (pc : Int) + o ∧ ((pc : Int) + o).toNat = pY ∧ pc + 3 = pN := by decide) : Run p e below n0 Q G m T pc ls (.int x :: st) := by
  by_cases g : x = (0 : Int32)
  · exact Run.step (fun t q => XS.ifYes X.at' C.1 rfl rfl (C.d hd) rfl ((if0 _ _).trans (teq g).1) hp.1 hp.2.1 q) (ry g)
  · obtain rfl := hp.2.2
    exact Run.step (fun t q => XS.ifNo X.at' C.1 rfl (C.d hd) rfl ((if0 _ _).trans (feq g).1) q) (rn g)
theorem s_icmp_ne (pY pN : Nat) (C : Cx tabs a0 Z own nm code ml ret p s m meth c) (X : St p l e R s m args below meth c n0 T h k n) {x y : Int32} {o : Int} (hd : decode code pc = .ok (.if_icmp .ne o, 3)) (ry : ¬ x = y → Run p e below n0 Q G m T pY ls st) (rn : x = y → Run p e below n0 Q G m T pN ls st) (hp : 0 ≤ (pc : Int) + o ∧ ((pc : Int) + o).toNat = pY ∧ pc + 3 = pN := by decide) : Run p e below n0 Q G m T pc ls (.int y :: .int x :: st) := by
  by_cases g : x = y
  · obtain rfl := hp.2.2
    exact Run.step (fun t q => XS.icmpNo X.at' C.1 rfl (C.d hd) rfl (teq g).2 q) (rn g)
  · exact Run.step (fun t q => XS.icmpYes X.at' C.1 rfl rfl (C.d hd) rfl (feq g).2 hp.1 hp.2.1 q) (ry g)
theorem s_if_ne (pY pN : Nat) (C : Cx tabs a0 Z own nm code ml ret p s m meth c) (X : St p l e R s m args below meth c n0 T h k n) {x : Int32} {o : Int} (hd : decode code pc = .ok (.ifCond .ne o, 3)) (ry : ¬ x = (0 : Int32) → Run p e below n0 Q G m T pY ls st) (rn : x = (0 : Int32) → Run p e below n0 Q G m T pN ls st) (hp : 0 ≤ (pc : Int) + o ∧ ((pc : Int) + o).toNat = pY ∧ pc + 3 = pN := by decide) : Run p e below n0 Q G m T pc ls (.int x :: st) := by
  by_cases g : x = (0 : Int32)
  · obtain rfl := hp.2.2
    exact Run.step (fun t q => XS.ifNo X.at' C.1 rfl (C.d hd) rfl ((if0 _ _).trans (teq g).2) q) (rn g)
  · exact Run.step (fun t q => XS.ifYes X.at' C.1 rfl rfl (C.d hd) rfl ((if0 _ _).trans (feq g).2) hp.1 hp.2.1 q) (ry g)
theorem FE_mono {kc ks : Nat} (hk : k ≤ kc) (hn : n ≤ ks) : ∀ (v : Option Value) (t : State) (L : List Loc), FrameEnd s (.returned v) t L k n → FrameEnd s (.returned v) t L kc ks := fun v t L h => ⟨h.1, h.2.1, h.2.2.mono hk hn⟩
theorem Run.done (C : Cx tabs a0 Z own nm code ml ret p s m meth c) (X : St p l e R s m args below meth c n0 T h k n) {v : Option Value} (hv : ret = none → v = none) (hG : ∀ (v : Option Value) (t : State) (L : List Loc), FrameEnd s (.returned v) t L k n → G (.returned v) t L) (q : Q v h) (f : ∀ locs fs, Stand p l e R s m args below meth c T locs k n → (∀ (f : JFrame) (acts : List Action), f.method = m → f.locked = none → f.entered = [] → (doReturn e (T.setTop f) acts v).1 = T.setFrames fs) → Steps p.tables e below (T.setTop (mkF m pc ls st)) (T.setFrames fs)) : Run p e below n0 Q G m T pc ls st := by
  obtain ⟨locs, Y, rfl, N, -⟩ := X
  obtain ⟨fs, hr, hrun, hended, hW, hsame⟩ := Y.leave (v := v) (by rw [C.2.2.2.2.2.1]; exact hv) C.2.2.2.2.2.2.1
  exact ⟨_, _, f locs fs Y hr, hrun, hended, _, _, rfl, ⟨q, N⟩, hG _ _ _ ⟨⟨_, rfl⟩, hW, hsame⟩⟩
theorem s_return (C : Cx tabs a0 Z own nm code ml ret p s m meth c) (X : St p l e R s m args below meth c n0 T h k n) (hd : decode code pc = .ok (.return_, 1)) (hr : ret = none) (q : Q none h) (hG : ∀ (v : Option Value) (t : State) (L : List Loc), FrameEnd s (.returned v) t L k n → G (.returned v) t L := by exact FE_mono (by decide) (by decide)) : Run p e below n0 Q G m T pc ls [] := by
  subst hr
  exact Run.done C X (fun _ => rfl) hG q (fun locs fs Y hr => Y.returnOut C.1 C.2.2.2.2.2.1 (C.d hd) hr)
theorem s_nreturn (C : Cx tabs a0 Z own nm code ml ret p s m meth c) (X : St p l e R s m args below meth c n0 T h k n) {z z' : Int32} {t : FieldType} (hd : decode code pc = .ok (.ireturn, 1)) (hr : ret = some t) (ht : t = .boolean ∨ t = .byte ∨ t = .char ∨ t = .short) (hz : nar t z = z') (q : Q (some (.int z')) h) (hG : ∀ (v : Option Value) (t : State) (L : List Loc), FrameEnd s (.returned v) t L k n → G (.returned v) t L := by exact FE_mono (by decide) (by decide)) : Run p e below n0 Q G m T pc ls (.int z :: st) := by
  subst hr hz
  refine Run.done C X (fun w => by cases w) hG q (fun locs fs Y hr => ?_)
  exact retN Y C.1 C.2.2.2.2.2.1 ht (C.d hd) hr
theorem s_getfield (pc' : Nat) (C : Cx tabs a0 Z own nm code ml ret p s m meth c) (X : St p l e R s m args below meth c n0 T h k n) {R0 O fn d host : String} {idx : Nat} {a : Addr} {v : Value} (hd : decode code pc = .ok (.getfield idx, 3)) (w : Jvm.Cond.fieldLink own idx R0 fn d ∈ tabs ∨ Jvm.Cond.fieldLinkNest own idx R0 fn d host ∈ tabs) (via : Via Z R0 O fn d) (F : Fld Z h a O fn d v) (r : ∀ T', St p l e R s m args below meth c n0 T' h k n → Run p e below n0 Q G m T' pc' ls (v :: st)) (hp : pc + 3 = pc' := by rfl) : Run p e below n0 Q G m T pc ls (.ref a :: st) := by
  subst hp
  obtain ⟨locs, Y, eT, N, q⟩ := X
  obtain ⟨T', Y', e', f⟩ := getF (host := host) Y C.1 C.2.1 C.2.2.2.2.1 (w.imp C.w C.w) via eT F (g := mkF m pc ls (.ref a :: st)) rfl rfl (C.d hd)
  exact Run.step f (r T' ⟨locs, Y', e', N, q⟩)
theorem s_putfield (pc' : Nat) (C : Cx tabs a0 Z own nm code ml ret p s m meth c) (X : St p l e R s m args below meth c n0 T h k n) {R0 O fn d host K : String} {idx kk : Nat} {ty : FieldType} {a : Addr} {v old : Value} (hd : decode code pc = .ok (.putfield idx, 3)) (w : Jvm.Cond.fieldLink own idx R0 fn d ∈ tabs ∨ Jvm.Cond.fieldLinkNest own idx R0 fn d host ∈ tabs) (via : Via Z R0 O fn d) (F : Fld Z h a O fn d old) (E : Exa Z h a K) (L : Jvm.Cond.lays K O fn d ∈ tabs ∨ (Jvm.Cond.laysFinal K O fn d ∈ tabs ∧ own = O ∧ nm = "<init>")) (wi : Jvm.Cond.instantiable K kk ∈ tabs) (hty : parseFieldDescriptor d = some ty) (hn : narrow ty v = v) (hf : fits ty v = true) (ge : n0 ≤ a)
    (r : ∀ T' h', St p l e R s m args below meth c n0 T' h' k n → Wr h h' a (RoadKit.slotOf Z O fn d) v → Run p e below n0 Q G m T' pc' ls st) (hp : pc + 3 = pc' := by rfl) : Run p e below n0 Q G m T pc ls (v :: .ref a :: st) := by
  subst hp
  obtain ⟨locs, Y, eT, N, q⟩ := X
  obtain ⟨T', h', Y', e', W, f⟩ := putF (host := host) Y C.1 C.2.1 C.2.2.2.2.1 (w.imp C.w C.w) via eT F E (L.imp C.w fun z => ⟨C.w z.1, z.2.1, C.2.2.2.2.2.2.2.1.trans z.2.2⟩) (C.w wi) hty hn hf (g := mkF m pc ls (v :: .ref a :: st)) rfl rfl (C.d hd)
  exact Run.step f (r T' h' ⟨_, Y', e', Fr.snoc Y' N ge, q⟩ W)
theorem s_new (pc' : Nat) (C : Cx tabs a0 Z own nm code ml ret p s m meth c) (X : St p l e R s m args below meth c n0 T h k n) {K : String} {idx nn : Nat} (hd : decode code pc = .ok (.new idx, 3)) (w1 : Jvm.Cond.classLink own idx K ∈ tabs) (w2 : Jvm.Cond.instantiable K nn ∈ tabs) (w3 : Jvm.Cond.initialized K ∈ tabs)
    (r : ∀ T' h' b, h.size = b → St p l e R s m args below meth c n0 T' h' (k + 1) (n + nn) → Ext h h' → Exa Z h' b K → (∀ {O fn d : String} {ty : FieldType}, Laid Z a0 K O fn d → parseFieldDescriptor d = some ty → Fld Z h' b O fn d (defaultValue ty)) → n0 ≤ b → Run p e below n0 Q G m T' pc' ls (.ref b :: st)) (hp : pc + 3 = pc' := by rfl) (hc : k + 1 ≤ R.cells ∧ n + nn ≤ R.slots := by decide) : Run p e below n0 Q G m T pc ls st := by
  subst hp
  have hz := X.sz
  obtain ⟨locs, Y, eT, N, q⟩ := X
  obtain ⟨T', h', Y', e', E, A, D, -, f⟩ := newO Y C.1 C.2.1 C.2.2.2.2.1 (C.w w1) (C.w w2) (C.w w3) eT (g := mkF m pc ls st) rfl (C.d hd) hc.1 hc.2
  exact Run.step f (r T' h' _ rfl ⟨locs, Y', e', N, q⟩ E A D hz)
theorem s_objInit (pc' : Nat) (C : Cx tabs a0 Z own nm code ml ret p s m meth c) (X : St p l e R s m args below meth c n0 T h k n) {idx W : Nat} {a : Addr} (hd : decode code pc = .ok (.invokespecial idx, 3)) (w1 : Jvm.Cond.methodLink own idx Lib.objectInit ∈ tabs) (w2 : Jvm.Cond.instanceMethod Lib.objectInit ∈ tabs) (w3 : Jvm.Cond.code Lib.objectInit ⟨#[0xb1]⟩ 1 none ∈ tabs) (hsz : ls.size = ml) (hW : (st.map fun v => v.category).sum = W) (hf : 1 ≤ R.frames ∧ W + 12 ≤ R.locals)
    (r : ∀ T', St p l e R s m args below meth c n0 T' h k n → Run p e below n0 Q G m T' pc' ls st) (hp : pc + 3 = pc' := by rfl) : Run p e below n0 Q G m T pc ls (.ref a :: st) := by
  subst hp
  obtain ⟨locs, Y, eT, N, q⟩ := X
  obtain ⟨T', Y', e', f⟩ := initO Y C.1 C.2.1 C.2.2.2.2.1 (C.w w1) (C.w w2) (C.w w3) eT (g := mkF m pc ls (.ref a :: st)) rfl (hsz.trans C.2.2.2.1.symm) rfl (C.d hd) hf.1 (W := W) (by show 2 * 0 + _ ≤ _; rw [hW]; omega) hf.2
  exact Run.step f (r T' ⟨locs, Y', e', N, q⟩)
/-- a method's contract at given arguments and a given heap -/
def Met (l : Launch) (Z : State) (y : MethodName) (bytes : ByteArray) (ml : Nat) (ret : Option FieldType) (rm : Room) (ws : List Jvm.Cond) (as : Array Value) (h : Heap) (n0 : Nat) (Q : Option Value → Heap → Prop) : Prop :=
  MetFree l y (head1 (Jvm.Cond.code y bytes ml ret :: ws) rm) (fun a U => a = as ∧ Z.Warmed39 U.vm ∧ U.heap = h) (fun _ _ _ _ _ => True) (fun _ U o U' => ∃ v L, o = .returned v ∧ (Q v U'.heap ∧ Fr n0 L) ∧ FrameEnd U o U' L rm.cells rm.slots)
theorem Met.mk {y : MethodName} {rm : Room} {ws : List Jvm.Cond} {as : Array Value} {ls0 : Array Slot} (hpl : plainFor y = true) (hw : ∀ d ∈ tabs, d.before a0 Z = true) (hn : n0 ≤ h.size) (hef : ∀ m, entryFrame m as ml = mkF m 0 ls0 [])
    (body : ∀ p e s m below meth c T, Cx tabs a0 Z y.cls y.name code ml ret p s m meth c → St p l e rm s m as below meth c n0 T h 0 0 → Run p e below n0 Q (fun o t L => FrameEnd s o t L rm.cells rm.slots) m T 0 ls0 []) : Met l Z y code ml ret rm ws as h n0 Q := by
  refine MetFree.of_bodySF hpl hisR ?_
  intro p e s m args below meth c s₁ Bd hml0 hP hK
  obtain ⟨rfl, hZ, rfl⟩ := hP
  have X0 : Stand p l e rm s m args below meth c s₁ [] 0 0 := Stand.of_body Bd
  have e0 : s₁.heap = s.heap := by rw [Bd.state]; rfl
  have r := body p e s m below meth c s₁ ⟨Bd.exec, hZ, Bd.bytes, hml0, findClass_of_methodNamed Bd.named, Bd.returns, Bd.notSynchronized, (name_of_methodNamed Bd.named Bd.method).1, hw⟩ ⟨[], X0, e0, Fr.nil n0, hn⟩
  obtain ⟨s₂, o, h1, h2⟩ := r
  exact ⟨s₂, o, castTop (hef m) h1, h2⟩
theorem s_callC (pc' : Nat) (argsL rest : List Value) (W : Nat) (C : Cx tabs a0 Z own nm code ml ret p s m meth c) (X : St p l e R s m args below meth c n0 T h k n) {idx : Nat} {y : MethodName} {bytes : ByteArray} {maxL : Nat} {rm : Room} {stk : List Value} {Q1 : Option Value → Heap → Prop} {a : Addr} (hd : decode code pc = .ok (.invokespecial idx, 3)) (hi : y.name = "<init>") (w1 : Jvm.Cond.methodLink own idx y ∈ tabs) (w2 : Jvm.Cond.instanceMethod y ∈ tabs) (w3 : Jvm.Cond.initialized y.cls ∈ tabs) (w4 : Jvm.Cond.code y bytes maxL none ∈ tabs)
    (M : Met l Z y bytes maxL none rm [] (.ref a :: argsL).toArray h n0 Q1) (hlen : ∀ sig, parseMethodDescriptor y.desc = some sig → argsL.length = sig.parameters.length) (hs : stk = argsL.reverse ++ .ref a :: rest) (hsz : ls.size = ml) (hW : (rest.map fun v => v.category).sum = W)
    (r : ∀ T' v h', St p l e R s m args below meth c n0 T' h' (k + rm.cells) (n + rm.slots) → Q1 v h' → Run p e below n0 Q G m T' pc' ls (v.toList ++ rest)) (hp : pc + 3 = pc' := by rfl) (hr : rm.frames + 1 ≤ R.frames ∧ W + (maxL + 11) + rm.locals ≤ R.locals ∧ k + rm.cells ≤ R.cells ∧ n + rm.slots ≤ R.slots := by decide) (hy : y.cls ≠ "java/lang/invoke/MethodHandle" ∧ y.cls ≠ "java/lang/invoke/VarHandle" := by decide) : Run p e below n0 Q G m T pc ls stk := by
  subst hp hs
  obtain ⟨locs, Y, eT, N, q⟩ := X
  obtain ⟨v, _, ⟨T1, L1, k1, n1⟩, -, Y', ⟨Lc, hQ, l1, y1, z1⟩, f⟩ := Y.specialBack C.1 (y := y) hi C.2.2.2.2.1 (mvT C.2.1 (C.w w1)) (mvT C.2.1 (C.w w2)) (mvT C.2.1 (C.w w4)) hy (backOf (W := W) (Q := fun v h L => Q1 v h ∧ Fr n0 L) M C.2.1 (C.w w4) (C.w w3) hr.1 hr.2.1) (g := mkF m pc ls (argsL.reverse ++ .ref a :: rest)) rfl (hsz.trans C.2.2.2.1.symm) (Steps.refl _) (a := a) (argsL := argsL) (rest := rest) hlen rfl (by show 2 * 0 + _ ≤ _; rw [hW]; omega) (C.d hd) (fun _ _ => ⟨rfl, eT, hr.2.2.1, hr.2.2.2⟩)
  dsimp only [Pt.U, Pt.locs, Pt.cells, Pt.slots] at Y' l1 y1 z1 f hQ
  subst l1 y1 z1
  exact Run.steps f (r T1 v _ ⟨_, Y', rfl, Fr.app N hQ.2, q⟩ hQ.1)
theorem s_callV (pc' : Nat) (argsL rest : List Value) (W : Nat) (C : Cx tabs a0 Z own nm code ml ret p s m meth c) (X : St p l e R s m args below meth c n0 T h k n) {idx : Nat} {y : MethodName} {bytes : ByteArray} {maxL : Nat} {rt : Option FieldType} {rm : Room} {stk : List Value} {Q1 : Option Value → Heap → Prop} {y0 : MethodName} {K : String} {a : Addr} (hd : decode code pc = .ok (.invokevirtual idx, 3)) (w1 : Jvm.Cond.methodLink own idx y0 ∈ tabs) (w2 : Jvm.Cond.declares y0 ∈ tabs) (hnf : NotFace s y0) (w5 : Jvm.Cond.selects K y0 y ∈ tabs) (w6 : Jvm.Cond.instanceMethod y ∈ tabs) (w3 : Jvm.Cond.initialized y.cls ∈ tabs) (w4 : Jvm.Cond.code y bytes maxL rt ∈ tabs)
    (E : Exa Z h a K) (M : Met l Z y bytes maxL rt rm [] (.ref a :: argsL).toArray h n0 Q1) (hlen : ∀ sig, parseMethodDescriptor y0.desc = some sig → argsL.length = sig.parameters.length) (hs : stk = argsL.reverse ++ .ref a :: rest) (hsz : ls.size = ml) (hW : (rest.map fun v => v.category).sum = W)
    (r : ∀ T' v h', St p l e R s m args below meth c n0 T' h' (k + rm.cells) (n + rm.slots) → Q1 v h' → Run p e below n0 Q G m T' pc' ls (v.toList ++ rest)) (hp : pc + 3 = pc' := by rfl) (hr : rm.frames + 1 ≤ R.frames ∧ W + (maxL + 11) + rm.locals ≤ R.locals ∧ k + rm.cells ≤ R.cells ∧ n + rm.slots ≤ R.slots := by decide) (hy : y0.cls ≠ "java/lang/invoke/MethodHandle" ∧ y0.cls ≠ "java/lang/invoke/VarHandle" := by decide) : Run p e below n0 Q G m T pc ls stk := by
  subst hp hs
  obtain ⟨locs, Y, eT, N, q⟩ := X
  obtain ⟨cq, kq, qa, qb, qc⟩ := isOf C.2.1 eT E
  obtain ⟨v, _, ⟨T1, L1, k1, n1⟩, -, Y', ⟨Lc, hQ, l1, y1, z1⟩, f⟩ := Y.virtualBack C.1 (y := y0) (z := y) C.2.2.2.2.1 (mvT C.2.1 (C.w w1)) (mvT C.2.1 (C.w w2)) hnf (mvT C.2.1 (C.w w5)) (mvT C.2.1 (C.w w6)) hy (backOf (W := W) (Q := fun v h L => Q1 v h ∧ Fr n0 L) M C.2.1 (C.w w4) (C.w w3) hr.1 hr.2.1) qa qc (g := mkF m pc ls (argsL.reverse ++ .ref a :: rest)) rfl (hsz.trans C.2.2.2.1.symm) (Steps.refl _) (argsL := argsL) (rest := rest) hlen rfl (by show 2 * 0 + _ ≤ _; rw [hW]; omega) (C.d hd) (fun _ _ => ⟨rfl, eT, hr.2.2.1, hr.2.2.2⟩)
  dsimp only [Pt.U, Pt.locs, Pt.cells, Pt.slots] at Y' l1 y1 z1 f hQ
  subst l1 y1 z1
  exact Run.steps f (r T1 v _ ⟨_, Y', rfl, Fr.app N hQ.2, q⟩ hQ.1)
end A
end Jvm.OwnK
namespace Jvm.Pilot.@@N@@
open Jvm Jvm.ClassFile Sem Op Lib Jvm.Free Jvm.Stand Jvm.LawKit Jvm.RoadKit Bundle Jvm.OwnK Jvm.Pilot.@@N@@.Jvm.D
theorem pn_java_lang_Record : plainName "java/lang/Record" = true := by first | (simp [plainName, overriddenIn]; done) | decide +kernel
theorem d2_0 : decode jdk_30_method_1_code 0 = .ok (.aload_n 0, 1) := by decide +kernel
theorem d2_1 : decode jdk_30_method_1_code 1 = .ok (.invokespecial 1, 3) := by decide +kernel
theorem d2_4 : decode jdk_30_method_1_code 4 = .ok (.return_, 1) := by decide +kernel
theorem pn_com_example_dayweave_dayweave_solve_Instance_Link : plainName "com/example/dayweave/dayweave/solve/Instance$Link" = true := by first | (simp [plainName, overriddenIn]; done) | decide +kernel
theorem d1_0 : decode prog_33_method_1_code 0 = .ok (.aload_n 0, 1) := by decide +kernel
theorem d1_1 : decode prog_33_method_1_code 1 = .ok (.invokespecial 1, 3) := by decide +kernel
theorem pd___V : parseMethodDescriptor "()V" = some ⟨[], none⟩ := by decide +kernel
theorem d1_4 : decode prog_33_method_1_code 4 = .ok (.aload_n 0, 1) := by decide +kernel
theorem d1_5 : decode prog_33_method_1_code 5 = .ok (.aload_n 1, 1) := by decide +kernel
theorem d1_6 : decode prog_33_method_1_code 6 = .ok (.putfield 7, 3) := by decide +kernel
theorem d1_9 : decode prog_33_method_1_code 9 = .ok (.aload_n 0, 1) := by decide +kernel
theorem d1_10 : decode prog_33_method_1_code 10 = .ok (.iload_n 2, 1) := by decide +kernel
theorem d1_11 : decode prog_33_method_1_code 11 = .ok (.putfield 13, 3) := by decide +kernel
theorem d1_14 : decode prog_33_method_1_code 14 = .ok (.aload_n 0, 1) := by decide +kernel
theorem d1_15 : decode prog_33_method_1_code 15 = .ok (.iload_n 3, 1) := by decide +kernel
theorem d1_16 : decode prog_33_method_1_code 16 = .ok (.putfield 17, 3) := by decide +kernel
theorem d1_19 : decode prog_33_method_1_code 19 = .ok (.aload_n 0, 1) := by decide +kernel
theorem d1_20 : decode prog_33_method_1_code 20 = .ok (.dload 4, 2) := by decide +kernel
theorem d1_22 : decode prog_33_method_1_code 22 = .ok (.putfield 20, 3) := by decide +kernel
theorem d1_25 : decode prog_33_method_1_code 25 = .ok (.return_, 1) := by decide +kernel
theorem d4_0 : decode prog_33_method_2_code 0 = .ok (.aload_n 0, 1) := by decide +kernel
theorem d4_1 : decode prog_33_method_2_code 1 = .ok (.getfield 13, 3) := by decide +kernel
theorem d4_4 : decode prog_33_method_2_code 4 = .ok (.iload_n 1, 1) := by decide +kernel
theorem d4_5 : decode prog_33_method_2_code 5 = .ok (.if_icmp .eq 11, 3) := by decide +kernel
theorem d4_16 : decode prog_33_method_2_code 16 = .ok (.iconst 1, 1) := by decide +kernel
theorem kc_iconst_1 : Int32.ofInt 1 = (1 : Int32) := by decide +kernel
theorem d4_17 : decode prog_33_method_2_code 17 = .ok (.goto 4, 3) := by decide +kernel
theorem d4_21 : decode prog_33_method_2_code 21 = .ok (.ireturn, 1) := by decide +kernel
theorem d4_8 : decode prog_33_method_2_code 8 = .ok (.aload_n 0, 1) := by decide +kernel
theorem d4_9 : decode prog_33_method_2_code 9 = .ok (.getfield 17, 3) := by decide +kernel
theorem d4_12 : decode prog_33_method_2_code 12 = .ok (.iload_n 1, 1) := by decide +kernel
theorem d4_13 : decode prog_33_method_2_code 13 = .ok (.if_icmp .ne 7, 3) := by decide +kernel
theorem d4_20 : decode prog_33_method_2_code 20 = .ok (.iconst 0, 1) := by decide +kernel
theorem kc_iconst_0 : Int32.ofInt 0 = (0 : Int32) := by decide +kernel
theorem pn_com_example_dayweave_dayweave_solve_LinkNamesPinLaw : plainName "com/example/dayweave/dayweave/solve/LinkNamesPinLaw" = true := by first | (simp [plainName, overriddenIn]; done) | decide +kernel
theorem pd__Lcom_example_dayweave_dayweave_model_Rule_IID_V : parseMethodDescriptor "(Lcom/example/dayweave/dayweave/model/Rule;IID)V" = some ⟨[(.object "com/example/dayweave/dayweave/model/Rule"), .int, .int, .double], none⟩ := by decide +kernel
theorem pd__I_Z : parseMethodDescriptor "(I)Z" = some ⟨[.int], some .boolean⟩ := by decide +kernel
set_option maxRecDepth 65536 in
set_option maxHeartbeats 40000000 in
theorem rm_rec (l : Launch) (Z : State) (a0 : Array Value) (hw : ∀ d ∈ tables_1, d.before a0 Z = true) (o : Addr) (h0 : Heap) (n0 : Nat) (Z0 : n0 ≤ h0.size)  :
    Met l Z (⟨"java/lang/Record", "<init>", "()V"⟩ : MethodName) jdk_30_method_1_code 1 none { frames := 1, cells := 0, slots := 0, locals := 12 } [] #[(.ref o)] h0 n0 (fun v h => v = none ∧ h = h0) := by
  refine Met.mk (tabs := tables_1) (a0 := a0) (ls0 := #[.val (.ref o)]) (plainFor_of_name pn_java_lang_Record) hw Z0 (fun m => by first | (simp [entryFrame, mkF, argsToLocals, Value.category]; done) | rfl) ?_
  intro p e s m below meth c T C X
  refine s_aloadN 1 C X d2_0 rfl rfl ?_
  refine s_objInit 4 C X d2_1 (List.mem_of_getElem? (i := 11) rfl) (List.mem_of_getElem? (i := 12) rfl) (List.mem_of_getElem? (i := 13) rfl) rfl (W := 0) rfl (by decide) (fun T X => ?_)
  refine s_return C X d2_4 rfl ?_
  exact ⟨rfl, rfl⟩
set_option maxRecDepth 65536 in
set_option maxHeartbeats 40000000 in
theorem rm_link (l : Launch) (Z : State) (a0 : Array Value) (hw : ∀ d ∈ tables_1, d.before a0 Z = true) (o : Addr) (x1 x2 : Int32) (h0 : Heap) (n0 : Nat) (Z0 : n0 ≤ h0.size) (F_o_rule : Fld Z h0 o "com/example/dayweave/dayweave/solve/Instance$Link" "rule" "Lcom/example/dayweave/dayweave/model/Rule;" .null) (F_o_first : Fld Z h0 o "com/example/dayweave/dayweave/solve/Instance$Link" "first" "I" (.int 0)) (F_o_second : Fld Z h0 o "com/example/dayweave/dayweave/solve/Instance$Link" "second" "I" (.int 0)) (F_o_utility : Fld Z h0 o "com/example/dayweave/dayweave/solve/Instance$Link" "utility" "D" (.double 0)) (E_o : Exa Z h0 o "com/example/dayweave/dayweave/solve/Instance$Link") (g_o : n0 ≤ o) :
    Met l Z (⟨"com/example/dayweave/dayweave/solve/Instance$Link", "<init>", "(Lcom/example/dayweave/dayweave/model/Rule;IID)V"⟩ : MethodName) prog_33_method_1_code 6 none { frames := 2, cells := 0, slots := 0, locals := 24 } [] #[(.ref o), .null, (.int x1), (.int x2), (.double (0 : UInt64))] h0 n0 (fun v h => v = none ∧ Exa Z h o "com/example/dayweave/dayweave/solve/Instance$Link" ∧ Fld Z h o "com/example/dayweave/dayweave/solve/Instance$Link" "first" "I" (.int x1) ∧ Fld Z h o "com/example/dayweave/dayweave/solve/Instance$Link" "second" "I" (.int x2)) := by
  refine Met.mk (tabs := tables_1) (a0 := a0) (ls0 := #[.val (.ref o), .val .null, .val (.int x1), .val (.int x2), .val (.double (0 : UInt64)), .second]) (plainFor_of_name pn_com_example_dayweave_dayweave_solve_Instance_Link) hw Z0 (fun m => by first | (simp [entryFrame, mkF, argsToLocals, Value.category]; done) | rfl) ?_
  intro p e s m below meth c T C X
  refine s_aloadN 1 C X d1_0 rfl rfl ?_
  refine s_callC 4 [] [] 0 C X d1_1 rfl (List.mem_of_getElem? (i := 6) rfl) (List.mem_of_getElem? (i := 7) rfl) (List.mem_of_getElem? (i := 9) rfl) (List.mem_of_getElem? (i := 10) rfl) (rm_rec l Z a0 hw o _ n0 X.sz) (lenOf pd___V rfl) rfl rfl rfl (fun T v h0 X q => ?_)
  obtain ⟨rfl, hE⟩ := q
  rw [hE] at X
  refine Run.cast (st' := []) rfl ?_
  refine s_aloadN 5 C X d1_4 rfl rfl ?_
  refine s_aloadN 6 C X d1_5 rfl rfl ?_
  refine s_putfield 9 C X (host := "") d1_6 (Or.inl (List.mem_of_getElem? (i := 14) rfl)) Via.refl F_o_rule E_o (Or.inr ⟨(List.mem_of_getElem? (i := 15) rfl), rfl, rfl⟩) (List.mem_of_getElem? (i := 1) rfl) (ty := (.object "com/example/dayweave/dayweave/model/Rule")) (by decide) rfl rfl g_o (fun T _ X W => ?_)
  have F_o_rule := F_o_rule.same W
  have F_o_first := F_o_first.other W (Or.inr (slot_ne (Or.inr (hw _ (List.mem_of_getElem? (i := 17) rfl))) (Or.inr (hw _ (List.mem_of_getElem? (i := 15) rfl))) (by decide) (t := .int) (t' := (.object "com/example/dayweave/dayweave/model/Rule")) (by decide) (by decide)))
  have F_o_second := F_o_second.other W (Or.inr (slot_ne (Or.inr (hw _ (List.mem_of_getElem? (i := 19) rfl))) (Or.inr (hw _ (List.mem_of_getElem? (i := 15) rfl))) (by decide) (t := .int) (t' := (.object "com/example/dayweave/dayweave/model/Rule")) (by decide) (by decide)))
  have F_o_utility := F_o_utility.other W (Or.inr (slot_ne (Or.inr (hw _ (List.mem_of_getElem? (i := 21) rfl))) (Or.inr (hw _ (List.mem_of_getElem? (i := 15) rfl))) (by decide) (t := .double) (t' := (.object "com/example/dayweave/dayweave/model/Rule")) (by decide) (by decide)))
  have E_o := E_o.wr W
  refine s_aloadN 10 C X d1_9 rfl rfl ?_
  refine s_iloadN 11 C X d1_10 rfl ?_
  refine s_putfield 14 C X (host := "") d1_11 (Or.inl (List.mem_of_getElem? (i := 16) rfl)) Via.refl F_o_first E_o (Or.inr ⟨(List.mem_of_getElem? (i := 17) rfl), rfl, rfl⟩) (List.mem_of_getElem? (i := 1) rfl) (ty := .int) (by decide) rfl rfl g_o (fun T _ X W => ?_)
  have F_o_rule := F_o_rule.other W (Or.inr (slot_ne (Or.inr (hw _ (List.mem_of_getElem? (i := 15) rfl))) (Or.inr (hw _ (List.mem_of_getElem? (i := 17) rfl))) (by decide) (t := (.object "com/example/dayweave/dayweave/model/Rule")) (t' := .int) (by decide) (by decide)))
  have F_o_first := F_o_first.same W
  have F_o_second := F_o_second.other W (Or.inr (slot_ne (Or.inr (hw _ (List.mem_of_getElem? (i := 19) rfl))) (Or.inr (hw _ (List.mem_of_getElem? (i := 17) rfl))) (by decide) (t := .int) (t' := .int) (by decide) (by decide)))
  have F_o_utility := F_o_utility.other W (Or.inr (slot_ne (Or.inr (hw _ (List.mem_of_getElem? (i := 21) rfl))) (Or.inr (hw _ (List.mem_of_getElem? (i := 17) rfl))) (by decide) (t := .double) (t' := .int) (by decide) (by decide)))
  have E_o := E_o.wr W
  refine s_aloadN 15 C X d1_14 rfl rfl ?_
  refine s_iloadN 16 C X d1_15 rfl ?_
  refine s_putfield 19 C X (host := "") d1_16 (Or.inl (List.mem_of_getElem? (i := 18) rfl)) Via.refl F_o_second E_o (Or.inr ⟨(List.mem_of_getElem? (i := 19) rfl), rfl, rfl⟩) (List.mem_of_getElem? (i := 1) rfl) (ty := .int) (by decide) rfl rfl g_o (fun T _ X W => ?_)
  have F_o_rule := F_o_rule.other W (Or.inr (slot_ne (Or.inr (hw _ (List.mem_of_getElem? (i := 15) rfl))) (Or.inr (hw _ (List.mem_of_getElem? (i := 19) rfl))) (by decide) (t := (.object "com/example/dayweave/dayweave/model/Rule")) (t' := .int) (by decide) (by decide)))
  have F_o_first := F_o_first.other W (Or.inr (slot_ne (Or.inr (hw _ (List.mem_of_getElem? (i := 17) rfl))) (Or.inr (hw _ (List.mem_of_getElem? (i := 19) rfl))) (by decide) (t := .int) (t' := .int) (by decide) (by decide)))
  have F_o_second := F_o_second.same W
  have F_o_utility := F_o_utility.other W (Or.inr (slot_ne (Or.inr (hw _ (List.mem_of_getElem? (i := 21) rfl))) (Or.inr (hw _ (List.mem_of_getElem? (i := 19) rfl))) (by decide) (t := .double) (t' := .int) (by decide) (by decide)))
  have E_o := E_o.wr W
  refine s_aloadN 20 C X d1_19 rfl rfl ?_
  refine s_dload 22 C X d1_20 rfl ?_
  refine s_putfield 25 C X (host := "") d1_22 (Or.inl (List.mem_of_getElem? (i := 20) rfl)) Via.refl F_o_utility E_o (Or.inr ⟨(List.mem_of_getElem? (i := 21) rfl), rfl, rfl⟩) (List.mem_of_getElem? (i := 1) rfl) (ty := .double) (by decide) rfl rfl g_o (fun T _ X W => ?_)
  have F_o_rule := F_o_rule.other W (Or.inr (slot_ne (Or.inr (hw _ (List.mem_of_getElem? (i := 15) rfl))) (Or.inr (hw _ (List.mem_of_getElem? (i := 21) rfl))) (by decide) (t := (.object "com/example/dayweave/dayweave/model/Rule")) (t' := .double) (by decide) (by decide)))
  have F_o_first := F_o_first.other W (Or.inr (slot_ne (Or.inr (hw _ (List.mem_of_getElem? (i := 17) rfl))) (Or.inr (hw _ (List.mem_of_getElem? (i := 21) rfl))) (by decide) (t := .int) (t' := .double) (by decide) (by decide)))
  have F_o_second := F_o_second.other W (Or.inr (slot_ne (Or.inr (hw _ (List.mem_of_getElem? (i := 19) rfl))) (Or.inr (hw _ (List.mem_of_getElem? (i := 21) rfl))) (by decide) (t := .int) (t' := .double) (by decide) (by decide)))
  have F_o_utility := F_o_utility.same W
  have E_o := E_o.wr W
  refine s_return C X d1_25 rfl ?_
  exact ⟨rfl, E_o, F_o_first, F_o_second⟩
set_option maxRecDepth 65536 in
set_option maxHeartbeats 40000000 in
theorem rm_names (l : Launch) (Z : State) (a0 : Array Value) (hw : ∀ d ∈ tables_1, d.before a0 Z = true) (o : Addr) (x1 x2 x3 : Int32) (h0 : Heap) (n0 : Nat) (Z0 : n0 ≤ h0.size) (F_o_first : Fld Z h0 o "com/example/dayweave/dayweave/solve/Instance$Link" "first" "I" (.int x1)) (F_o_second : Fld Z h0 o "com/example/dayweave/dayweave/solve/Instance$Link" "second" "I" (.int x2)) :
    Met l Z (⟨"com/example/dayweave/dayweave/solve/Instance$Link", "names", "(I)Z"⟩ : MethodName) prog_33_method_2_code 2 (some .boolean) { frames := 0, cells := 0, slots := 0, locals := 0 } [] #[(.ref o), (.int x3)] h0 n0 (fun v h => ((v = some (.int 1) ∧ (x1.toInt = x3.toInt ∨ x2.toInt = x3.toInt)) ∨ (v = some (.int 0) ∧ ¬ (x1.toInt = x3.toInt ∨ x2.toInt = x3.toInt))) ∧ h = h0) := by
  refine Met.mk (tabs := tables_1) (a0 := a0) (ls0 := #[.val (.ref o), .val (.int x3)]) (plainFor_of_name pn_com_example_dayweave_dayweave_solve_Instance_Link) hw Z0 (fun m => by first | (simp [entryFrame, mkF, argsToLocals, Value.category]; done) | rfl) ?_
  intro p e s m below meth c T C X
  refine s_aloadN 1 C X d4_0 rfl rfl ?_
  refine s_getfield 4 C X (host := "") d4_1 (Or.inl (List.mem_of_getElem? (i := 16) rfl)) Via.refl F_o_first (fun T X => ?_)
  refine s_iloadN 5 C X d4_4 rfl ?_
  refine s_icmp_eq 16 8 C X d4_5 (fun c5 => ?_) (fun c5 => ?_)
  · have t_c5 : (x1).toInt = (x3).toInt := congrArg Int32.toInt c5
    refine s_iconst 17 C X d4_16 kc_iconst_1 ?_
    refine s_goto 21 C X d4_17 ?_
    refine s_nreturn C X d4_21 rfl (by simp) rfl ?_
    exact ⟨Or.inl ⟨rfl, by omega⟩, rfl⟩
  have t_c5 : ¬ ((x1).toInt = (x3).toInt) := fun q => c5 (Int32.toInt_inj.mp q)
  refine s_aloadN 9 C X d4_8 rfl rfl ?_
  refine s_getfield 12 C X (host := "") d4_9 (Or.inl (List.mem_of_getElem? (i := 18) rfl)) Via.refl F_o_second (fun T X => ?_)
  refine s_iloadN 13 C X d4_12 rfl ?_
  refine s_icmp_ne 20 16 C X d4_13 (fun c13 => ?_) (fun c13 => ?_)
  · have t_c13 : ¬ ((x2).toInt = (x3).toInt) := fun q => c13 (Int32.toInt_inj.mp q)
    refine s_iconst 21 C X d4_20 kc_iconst_0 ?_
    refine s_nreturn C X d4_21 rfl (by simp) rfl ?_
    exact ⟨Or.inr ⟨rfl, by omega⟩, rfl⟩
  have t_c13 : (x2).toInt = (x3).toInt := congrArg Int32.toInt c13
  refine s_iconst 17 C X d4_16 kc_iconst_1 ?_
  refine s_goto 21 C X d4_17 ?_
  refine s_nreturn C X d4_21 rfl (by simp) rfl ?_
  exact ⟨Or.inl ⟨rfl, by omega⟩, rfl⟩
set_option maxRecDepth 65536 in
set_option maxHeartbeats 40000000 in
theorem rm0 (l : Launch) (Z : State) (a0 : Array Value) (hw : ∀ d ∈ tables_1, d.before a0 Z = true) (x0 x1 x2 : Int32) (h0 : Heap) (n0 : Nat) (Z0 : n0 ≤ h0.size)  :
    Met l Z x code maxLocals ret room_1 tables_1 #[(.int x0), (.int x1), (.int x2)] h0 n0 (fun v h => v = some (.int 1)) := by
  refine Met.mk (tabs := tables_1) (a0 := a0) (ls0 := #[.val (.int x0), .val (.int x1), .val (.int x2), .unset, .unset, .unset, .unset]) (plainFor_of_name pn_com_example_dayweave_dayweave_solve_LinkNamesPinLaw) hw Z0 (fun m => by first | (simp [entryFrame, mkF, argsToLocals, Value.category, maxLocals]; done) | rfl) ?_
  intro p e s m below meth c T C X
  refine s_new 3 C X at_0 (List.mem_of_getElem? (i := 0) rfl) (List.mem_of_getElem? (i := 1) rfl) (List.mem_of_getElem? (i := 2) rfl) (fun T _ o1 hb_o1 X E E_o1 D g_o1 => ?_)
  have F_o1_rule : Fld Z _ o1 "com/example/dayweave/dayweave/solve/Instance$Link" "rule" "Lcom/example/dayweave/dayweave/model/Rule;" .null := D (Or.inr (hw _ (List.mem_of_getElem? (i := 15) rfl))) (ty := (.object "com/example/dayweave/dayweave/model/Rule")) (by decide)
  have F_o1_first : Fld Z _ o1 "com/example/dayweave/dayweave/solve/Instance$Link" "first" "I" (.int (0 : Int32)) := D (Or.inr (hw _ (List.mem_of_getElem? (i := 17) rfl))) (ty := .int) (by decide)
  have F_o1_second : Fld Z _ o1 "com/example/dayweave/dayweave/solve/Instance$Link" "second" "I" (.int (0 : Int32)) := D (Or.inr (hw _ (List.mem_of_getElem? (i := 19) rfl))) (ty := .int) (by decide)
  have F_o1_utility : Fld Z _ o1 "com/example/dayweave/dayweave/solve/Instance$Link" "utility" "D" (.double (0 : UInt64)) := D (Or.inr (hw _ (List.mem_of_getElem? (i := 21) rfl))) (ty := .double) (by decide)
  refine s_dup 4 C X at_3 rfl ?_
  refine s_aconstNull 5 C X at_4 ?_
  refine s_iloadN 6 C X at_5 rfl ?_
  refine s_iloadN 7 C X at_6 rfl ?_
  refine s_dconst0 8 C X (z := (0 : UInt64)) at_7 rfl ?_
  refine s_callC 11 [.null, (.int x0), (.int x1), (.double (0 : UInt64))] [(.ref o1)] 1 C X at_8 rfl (List.mem_of_getElem? (i := 3) rfl) (List.mem_of_getElem? (i := 4) rfl) (List.mem_of_getElem? (i := 2) rfl) (List.mem_of_getElem? (i := 5) rfl) (rm_link l Z a0 hw o1 x0 x1 _ n0 X.sz F_o1_rule F_o1_first F_o1_second F_o1_utility E_o1 g_o1) (lenOf pd__Lcom_example_dayweave_dayweave_model_Rule_IID_V rfl) rfl rfl rfl (fun T v h1 X q => ?_)
  obtain ⟨rfl, E_o1, F_first, F_second⟩ := q
  refine Run.cast (st' := [(.ref o1)]) rfl ?_
  refine s_astoreN 12 C X (l' := #[.val (.int x0), .val (.int x1), .val (.int x2), .val (.ref o1), .unset, .unset, .unset]) at_11 rfl rfl ?_
  refine s_aloadN 13 C X at_12 rfl rfl ?_
  refine s_iloadN 14 C X at_13 rfl ?_
  refine s_callV 17 [(.int x0)] [] 0 C X at_14 (List.mem_of_getElem? (i := 22) rfl) (List.mem_of_getElem? (i := 23) rfl) (notFace_of_selects (args := #[]) (mvT C.2.1 (C.w (List.mem_of_getElem? (i := 25) rfl)))) (List.mem_of_getElem? (i := 25) rfl) (List.mem_of_getElem? (i := 24) rfl) (List.mem_of_getElem? (i := 2) rfl) (List.mem_of_getElem? (i := 26) rfl) E_o1 (rm_names l Z a0 hw o1 x0 x1 x0 _ n0 X.sz F_first F_second) (lenOf pd__I_Z rfl) rfl rfl rfl (fun T v h2 X q => ?_)
  obtain ⟨⟨rfl, b14⟩ | ⟨rfl, b14⟩, hE⟩ := q
  · rw [hE] at X
    refine Run.cast (st' := [(.int (1 : Int32))]) rfl ?_
    refine s_istore 19 C X (l' := #[.val (.int x0), .val (.int x1), .val (.int x2), .val (.ref o1), .val (.int (1 : Int32)), .unset, .unset]) at_17 rfl ?_
    refine s_aloadN 20 C X at_19 rfl rfl ?_
    refine s_iloadN 21 C X at_20 rfl ?_
    refine s_callV 24 [(.int x1)] [] 0 C X at_21 (List.mem_of_getElem? (i := 22) rfl) (List.mem_of_getElem? (i := 23) rfl) (notFace_of_selects (args := #[]) (mvT C.2.1 (C.w (List.mem_of_getElem? (i := 25) rfl)))) (List.mem_of_getElem? (i := 25) rfl) (List.mem_of_getElem? (i := 24) rfl) (List.mem_of_getElem? (i := 2) rfl) (List.mem_of_getElem? (i := 26) rfl) E_o1 (rm_names l Z a0 hw o1 x0 x1 x1 _ n0 X.sz F_first F_second) (lenOf pd__I_Z rfl) rfl rfl rfl (fun T v h3 X q => ?_)
    obtain ⟨⟨rfl, b21⟩ | ⟨rfl, b21⟩, hE⟩ := q
    · rw [hE] at X
      refine Run.cast (st' := [(.int (1 : Int32))]) rfl ?_
      refine s_istore 26 C X (l' := #[.val (.int x0), .val (.int x1), .val (.int x2), .val (.ref o1), .val (.int (1 : Int32)), .val (.int (1 : Int32)), .unset]) at_24 rfl ?_
      refine s_aloadN 27 C X at_26 rfl rfl ?_
      refine s_iloadN 28 C X at_27 rfl ?_
      refine s_callV 31 [(.int x2)] [] 0 C X at_28 (List.mem_of_getElem? (i := 22) rfl) (List.mem_of_getElem? (i := 23) rfl) (notFace_of_selects (args := #[]) (mvT C.2.1 (C.w (List.mem_of_getElem? (i := 25) rfl)))) (List.mem_of_getElem? (i := 25) rfl) (List.mem_of_getElem? (i := 24) rfl) (List.mem_of_getElem? (i := 2) rfl) (List.mem_of_getElem? (i := 26) rfl) E_o1 (rm_names l Z a0 hw o1 x0 x1 x2 _ n0 X.sz F_first F_second) (lenOf pd__I_Z rfl) rfl rfl rfl (fun T v h4 X q => ?_)
      obtain ⟨⟨rfl, b28⟩ | ⟨rfl, b28⟩, hE⟩ := q
      · rw [hE] at X
        refine Run.cast (st' := [(.int (1 : Int32))]) rfl ?_
        refine s_istore 33 C X (l' := #[.val (.int x0), .val (.int x1), .val (.int x2), .val (.ref o1), .val (.int (1 : Int32)), .val (.int (1 : Int32)), .val (.int (1 : Int32))]) at_31 rfl ?_
        refine s_iload 35 C X at_33 rfl ?_
        refine s_if_eq 43 38 C X at_35 (fun c => absurd c (by decide)) (fun _ => ?_)
        refine s_iload 40 C X at_38 rfl ?_
        refine s_if_ne 45 43 C X at_40 (fun _ => ?_) (fun c => absurd c (by decide))
        refine s_iloadN 46 C X at_45 rfl ?_
        refine s_iloadN 47 C X at_46 rfl ?_
        refine s_icmp_eq 66 50 C X at_47 (fun c47 => ?_) (fun c47 => ?_)
        · have t_c47 : (x2).toInt = (x0).toInt := congrArg Int32.toInt c47
          refine s_iload 68 C X at_66 rfl ?_
          refine s_nreturn C X at_68 rfl (by simp) rfl ?_
          rfl
        have t_c47 : ¬ ((x2).toInt = (x0).toInt) := fun q => c47 (Int32.toInt_inj.mp q)
        refine s_iloadN 51 C X at_50 rfl ?_
        refine s_iloadN 52 C X at_51 rfl ?_
        refine s_icmp_eq 66 55 C X at_52 (fun c52 => ?_) (fun c52 => ?_)
        · have t_c52 : (x2).toInt = (x1).toInt := congrArg Int32.toInt c52
          refine s_iload 68 C X at_66 rfl ?_
          refine s_nreturn C X at_68 rfl (by simp) rfl ?_
          rfl
        have t_c52 : ¬ ((x2).toInt = (x1).toInt) := fun q => c52 (Int32.toInt_inj.mp q)
        refine s_iload 57 C X at_55 rfl ?_
        refine s_if_ne 64 60 C X at_57 (fun _ => ?_) (fun c => absurd c (by decide))
        refine s_iconst 65 C X at_64 kc_iconst_0 ?_
        refine s_nreturn C X at_65 rfl (by simp) rfl ?_
        exfalso
        omega
      · rw [hE] at X
        refine Run.cast (st' := [(.int (0 : Int32))]) rfl ?_
        refine s_istore 33 C X (l' := #[.val (.int x0), .val (.int x1), .val (.int x2), .val (.ref o1), .val (.int (1 : Int32)), .val (.int (1 : Int32)), .val (.int (0 : Int32))]) at_31 rfl ?_
        refine s_iload 35 C X at_33 rfl ?_
        refine s_if_eq 43 38 C X at_35 (fun c => absurd c (by decide)) (fun _ => ?_)
        refine s_iload 40 C X at_38 rfl ?_
        refine s_if_ne 45 43 C X at_40 (fun _ => ?_) (fun c => absurd c (by decide))
        refine s_iloadN 46 C X at_45 rfl ?_
        refine s_iloadN 47 C X at_46 rfl ?_
        refine s_icmp_eq 66 50 C X at_47 (fun c47 => ?_) (fun c47 => ?_)
        · have t_c47 : (x2).toInt = (x0).toInt := congrArg Int32.toInt c47
          refine s_iload 68 C X at_66 rfl ?_
          refine s_nreturn C X at_68 rfl (by simp) rfl ?_
          exfalso
          omega
        have t_c47 : ¬ ((x2).toInt = (x0).toInt) := fun q => c47 (Int32.toInt_inj.mp q)
        refine s_iloadN 51 C X at_50 rfl ?_
        refine s_iloadN 52 C X at_51 rfl ?_
        refine s_icmp_eq 66 55 C X at_52 (fun c52 => ?_) (fun c52 => ?_)
        · have t_c52 : (x2).toInt = (x1).toInt := congrArg Int32.toInt c52
          refine s_iload 68 C X at_66 rfl ?_
          refine s_nreturn C X at_68 rfl (by simp) rfl ?_
          exfalso
          omega
        have t_c52 : ¬ ((x2).toInt = (x1).toInt) := fun q => c52 (Int32.toInt_inj.mp q)
        refine s_iload 57 C X at_55 rfl ?_
        refine s_if_ne 64 60 C X at_57 (fun c => absurd (by decide : (0 : Int32) = (0 : Int32)) c) (fun _ => ?_)
        refine s_iconst 61 C X at_60 kc_iconst_1 ?_
        refine s_goto 65 C X at_61 ?_
        refine s_nreturn C X at_65 rfl (by simp) rfl ?_
        rfl
    · rw [hE] at X
      refine Run.cast (st' := [(.int (0 : Int32))]) rfl ?_
      refine s_istore 26 C X (l' := #[.val (.int x0), .val (.int x1), .val (.int x2), .val (.ref o1), .val (.int (1 : Int32)), .val (.int (0 : Int32)), .unset]) at_24 rfl ?_
      refine s_aloadN 27 C X at_26 rfl rfl ?_
      refine s_iloadN 28 C X at_27 rfl ?_
      refine s_callV 31 [(.int x2)] [] 0 C X at_28 (List.mem_of_getElem? (i := 22) rfl) (List.mem_of_getElem? (i := 23) rfl) (notFace_of_selects (args := #[]) (mvT C.2.1 (C.w (List.mem_of_getElem? (i := 25) rfl)))) (List.mem_of_getElem? (i := 25) rfl) (List.mem_of_getElem? (i := 24) rfl) (List.mem_of_getElem? (i := 2) rfl) (List.mem_of_getElem? (i := 26) rfl) E_o1 (rm_names l Z a0 hw o1 x0 x1 x2 _ n0 X.sz F_first F_second) (lenOf pd__I_Z rfl) rfl rfl rfl (fun T v h5 X q => ?_)
      obtain ⟨⟨rfl, b28⟩ | ⟨rfl, b28⟩, hE⟩ := q
      · rw [hE] at X
        refine Run.cast (st' := [(.int (1 : Int32))]) rfl ?_
        refine s_istore 33 C X (l' := #[.val (.int x0), .val (.int x1), .val (.int x2), .val (.ref o1), .val (.int (1 : Int32)), .val (.int (0 : Int32)), .val (.int (1 : Int32))]) at_31 rfl ?_
        refine s_iload 35 C X at_33 rfl ?_
        refine s_if_eq 43 38 C X at_35 (fun c => absurd c (by decide)) (fun _ => ?_)
        refine s_iload 40 C X at_38 rfl ?_
        refine s_if_ne 45 43 C X at_40 (fun c => absurd (by decide : (0 : Int32) = (0 : Int32)) c) (fun _ => ?_)
        refine s_iconst 44 C X at_43 kc_iconst_0 ?_
        refine s_nreturn C X at_44 rfl (by simp) rfl ?_
        exfalso
        omega
      · rw [hE] at X
        refine Run.cast (st' := [(.int (0 : Int32))]) rfl ?_
        refine s_istore 33 C X (l' := #[.val (.int x0), .val (.int x1), .val (.int x2), .val (.ref o1), .val (.int (1 : Int32)), .val (.int (0 : Int32)), .val (.int (0 : Int32))]) at_31 rfl ?_
        refine s_iload 35 C X at_33 rfl ?_
        refine s_if_eq 43 38 C X at_35 (fun c => absurd c (by decide)) (fun _ => ?_)
        refine s_iload 40 C X at_38 rfl ?_
        refine s_if_ne 45 43 C X at_40 (fun c => absurd (by decide : (0 : Int32) = (0 : Int32)) c) (fun _ => ?_)
        refine s_iconst 44 C X at_43 kc_iconst_0 ?_
        refine s_nreturn C X at_44 rfl (by simp) rfl ?_
        exfalso
        omega
  · rw [hE] at X
    refine Run.cast (st' := [(.int (0 : Int32))]) rfl ?_
    refine s_istore 19 C X (l' := #[.val (.int x0), .val (.int x1), .val (.int x2), .val (.ref o1), .val (.int (0 : Int32)), .unset, .unset]) at_17 rfl ?_
    refine s_aloadN 20 C X at_19 rfl rfl ?_
    refine s_iloadN 21 C X at_20 rfl ?_
    refine s_callV 24 [(.int x1)] [] 0 C X at_21 (List.mem_of_getElem? (i := 22) rfl) (List.mem_of_getElem? (i := 23) rfl) (notFace_of_selects (args := #[]) (mvT C.2.1 (C.w (List.mem_of_getElem? (i := 25) rfl)))) (List.mem_of_getElem? (i := 25) rfl) (List.mem_of_getElem? (i := 24) rfl) (List.mem_of_getElem? (i := 2) rfl) (List.mem_of_getElem? (i := 26) rfl) E_o1 (rm_names l Z a0 hw o1 x0 x1 x1 _ n0 X.sz F_first F_second) (lenOf pd__I_Z rfl) rfl rfl rfl (fun T v h6 X q => ?_)
    obtain ⟨⟨rfl, b21⟩ | ⟨rfl, b21⟩, hE⟩ := q
    · rw [hE] at X
      refine Run.cast (st' := [(.int (1 : Int32))]) rfl ?_
      refine s_istore 26 C X (l' := #[.val (.int x0), .val (.int x1), .val (.int x2), .val (.ref o1), .val (.int (0 : Int32)), .val (.int (1 : Int32)), .unset]) at_24 rfl ?_
      refine s_aloadN 27 C X at_26 rfl rfl ?_
      refine s_iloadN 28 C X at_27 rfl ?_
      refine s_callV 31 [(.int x2)] [] 0 C X at_28 (List.mem_of_getElem? (i := 22) rfl) (List.mem_of_getElem? (i := 23) rfl) (notFace_of_selects (args := #[]) (mvT C.2.1 (C.w (List.mem_of_getElem? (i := 25) rfl)))) (List.mem_of_getElem? (i := 25) rfl) (List.mem_of_getElem? (i := 24) rfl) (List.mem_of_getElem? (i := 2) rfl) (List.mem_of_getElem? (i := 26) rfl) E_o1 (rm_names l Z a0 hw o1 x0 x1 x2 _ n0 X.sz F_first F_second) (lenOf pd__I_Z rfl) rfl rfl rfl (fun T v h7 X q => ?_)
      obtain ⟨⟨rfl, b28⟩ | ⟨rfl, b28⟩, hE⟩ := q
      · rw [hE] at X
        refine Run.cast (st' := [(.int (1 : Int32))]) rfl ?_
        refine s_istore 33 C X (l' := #[.val (.int x0), .val (.int x1), .val (.int x2), .val (.ref o1), .val (.int (0 : Int32)), .val (.int (1 : Int32)), .val (.int (1 : Int32))]) at_31 rfl ?_
        refine s_iload 35 C X at_33 rfl ?_
        refine s_if_eq 43 38 C X at_35 (fun _ => ?_) (fun c => absurd (by decide : (0 : Int32) = (0 : Int32)) c)
        refine s_iconst 44 C X at_43 kc_iconst_0 ?_
        refine s_nreturn C X at_44 rfl (by simp) rfl ?_
        exfalso
        omega
      · rw [hE] at X
        refine Run.cast (st' := [(.int (0 : Int32))]) rfl ?_
        refine s_istore 33 C X (l' := #[.val (.int x0), .val (.int x1), .val (.int x2), .val (.ref o1), .val (.int (0 : Int32)), .val (.int (1 : Int32)), .val (.int (0 : Int32))]) at_31 rfl ?_
        refine s_iload 35 C X at_33 rfl ?_
        refine s_if_eq 43 38 C X at_35 (fun _ => ?_) (fun c => absurd (by decide : (0 : Int32) = (0 : Int32)) c)
        refine s_iconst 44 C X at_43 kc_iconst_0 ?_
        refine s_nreturn C X at_44 rfl (by simp) rfl ?_
        exfalso
        omega
    · rw [hE] at X
      refine Run.cast (st' := [(.int (0 : Int32))]) rfl ?_
      refine s_istore 26 C X (l' := #[.val (.int x0), .val (.int x1), .val (.int x2), .val (.ref o1), .val (.int (0 : Int32)), .val (.int (0 : Int32)), .unset]) at_24 rfl ?_
      refine s_aloadN 27 C X at_26 rfl rfl ?_
      refine s_iloadN 28 C X at_27 rfl ?_
      refine s_callV 31 [(.int x2)] [] 0 C X at_28 (List.mem_of_getElem? (i := 22) rfl) (List.mem_of_getElem? (i := 23) rfl) (notFace_of_selects (args := #[]) (mvT C.2.1 (C.w (List.mem_of_getElem? (i := 25) rfl)))) (List.mem_of_getElem? (i := 25) rfl) (List.mem_of_getElem? (i := 24) rfl) (List.mem_of_getElem? (i := 2) rfl) (List.mem_of_getElem? (i := 26) rfl) E_o1 (rm_names l Z a0 hw o1 x0 x1 x2 _ n0 X.sz F_first F_second) (lenOf pd__I_Z rfl) rfl rfl rfl (fun T v h8 X q => ?_)
      obtain ⟨⟨rfl, b28⟩ | ⟨rfl, b28⟩, hE⟩ := q
      · rw [hE] at X
        refine Run.cast (st' := [(.int (1 : Int32))]) rfl ?_
        refine s_istore 33 C X (l' := #[.val (.int x0), .val (.int x1), .val (.int x2), .val (.ref o1), .val (.int (0 : Int32)), .val (.int (0 : Int32)), .val (.int (1 : Int32))]) at_31 rfl ?_
        refine s_iload 35 C X at_33 rfl ?_
        refine s_if_eq 43 38 C X at_35 (fun _ => ?_) (fun c => absurd (by decide : (0 : Int32) = (0 : Int32)) c)
        refine s_iconst 44 C X at_43 kc_iconst_0 ?_
        refine s_nreturn C X at_44 rfl (by simp) rfl ?_
        exfalso
        omega
      · rw [hE] at X
        refine Run.cast (st' := [(.int (0 : Int32))]) rfl ?_
        refine s_istore 33 C X (l' := #[.val (.int x0), .val (.int x1), .val (.int x2), .val (.ref o1), .val (.int (0 : Int32)), .val (.int (0 : Int32)), .val (.int (0 : Int32))]) at_31 rfl ?_
        refine s_iload 35 C X at_33 rfl ?_
        refine s_if_eq 43 38 C X at_35 (fun _ => ?_) (fun c => absurd (by decide : (0 : Int32) = (0 : Int32)) c)
        refine s_iconst 44 C X at_43 kc_iconst_0 ?_
        refine s_nreturn C X at_44 rfl (by simp) rfl ?_
        exfalso
        omega
set_option maxRecDepth 65536 in
set_option maxHeartbeats 40000000 in
theorem comes_1 {Post : Tables → Env → Array Value → State → Outcome → State → Prop} (hpost : ∀ tb e args s v u, (limb_1_1.after args s (.returned v) u = true ∧ limb_1_2.after args s (.returned v) u = true ∧ True) → FrameEnd s (.returned v) u (Jvm.fieldLocs frame_1_writes args s ++ Jvm.arrayLocs frame_1_arrays args s ++ Jvm.staticLocs frame_1_statics s) 16 128 → Post tb e args s (.returned v) u) :
    ArmFor flags0 classFile x code maxLocals ret World_1 tables_1 room_1 Calls_1 rest_1 Pre_1 Post := by
  intro l hfl _ _ p e ha hc hk s m args below hf hA hF happ hP
  obtain ⟨hcalls, hrest, hpre⟩ := hP
  obtain ⟨-, -, -, hnamed, -, -, -, hat⟩ := (Spec.applies_iff hf).mp happ
  obtain ⟨hg, hn⟩ := and_e (Cond.before_iff.mp (show (Jvm.Cond.and given_1 narrow_1).before args s = true from hpre))
  obtain ⟨g0, g1⟩ := and_e hg
  obtain ⟨ga0, gr0⟩ := and_e g1
  obtain ⟨ga1, gr1⟩ := and_e gr0
  obtain ⟨w0, w1, w2, rfl⟩ : ∃ w0 w1 w2 : Value, args = #[w0, w1, w2] := by
    have hs : args.size = 3 := by simpa [Cond.value, given_1] using g0
    obtain ⟨L⟩ := args
    match L, hs with
    | [w0, w1, w2], _ => exact ⟨w0, w1, w2, rfl⟩
  have hw := fun d (hd : d ∈ tables_1) => atoms_spec (ws := Jvm.Cond.code x code maxLocals ret :: tables_1) hat d (List.mem_cons_of_mem _ hd)
  have hfit : Fit s := fun {y c} hc i hi => by
    obtain ⟨ha, rfl⟩ := Array.getElem?_eq_some_iff.mp hc
    have q := List.all_eq_true.mp ((Array.all_eq_true_iff_forall_mem.mp hF) _ (Array.getElem_mem ha)) i (List.mem_range.mpr hi)
    simpa [Array.getElem?_eq_getElem hi] using q
  obtain ⟨i0, e0⟩ := is_v ga0
  obtain rfl : w0 = (.int i0) := Option.some.inj e0
  obtain ⟨i1, e1⟩ := is_v ga1
  obtain rfl : w1 = (.int i1) := Option.some.inj e1
  obtain ⟨i2, e2⟩ := is_v gr1
  obtain rfl : w2 = (.int i2) := Option.some.inj e2
  obtain ⟨n, o, h1, h2, h3, _, L, rfl, ⟨rfl, N⟩, hq⟩ := rm0 l s _ hw i0 i1 i2  s.heap s.heap.size (Nat.le_refl _)  p e ha hc hk s m _ below hf ((Spec.applies_iff_loose hf).mp happ).1 ⟨rfl, State.Warmed39.refl s, rfl⟩ trivial
  exact ⟨n, _, h1, h2, h3, hpost _ _ _ _ _ _ ⟨Cond.after_iff.mpr rfl, Cond.after_iff.mpr (eq_i res_at (Term.int_eval (1)) rfl), trivial⟩ ⟨hq.1, hq.2.1, (hq.2.2.sift fun y hy => Or.inr (N y hy)).mono (by decide) (by decide)⟩⟩
theorem main_1_1 : Claimed_1_1 := comes_1 fun _ _ _ _ _ _ h hF => ⟨h.1, hF⟩
theorem main_1_2 : Claimed_1_2 := comes_1 fun _ _ _ _ _ _ h hF => ⟨h.2.1, hF⟩
end Jvm.Pilot.@@N@@
namespace Jvm.Pilot.@@N@@
open Jvm Jvm.ClassFile Sem Op Lib Jvm.Free Jvm.Stand Jvm.Pilot.@@N@@.Jvm.D
/-! MADE BY PROGRAM (witnessworld.py) out of the Statement's table words and the real class files: 10 classes; the members and pool entries that the words name. The judged class is class 1, her method 1. -/
namespace start1
open Jvm.ClassFile
def u (s : String) : CpInfo := .utf8 (stringToUtf16 s)
/-- a pool by its gaps: so many unusable entries, then the entry; so many at the end -/
def gap : Nat → List CpInfo → List CpInfo
  | 0, r => r
  | n + 1, r => .unusable :: gap n r
def poolList (es : List (Nat × CpInfo)) (last : Nat) : List CpInfo := es.foldr (fun e r => gap e.1 (e.2 :: r)) (gap last [])
def pool (es : List (Nat × CpInfo)) (last : Nat) : Array CpInfo := ⟨poolList es last⟩
def fileOf (pool : Array CpInfo) (this : Nat) (attrs : Array Attribute := #[]) (ms : Array MethodInfo := #[]) (fl : Nat := 33) (sup : Nat := 0) (ifs : Array Nat := #[]) (fds : Array FieldInfo := #[]) : ClassFile where
  minorVersion := 0
  majorVersion := 65
  constantPool := pool
  accessFlags := fl
  thisClass := this
  superClass := sup
  interfaces := ifs
  fields := fds
  methods := ms
  attributes := attrs
def plain (name : String) (sup : Option ClassId) : Class where
  name := name
  kind := .ordinary
  loader := none
  accessFlags := 33
  super := sup
  interfaces := #[]
  cf := none
  fields := #[]
  methods := #[]
  instanceTypes := #[]
  staticTypes := #[]
  resolved := #[]
  callSites := []
  init := .initialized
  statics := none
  mirror := none

def pool0 : Array CpInfo := pool [(5, u "<init>"), (0, u "()V"), (1, .class_ 10), (1, u "java/lang/Object")] 113

def k0c0 : Code := { maxStack := 0, maxLocals := 1, code := object_method_1_code, exceptionTable := #[], attributes := #[] }
def k0m0 : Method := { name := "<init>", desc := "()V", sig := { parameters := [], returnType := none }, accessFlags := 1, code := some k0c0 }
/-- java/lang/Object -/
def k0 : Class := { plain "java/lang/Object" none with
  accessFlags := 33
  interfaces := #[]
  cf := some (fileOf pool0 8 #[] #[{ accessFlags := 1, nameIndex := 5, descriptorIndex := 6, attributes := #[] }] 33 0 #[] #[])
  fields := #[]
  methods := #[k0m0]
  instanceTypes := #[]
  staticTypes := #[]
  resolved := Array.replicate 124 none
  statics := none }

def pool1 : Array CpInfo := pool [(2, .class_ 4), (1, u "java/lang/Object"), (0, u "<init>"), (0, u "()V"), (0, .class_ 8), (0, u "com/example/dayweave/dayweave/solve/Instance$Link"), (0, .methodref 7 10), (0, .nameAndType 5 11), (0, u "(Lcom/example/dayweave/dayweave/model/Rule;IID)V"), (0, .methodref 7 13), (0, .nameAndType 14 15), (0, u "names"), (0, u "(I)Z"), (0, .class_ 17), (0, u "com/example/dayweave/dayweave/solve/LinkNamesPinLaw"), (2, u "law"), (0, u "(III)Z")] 7

def k1m0 : Method := { name := "<init>", desc := "()V", sig := { parameters := [], returnType := none }, accessFlags := 2, code := none }
def k1c1 : Code := { maxStack := 7, maxLocals := 7, code := code, exceptionTable := #[], attributes := #[] }
def k1m1 : Method := { name := "law", desc := "(III)Z", sig := { parameters := [.int, .int, .int], returnType := some .boolean }, accessFlags := 9, code := some k1c1 }
/-- com/example/dayweave/dayweave/solve/LinkNamesPinLaw -/
def k1 : Class := { plain "com/example/dayweave/dayweave/solve/LinkNamesPinLaw" (some 0) with
  accessFlags := 49
  interfaces := #[]
  cf := some (fileOf pool1 16 #[] #[{ accessFlags := 2, nameIndex := 5, descriptorIndex := 6, attributes := #[] }, { accessFlags := 9, nameIndex := 20, descriptorIndex := 21, attributes := #[] }] 49 2 #[] #[])
  fields := #[]
  methods := #[k1m0, k1m1]
  instanceTypes := #[]
  staticTypes := #[]
  resolved := Array.replicate 29 none
  statics := none }

def pool2 : Array CpInfo := pool [(1, .methodref 2 3), (0, .class_ 4), (0, .nameAndType 5 6), (0, u "java/lang/Object"), (0, u "<init>"), (0, u "()V"), (0, .class_ 8), (0, u "java/lang/Record")] 13

def k2c0 : Code := { maxStack := 1, maxLocals := 1, code := jdk_30_method_1_code, exceptionTable := #[], attributes := #[] }
def k2m0 : Method := { name := "<init>", desc := "()V", sig := { parameters := [], returnType := none }, accessFlags := 4, code := some k2c0 }
/-- java/lang/Record -/
def k2 : Class := { plain "java/lang/Record" (some 0) with
  accessFlags := 1057
  interfaces := #[]
  cf := some (fileOf pool2 7 #[] #[{ accessFlags := 4, nameIndex := 5, descriptorIndex := 6, attributes := #[] }] 1057 2 #[] #[])
  fields := #[]
  methods := #[k2m0]
  instanceTypes := #[]
  staticTypes := #[]
  resolved := Array.replicate 22 none
  statics := none }

def pool3 : Array CpInfo := pool [(1, .methodref 2 3), (0, .class_ 4), (0, .nameAndType 5 6), (0, u "java/lang/Record"), (0, u "<init>"), (0, u "()V"), (0, .fieldref 8 9), (0, .class_ 10), (0, .nameAndType 11 12), (0, u "com/example/dayweave/dayweave/solve/Instance$Link"), (0, u "rule"), (0, u "Lcom/example/dayweave/dayweave/model/Rule;"), (0, .fieldref 8 14), (0, .nameAndType 15 16), (0, u "first"), (0, u "I"), (0, .fieldref 8 18), (0, .nameAndType 19 16), (0, u "second"), (0, .fieldref 8 21), (0, .nameAndType 22 23), (0, u "utility"), (0, u "D"), (18, u "(Lcom/example/dayweave/dayweave/model/Rule;IID)V"), (3, u "names"), (0, u "(I)Z"), (15, .class_ 64), (0, u "com/example/dayweave/dayweave/solve/Instance")] 22

def k3c0 : Code := { maxStack := 3, maxLocals := 6, code := prog_33_method_1_code, exceptionTable := #[], attributes := #[] }
def k3m0 : Method := { name := "<init>", desc := "(Lcom/example/dayweave/dayweave/model/Rule;IID)V", sig := { parameters := [(.object "com/example/dayweave/dayweave/model/Rule"), .int, .int, .double], returnType := none }, accessFlags := 0, code := some k3c0 }
def k3c1 : Code := { maxStack := 2, maxLocals := 2, code := prog_33_method_2_code, exceptionTable := #[], attributes := #[] }
def k3m1 : Method := { name := "names", desc := "(I)Z", sig := { parameters := [.int], returnType := some .boolean }, accessFlags := 0, code := some k3c1 }
/-- com/example/dayweave/dayweave/solve/Instance$Link -/
def k3 : Class := { plain "com/example/dayweave/dayweave/solve/Instance$Link" (some 2) with
  accessFlags := 48
  interfaces := #[]
  cf := some (fileOf pool3 8 #[.nestHost 63] #[{ accessFlags := 0, nameIndex := 5, descriptorIndex := 42, attributes := #[] }, { accessFlags := 0, nameIndex := 46, descriptorIndex := 47, attributes := #[] }] 48 2 #[] #[{ accessFlags := 18, nameIndex := 11, descriptorIndex := 12, attributes := #[] }, { accessFlags := 18, nameIndex := 15, descriptorIndex := 16, attributes := #[] }, { accessFlags := 18, nameIndex := 19, descriptorIndex := 16, attributes := #[] }, { accessFlags := 18, nameIndex := 22, descriptorIndex := 23, attributes := #[] }])
  fields := #[{ name := "rule", type := (.object "com/example/dayweave/dayweave/model/Rule"), accessFlags := 18, slot := 0, constantValue := 0 }, { name := "first", type := .int, accessFlags := 18, slot := 1, constantValue := 0 }, { name := "second", type := .int, accessFlags := 18, slot := 2, constantValue := 0 }, { name := "utility", type := .double, accessFlags := 18, slot := 3, constantValue := 0 }]
  methods := #[k3m0, k3m1]
  instanceTypes := #[(.object "com/example/dayweave/dayweave/model/Rule"), .int, .int, .double]
  staticTypes := #[]
  resolved := Array.replicate 87 none
  statics := none }

def pool4 : Array CpInfo := pool [(1, u "java/lang/Cloneable"), (0, .class_ 1), (0, u "java/lang/Object"), (0, .class_ 3)] 3

/-- java/lang/Cloneable -/
def k4 : Class := { plain "java/lang/Cloneable" (some 0) with
  accessFlags := 1537
  interfaces := #[]
  cf := some (fileOf pool4 2 #[] #[] 1537 4 #[] #[])
  fields := #[]
  methods := #[]
  instanceTypes := #[]
  staticTypes := #[]
  resolved := Array.replicate 8 none
  statics := none }

def pool5 : Array CpInfo := pool [(1, u "java/io/Serializable"), (0, .class_ 1), (0, u "java/lang/Object"), (0, .class_ 3)] 3

/-- java/io/Serializable -/
def k5 : Class := { plain "java/io/Serializable" (some 0) with
  accessFlags := 1537
  interfaces := #[]
  cf := some (fileOf pool5 2 #[] #[] 1537 4 #[] #[])
  fields := #[]
  methods := #[]
  instanceTypes := #[]
  staticTypes := #[]
  resolved := Array.replicate 8 none
  statics := none }

/-- the primitive byte -/
def k6 : Class := { plain "byte" none with kind := .primitive 'B', accessFlags := 0x411 }
/-- [B -/
def k7 : Class := { plain "[B" (some 0) with kind := .array 6 .byte, interfaces := #[4, 5], accessFlags := 1041 }

/-- the primitive int -/
def k8 : Class := { plain "int" none with kind := .primitive 'I', accessFlags := 0x411 }
/-- [I -/
def k9 : Class := { plain "[I" (some 0) with kind := .array 8 .int, interfaces := #[4, 5], accessFlags := 1041 }

def heap : Heap := #[]
def classes : Array Class := #[k0, k1, k2, k3, k4, k5, k6, k7, k8, k9]
def interned : List (Array UInt16 × Addr) := []
def slotsUsed : Nat := 0
def theMethod : MethodId := ⟨1, 1⟩
def args0 : Array Value := #[.int 5, .int 6, .int 7]
def aboutOver (below : List Frame) : State where
  vm := { classes := classes, interned := interned.toArray }
  heap := heap
  slotsUsed := slotsUsed
  threads := #[{ frames := .invoking theMethod args0 :: below }]
def below0 : List Frame := [.native { method := ⟨0, 0⟩, args := #[] }]
def about1 : State := aboutOver below0
def p0 : Program := .bare "" "" ""
def e0 : Env := launch0.env 0 0 0
theorem w_frames : about1.frames = Frame.invoking theMethod args0 :: below0 := rfl
set_option maxRecDepth 65536 in
theorem w_args : argsFit about1.vm theMethod args0 = true := by decide +kernel
set_option maxRecDepth 65536 in
theorem w_heap : heapFits about1 = true := by decide +kernel
set_option maxRecDepth 65536 in
theorem w_runnable : about1.curStatus? = some .runnable := by decide +kernel
set_option maxRecDepth 65536 in
theorem w_alone : about1.alone = true := by decide +kernel
set_option maxRecDepth 65536 in
theorem w_named : about1.methodNamed? x = some theMethod := by decide +kernel
set_option maxRecDepth 65536 in
theorem w_hears : about1.hears theMethod below0 = true := by decide +kernel
set_option maxRecDepth 65536 in
theorem w_ripe : about1.ripe theMethod args0 below0 = true := by decide +kernel
theorem w_running : about1.status = .running := rfl
set_option maxRecDepth 65536 in
theorem w_room : about1.hasRoom e0.platform room_1 = true :=
  launch0.hasRoom_least _ room_1 (by decide +kernel) (by decide +kernel) (by decide +kernel) (by decide +kernel) (by decide +kernel) (by decide +kernel)
theorem allAtoms_all (ts : List Jvm.Cond) (a : Array Jvm.Value) (st : Jvm.State) : (allAtoms ts).before a st = ts.all (fun c => c.before a st) := by
  induction ts with
  | nil => rfl
  | cons c t ih =>
    show (Jvm.Cond.and c (allAtoms t)).before a st = _
    rw [Jvm.Cond.before_and, ih, List.all_cons]
def words1 : List Jvm.Cond := Jvm.Cond.code x code maxLocals ret :: tables_1
/-- a 'code' word, met by the world's own term for the bytes: nothing is compared byte by byte -/
theorem code_word {y : MethodName} {bytes : ByteArray} {mx : Nat} {rt : Option FieldType} {a : Array Value} {s : State} {m : MethodId} {meth : Method} {c : Code} (h1 : s.methodNamed? y = some m) (h2 : s.vm.method? m = some meth) (h3 : meth.code = some c) (h4 : c.code = bytes)
    (h5 : (c.maxLocals == mx && c.exceptionTable.isEmpty && decide (c.maxStack ≤ mostOperands) && decide (meth.sig.returnType = rt) && !meth.locks && decide (parseMethodDescriptor y.desc = some meth.sig)) = true) : (Jvm.Cond.code y bytes mx rt).before a s = true := by
  simp only [Bool.and_eq_true, beq_iff_eq, Bool.not_eq_true', decide_eq_true_eq] at h5
  obtain ⟨⟨⟨⟨⟨g1, g2⟩, g3⟩, g4⟩, g5⟩, g6⟩ := h5
  simp [Cond.before, Cond.holds, Cond.value, h1, h2, h3, h4, g1, g2, g3, g4, g5, g6]
def isCode : Jvm.Cond → Bool
  | .code _ _ _ _ => true
  | _ => false
theorem all_split {L : List Jvm.Cond} {P : Jvm.Cond → Bool} (h1 : L.all (fun c => isCode c || P c) = true) (h2 : ∀ c ∈ L.filter isCode, P c = true) : L.all P = true := by
  refine List.all_eq_true.mpr fun c hc => ?_
  have h := List.all_eq_true.mp h1 c hc
  rcases Bool.eq_false_or_eq_true (isCode c) with hi | hi
  · exact h2 c (List.mem_filter.mpr ⟨hc, hi⟩)
  · simpa [hi] using h
set_option maxRecDepth 65536 in
theorem w_c0 : (Jvm.Cond.code x code maxLocals ret).before args0 about1 = true := code_word (m := ⟨1, 1⟩) (meth := k1m1) (c := k1c1) (by decide +kernel) rfl rfl rfl (by decide +kernel)
set_option maxRecDepth 65536 in
theorem w_c1 : (Jvm.Cond.code ({ cls := "com/example/dayweave/dayweave/solve/Instance$Link", name := "<init>", desc := "(Lcom/example/dayweave/dayweave/model/Rule;IID)V" } : Jvm.MethodName) prog_33_method_1_code (6 : Nat) (Option.none : Option Jvm.ClassFile.FieldType)).before args0 about1 = true := code_word (m := ⟨3, 0⟩) (meth := k3m0) (c := k3c0) (by decide +kernel) rfl rfl rfl (by decide +kernel)
set_option maxRecDepth 65536 in
theorem w_c2 : (Jvm.Cond.code ({ cls := "java/lang/Record", name := "<init>", desc := "()V" } : Jvm.MethodName) jdk_30_method_1_code (1 : Nat) (Option.none : Option Jvm.ClassFile.FieldType)).before args0 about1 = true := code_word (m := ⟨2, 0⟩) (meth := k2m0) (c := k2c0) (by decide +kernel) rfl rfl rfl (by decide +kernel)
set_option maxRecDepth 65536 in
theorem w_c3 : (Jvm.Cond.code ({ cls := "java/lang/Object", name := "<init>", desc := "()V" } : Jvm.MethodName) object_method_1_code (1 : Nat) (Option.none : Option Jvm.ClassFile.FieldType)).before args0 about1 = true := code_word (m := ⟨0, 0⟩) (meth := k0m0) (c := k0c0) (by decide +kernel) rfl rfl rfl (by decide +kernel)
set_option maxRecDepth 65536 in
theorem w_c4 : (Jvm.Cond.code ({ cls := "com/example/dayweave/dayweave/solve/Instance$Link", name := "names", desc := "(I)Z" } : Jvm.MethodName) prog_33_method_2_code (2 : Nat) (Option.some Jvm.ClassFile.FieldType.boolean)).before args0 about1 = true := code_word (m := ⟨3, 1⟩) (meth := k3m1) (c := k3c1) (by decide +kernel) rfl rfl rfl (by decide +kernel)
def codes1 : List Jvm.Cond := [Jvm.Cond.code x code maxLocals ret, Jvm.Cond.code ({ cls := "com/example/dayweave/dayweave/solve/Instance$Link", name := "<init>", desc := "(Lcom/example/dayweave/dayweave/model/Rule;IID)V" } : Jvm.MethodName) prog_33_method_1_code (6 : Nat) (Option.none : Option Jvm.ClassFile.FieldType), Jvm.Cond.code ({ cls := "java/lang/Record", name := "<init>", desc := "()V" } : Jvm.MethodName) jdk_30_method_1_code (1 : Nat) (Option.none : Option Jvm.ClassFile.FieldType), Jvm.Cond.code ({ cls := "java/lang/Object", name := "<init>", desc := "()V" } : Jvm.MethodName) object_method_1_code (1 : Nat) (Option.none : Option Jvm.ClassFile.FieldType), Jvm.Cond.code ({ cls := "com/example/dayweave/dayweave/solve/Instance$Link", name := "names", desc := "(I)Z" } : Jvm.MethodName) prog_33_method_2_code (2 : Nat) (Option.some Jvm.ClassFile.FieldType.boolean)]
set_option maxRecDepth 65536 in
theorem codes_eq : words1.filter isCode = codes1 := rfl
theorem w_codes : ∀ c ∈ words1.filter isCode, c.before args0 about1 = true := by
  rw [codes_eq]
  intro c hc
  simp only [codes1, List.mem_cons, List.not_mem_nil, or_false] at hc
  rcases hc with rfl | rfl | rfl | rfl | rfl
  · exact w_c0
  · exact w_c1
  · exact w_c2
  · exact w_c3
  · exact w_c4
set_option maxRecDepth 65536 in
theorem w_t1 : (words1.take 24).all (fun c => isCode c || c.before args0 about1) = true := by decide +kernel
set_option maxRecDepth 65536 in
theorem w_t2 : (words1.drop 24).all (fun c => isCode c || c.before args0 about1) = true := by decide +kernel
theorem w_tables : (allAtoms (Jvm.Cond.code x code maxLocals ret :: tables_1)).before args0 about1 = true := by
  rw [allAtoms_all]
  show words1.all (fun c => c.before args0 about1) = true
  refine all_split ?_ w_codes
  rw [← List.take_append_drop 24 words1, List.all_append, w_t1, w_t2]
  rfl
set_option maxRecDepth 65536 in
theorem w_case : (Jvm.Cond.and given_1 narrow_1).before args0 about1 = true := by decide +kernel
theorem w_applies : (headSpec (Jvm.Cond.code x code maxLocals ret :: tables_1) room_1).applies x e0.platform about1 = true :=
  (Spec.applies_iff w_frames).mpr ⟨w_running, w_runnable, w_alone, w_named, w_hears, w_ripe, w_room, w_tables⟩
theorem atStart : AtStart classFile x code maxLocals ret World_1 tables_1 room_1 Calls_1 rest_1 Pre_1 launch0 p0 e0 about1 theMethod args0 below0 :=
  ⟨lists_1, trivial, launch0.admits_env _ _ _, launch0.least_env, fairChoices_fair.cas, fairChoices_fair.clock, w_frames, w_args, w_heap, w_applies, trivial, trivial, w_case⟩
end start1
theorem witness_1 : WitnessClaimed_1 := ⟨start1.p0, start1.e0, start1.about1, start1.theMethod, start1.args0, start1.below0, start1.atStart⟩
end Jvm.Pilot.@@N@@
