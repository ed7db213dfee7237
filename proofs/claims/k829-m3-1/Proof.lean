import JvmDerived
import JvmDerived.Pilot.@@N@@Statement
import JvmDerived.Pilot.@@N@@Code
set_option linter.unusedVariables false
set_option linter.unusedSimpArgs false
namespace Jvm.OwnK
open Jvm Sem ClassFile Op Lib Jvm.Stand Jvm.Free Jvm.LawKit Jvm.RoadKit
section A
variable {tabs : List Jvm.Cond} {a0 : Array Value} {Z : State} {own nm : String} {code : ByteArray} {ml : Nat} {ret : Option FieldType} {p : Program} {l : Launch} {e : Env} {R : Room} {s : State} {m : MethodId} {args : Array Value} {below : List Frame} {meth : Method} {c : Code} {n0 : Nat} {T : State} {h : Heap} {k n : Nat} {Q : Option Value → Heap → Prop} {G : Outcome → State → List Loc → Prop} {pc : Nat} {ls : Array Slot} {st : List Value}
/-- what stands fast through a method's walk -/
def Cx (tabs : List Jvm.Cond) (a0 : Array Value) (Z : State) (own nm : String) (code : ByteArray) (ml : Nat) (ret : Option FieldType) (p : Program) (s : State) (m : MethodId) (meth : Method) (c : Code) : Prop :=
  p.tables.exec = Jvm.exec ∧ Z.Warmed39 s.vm ∧ c.code = code ∧ c.maxLocals = ml ∧ s.vm.findClass own = some m.cls ∧ meth.sig.returnType = ret ∧ meth.locks = false ∧ meth.name = nm ∧ ∀ d ∈ tabs, d.before a0 Z = true
/-- where the walk stands: the heap h, k cells and n slots made so far, nothing below n0 written -/
def St (p : Program) (l : Launch) (e : Env) (R : Room) (s : State) (m : MethodId) (args : Array Value) (below : List Frame) (meth : Method) (c : Code) (n0 : Nat) (T : State) (h : Heap) (k n : Nat) : Prop :=
  ∃ locs, Stand p l e R s m args below meth c T locs k n ∧ T.heap = h ∧ Fr n0 locs ∧ n0 ≤ s.heap.size
/-- from this frame the method ends, and returns what Q says -/
def Run (p : Program) (e : Env) (below : List Frame) (n0 : Nat) (Q : Option Value → Heap → Prop) (G : Outcome → State → List Loc → Prop) (m : MethodId) (T : State) (pc : Nat) (ls : Array Slot) (st : List Value) : Prop :=
  ∃ s₂ o, Steps p.tables e below (T.setTop (mkF m pc ls st)) s₂ ∧ s₂.status = .running ∧ Ended s₂ below o ∧ ∃ v L, o = .returned v ∧ (Q v s₂.heap ∧ Fr n0 L) ∧ G o s₂ L
theorem Run.step {T' : State} {pc' : Nat} {ls' : Array Slot} {st' : List Value} (f : ∀ t, Steps p.tables e below (T'.setTop (mkF m pc' ls' st')) t → Steps p.tables e below (T.setTop (mkF m pc ls st)) t) (r : Run p e below n0 Q G m T' pc' ls' st') : Run p e below n0 Q G m T pc ls st := by
  obtain ⟨s₂, o, h1, h2⟩ := r
  exact ⟨s₂, o, f _ h1, h2⟩
theorem Run.steps {T' : State} {pc' : Nat} {ls' : Array Slot} {st' : List Value} (f : Steps p.tables e below (T.setTop (mkF m pc ls st)) (T'.setTop (mkF m pc' ls' st'))) (r : Run p e below n0 Q G m T' pc' ls' st') : Run p e below n0 Q G m T pc ls st := Run.step (fun _ q => f.trans q) r
theorem Run.cast {st' : List Value} (q : st = st') (r : Run p e below n0 Q G m T pc ls st') : Run p e below n0 Q G m T pc ls st := q ▸ r
theorem St.at' (X : St p l e R s m args below meth c n0 T h k n) : Jvm.At T m c below := by obtain ⟨_, X, -⟩ := X; exact X.here
theorem St.sz (X : St p l e R s m args below meth c n0 T h k n) : n0 ≤ h.size := by
  obtain ⟨_, X, rfl, -, q⟩ := X
  exact Nat.le_trans q X.same.2.1
theorem Cx.d {r : Except DecodeError (Instr × Nat)} (C : Cx tabs a0 Z own nm code ml ret p s m meth c) (q : decode code pc = r) : decode c.code pc = r := hb C.2.2.1 q
theorem Cx.w {d : Jvm.Cond} (C : Cx tabs a0 Z own nm code ml ret p s m meth c) (q : d ∈ tabs) : d.before a0 Z = true := C.2.2.2.2.2.2.2.2 d q
theorem s_iloadN (pc' : Nat) (C : Cx tabs a0 Z own nm code ml ret p s m meth c) (X : St p l e R s m args below meth c n0 T h k n) {i : Fin 4} {v : Int32} (hd : decode code pc = .ok (.iload_n i, 1)) (hl : ls[i.val]? = some (.val (.int v))) (r : Run p e below n0 Q G m T pc' ls (.int v :: st)) (hp : pc + 1 = pc' := by rfl) : Run p e below n0 Q G m T pc ls st := by
  subst hp
  exact Run.step (fun t q => XS.iloadN X.at' C.1 rfl (C.d hd) hl q) r
theorem s_iload (pc' : Nat) (C : Cx tabs a0 Z own nm code ml ret p s m meth c) (X : St p l e R s m args below meth c n0 T h k n) {i : Nat} {v : Int32} (hd : decode code pc = .ok (.iload i, 2)) (hl : ls[i]? = some (.val (.int v))) (r : Run p e below n0 Q G m T pc' ls (.int v :: st)) (hp : pc + 2 = pc' := by rfl) : Run p e below n0 Q G m T pc ls st := by
  subst hp
  exact Run.step (fun t q => XS.iload X.at' C.1 rfl (C.d hd) hl q) r
theorem s_lloadN (pc' : Nat) (C : Cx tabs a0 Z own nm code ml ret p s m meth c) (X : St p l e R s m args below meth c n0 T h k n) {i : Fin 4} {v : Int64} (hd : decode code pc = .ok (.lload_n i, 1)) (hl : ls[i.val]? = some (.val (.long v))) (r : Run p e below n0 Q G m T pc' ls (.long v :: st)) (hp : pc + 1 = pc' := by rfl) : Run p e below n0 Q G m T pc ls st := by
  subst hp
  exact Run.step (fun t q => XT.lloadN X.at' C.1 rfl (C.d hd) hl q) r
theorem s_lload (pc' : Nat) (C : Cx tabs a0 Z own nm code ml ret p s m meth c) (X : St p l e R s m args below meth c n0 T h k n) {i : Nat} {v : Int64} (hd : decode code pc = .ok (.lload i, 2)) (hl : ls[i]? = some (.val (.long v))) (r : Run p e below n0 Q G m T pc' ls (.long v :: st)) (hp : pc + 2 = pc' := by rfl) : Run p e below n0 Q G m T pc ls st := by
  subst hp
  exact Run.step (fun t q => XT.lload X.at' C.1 rfl (C.d hd) hl q) r
theorem s_aloadN (pc' : Nat) (C : Cx tabs a0 Z own nm code ml ret p s m meth c) (X : St p l e R s m args below meth c n0 T h k n) {i : Fin 4} {v : Value} (hd : decode code pc = .ok (.aload_n i, 1)) (hl : ls[i.val]? = some (.val v)) (hv : v.isRef = true) (r : Run p e below n0 Q G m T pc' ls (v :: st)) (hp : pc + 1 = pc' := by rfl) : Run p e below n0 Q G m T pc ls st := by
  subst hp
  exact Run.step (fun t q => XS.aloadN X.at' C.1 rfl (C.d hd) hl hv q) r
theorem s_aload (pc' : Nat) (C : Cx tabs a0 Z own nm code ml ret p s m meth c) (X : St p l e R s m args below meth c n0 T h k n) {i : Nat} {v : Value} (hd : decode code pc = .ok (.aload i, 2)) (hl : ls[i]? = some (.val v)) (hv : v.isRef = true) (r : Run p e below n0 Q G m T pc' ls (v :: st)) (hp : pc + 2 = pc' := by rfl) : Run p e below n0 Q G m T pc ls st := by
  subst hp
  exact Run.step (fun t q => XS.aload X.at' C.1 rfl (C.d hd) hl hv q) r
theorem s_lstore (pc' : Nat) (C : Cx tabs a0 Z own nm code ml ret p s m meth c) (X : St p l e R s m args below meth c n0 T h k n) {i : Nat} {v : Int64} {l' : Array Slot} (hd : decode code pc = .ok (.lstore i, 2)) (hl : storeLocals ls i (.long v) = some l') (r : Run p e below n0 Q G m T pc' l' st) (hp : pc + 2 = pc' := by rfl) : Run p e below n0 Q G m T pc ls (.long v :: st) := by
  subst hp
  exact Run.step (fun t q => XT.lstore X.at' C.1 rfl (C.d hd) rfl hl q) r
theorem s_astore (pc' : Nat) (C : Cx tabs a0 Z own nm code ml ret p s m meth c) (X : St p l e R s m args below meth c n0 T h k n) {i : Nat} {v : Value} {l' : Array Slot} (hd : decode code pc = .ok (.astore i, 2)) (hv : v.isRef = true) (hl : storeLocals ls i v = some l') (r : Run p e below n0 Q G m T pc' l' st) (hp : pc + 2 = pc' := by rfl) : Run p e below n0 Q G m T pc ls (v :: st) := by
  subst hp
  exact Run.step (fun t q => XS.astore X.at' C.1 rfl (C.d hd) rfl hv hl q) r
theorem s_iconst (pc' : Nat) (C : Cx tabs a0 Z own nm code ml ret p s m meth c) (X : St p l e R s m args below meth c n0 T h k n) {i : Int} {z : Int32} (hd : decode code pc = .ok (.iconst i, 1)) (hz : Int32.ofInt i = z) (r : Run p e below n0 Q G m T pc' ls (.int z :: st)) (hp : pc + 1 = pc' := by rfl) : Run p e below n0 Q G m T pc ls st := by
  subst hp
  exact Run.step (fun t q => XS.iconst X.at' C.1 rfl (C.d hd) (by rw [hz]; exact q)) r
theorem s_ladd (pc' : Nat) (C : Cx tabs a0 Z own nm code ml ret p s m meth c) (X : St p l e R s m args below meth c n0 T h k n) {x y : Int64} (hd : decode code pc = .ok (.ladd, 1)) (r : Run p e below n0 Q G m T pc' ls (.long (x + y) :: st)) (hp : pc + 1 = pc' := by rfl) : Run p e below n0 Q G m T pc ls (.long y :: .long x :: st) := by
  subst hp
  exact Run.step (fun t q => XT.ladd X.at' C.1 rfl (C.d hd) rfl q) r
theorem s_i2l (pc' : Nat) (C : Cx tabs a0 Z own nm code ml ret p s m meth c) (X : St p l e R s m args below meth c n0 T h k n) {x : Int32} (hd : decode code pc = .ok (.i2l, 1)) (r : Run p e below n0 Q G m T pc' ls (.long x.toInt64 :: st)) (hp : pc + 1 = pc' := by rfl) : Run p e below n0 Q G m T pc ls (.int x :: st) := by
  subst hp
  exact Run.step (fun t q => XT.i2l X.at' C.1 rfl (C.d hd) rfl q) r
theorem s_dup (pc' : Nat) (C : Cx tabs a0 Z own nm code ml ret p s m meth c) (X : St p l e R s m args below meth c n0 T h k n) {v : Value} (hd : decode code pc = .ok (.dup, 1)) (hc : v.category = 1) (r : Run p e below n0 Q G m T pc' ls (v :: v :: st)) (hp : pc + 1 = pc' := by rfl) : Run p e below n0 Q G m T pc ls (v :: st) := by
  subst hp
  exact Run.step (fun t q => XS.dup X.at' C.1 rfl (C.d hd) rfl hc q) r
theorem s_dload (pc' : Nat) (C : Cx tabs a0 Z own nm code ml ret p s m meth c) (X : St p l e R s m args below meth c n0 T h k n) {i : Nat} {v : UInt64} (hd : decode code pc = .ok (.dload i, 2)) (hl : ls[i]? = some (.val (.double v))) (r : Run p e below n0 Q G m T pc' ls (.double v :: st)) (hp : pc + 2 = pc' := by rfl) : Run p e below n0 Q G m T pc ls st := by
  subst hp
  exact Run.step (fun t q => XS.dload X.at' C.1 rfl (C.d hd) hl q) r
theorem s_dloadN (pc' : Nat) (C : Cx tabs a0 Z own nm code ml ret p s m meth c) (X : St p l e R s m args below meth c n0 T h k n) {i : Fin 4} {v : UInt64} (hd : decode code pc = .ok (.dload_n i, 1)) (hl : ls[i.val]? = some (.val (.double v))) (r : Run p e below n0 Q G m T pc' ls (.double v :: st)) (hp : pc + 1 = pc' := by rfl) : Run p e below n0 Q G m T pc ls st := by
  subst hp
  exact Run.step (fun t q => XS.dloadN X.at' C.1 rfl (C.d hd) hl q) r
theorem s_i2d (pc' : Nat) (C : Cx tabs a0 Z own nm code ml ret p s m meth c) (X : St p l e R s m args below meth c n0 T h k n) {x : Int32} (hd : decode code pc = .ok (.i2d, 1)) (r : Run p e below n0 Q G m T pc' ls (.double (FP.l2d x.toInt64) :: st)) (hp : pc + 1 = pc' := by rfl) : Run p e below n0 Q G m T pc ls (.int x :: st) := by
  subst hp
  exact Run.step (fun t q => XS.i2dS X.at' C.1 rfl (C.d hd) rfl (i2d_w x) q) r
theorem s_l2d (pc' : Nat) (C : Cx tabs a0 Z own nm code ml ret p s m meth c) (X : St p l e R s m args below meth c n0 T h k n) {x : Int64} (hd : decode code pc = .ok (.l2d, 1)) (r : Run p e below n0 Q G m T pc' ls (.double (FP.l2d x) :: st)) (hp : pc + 1 = pc' := by rfl) : Run p e below n0 Q G m T pc ls (.long x :: st) := by
  subst hp
  exact Run.step (fun t q => XS.l2dS X.at' C.1 rfl (C.d hd) rfl rfl q) r
theorem s_dadd (pc' : Nat) (C : Cx tabs a0 Z own nm code ml ret p s m meth c) (X : St p l e R s m args below meth c n0 T h k n) {u w : Int64} (hd : decode code pc = .ok (.dadd, 1)) (ha : B53 u) (hb : B53 w) (r : Run p e below n0 Q G m T pc' ls (.double (FP.l2d (u + w)) :: st)) (hp : pc + 1 = pc' := by rfl) : Run p e below n0 Q G m T pc ls (.double (FP.l2d w) :: .double (FP.l2d u) :: st) := by
  subst hp
  exact Run.step (fun t q => XS.daddS X.at' C.1 rfl (C.d hd) rfl (nn_w (dadd_w ha hb)) (dadd_w ha hb) q) r
theorem s_dcmp (pc' : Nat) (C : Cx tabs a0 Z own nm code ml ret p s m meth c) (X : St p l e R s m args below meth c n0 T h k n) {u w : Int64} {o : CmpOp} (hd : decode code pc = .ok (.dcmp o, 1)) (ha : B53 u) (hb : B53 w) (r : Run p e below n0 Q G m T pc' ls (.int (lcmpW u w) :: st)) (hp : pc + 1 = pc' := by rfl) : Run p e below n0 Q G m T pc ls (.double (FP.l2d w) :: .double (FP.l2d u) :: st) := by
  subst hp
  exact Run.step (fun t q => XS.dcmpS X.at' C.1 rfl (C.d hd) rfl (dcmpV_w ha hb o) q) r
theorem s_goto (pc' : Nat) (C : Cx tabs a0 Z own nm code ml ret p s m meth c) (X : St p l e R s m args below meth c n0 T h k n) {o : Int} (hd : decode code pc = .ok (.goto o, 3)) (r : Run p e below n0 Q G m T pc' ls st) (hp : 0 ≤ (pc : Int) + o ∧ ((pc : Int) + o).toNat = pc' := by decide) : Run p e below n0 Q G m T pc ls st := by
  exact Run.step (fun t q => XS.goto X.at' C.1 rfl rfl (C.d hd) hp.1 hp.2 q) r
theorem s_if_ne (pY pN : Nat) (C : Cx tabs a0 Z own nm code ml ret p s m meth c) (X : St p l e R s m args below meth c n0 T h k n) {x : Int32} {o : Int} (hd : decode code pc = .ok (.ifCond .ne o, 3)) (ry : ¬ x = (0 : Int32) → Run p e below n0 Q G m T pY ls st) (rn : x = (0 : Int32) → Run p e below n0 Q G m T pN ls st) (hp : 0 ≤ (pc : Int) + o ∧ ((pc : Int) + o).toNat = pY ∧ pc + 3 = pN := by decide) : Run p e below n0 Q G m T pc ls (.int x :: st) := by
  by_cases g : x = (0 : Int32)
  · obtain rfl := hp.2.2
    exact Run.step (fun t q => XS.ifNo X.at' C.1 rfl (C.d hd) rfl ((if0 _ _).trans (teq g).2) q) (rn g)
  · exact Run.step (fun t q => XS.ifYes X.at' C.1 rfl rfl (C.d hd) rfl ((if0 _ _).trans (feq g).2) hp.1 hp.2.1 q) (ry g)
theorem FE_mono {kc ks : Nat} (hk : k ≤ kc) (hn : n ≤ ks) : ∀ (v : Option Value) (t : State) (L : List Loc), FrameEnd s (.returned v) t L k n → FrameEnd s (.returned v) t L kc ks := fun v t L h => ⟨h.1, h.2.1, h.2.2.mono hk hn⟩
theorem Run.done (C : Cx tabs a0 Z own nm code ml ret p s m meth c) (X : St p l e R s m args below meth c n0 T h k n) {v : Option Value} (hv : ret = none → v = none) (hG : ∀ (v : Option Value) (t : State) (L : List Loc), FrameEnd s (.returned v) t L k n → G (.returned v) t L) (q : Q v h) (f : ∀ locs fs, Stand p l e R s m args below meth c T locs k n → (∀ (f : JFrame) (acts : List Action), f.method = m → f.locked = none → f.entered = [] → (doReturn e (T.setTop f) acts v).1 = T.setFrames fs) → Steps p.tables e below (T.setTop (mkF m pc ls st)) (T.setFrames fs)) : Run p e below n0 Q G m T pc ls st := by
  obtain ⟨locs, Y, rfl, N, -⟩ := X
  obtain ⟨fs, hr, hrun, hended, hW, hsame⟩ := Y.leave (v := v) (by rw [C.2.2.2.2.2.1]; exact hv) C.2.2.2.2.2.2.1
  exact ⟨_, _, f locs fs Y hr, hrun, hended, _, _, rfl, ⟨q, N⟩, hG _ _ _ ⟨⟨_, rfl⟩, hW, hsame⟩⟩
theorem s_return (C : Cx tabs a0 Z own nm code ml ret p s m meth c) (X : St p l e R s m args below meth c n0 T h k n) (hd : decode code pc = .ok (.return_, 1)) (hr : ret = none) (q : Q none h) (hG : ∀ (v : Option Value) (t : State) (L : List Loc), FrameEnd s (.returned v) t L k n → G (.returned v) t L := by exact FE_mono (by decide) (by decide)) : Run p e below n0 Q G m T pc ls [] := by
  subst hr
  exact Run.done C X (fun _ => rfl) hG q (fun locs fs Y hr => Y.returnOut C.1 C.2.2.2.2.2.1 (C.d hd) hr)
theorem s_nreturn (C : Cx tabs a0 Z own nm code ml ret p s m meth c) (X : St p l e R s m args below meth c n0 T h k n) {z z' : Int32} {t : FieldType} (hd : decode code pc = .ok (.ireturn, 1)) (hr : ret = some t) (ht : t = .boolean ∨ t = .byte ∨ t = .char ∨ t = .short) (hz : nar t z = z') (q : Q (some (.int z')) h) (hG : ∀ (v : Option Value) (t : State) (L : List Loc), FrameEnd s (.returned v) t L k n → G (.returned v) t L := by exact FE_mono (by decide) (by decide)) : Run p e below n0 Q G m T pc ls (.int z :: st) := by
  subst hr hz
  refine Run.done C X (fun w => by cases w) hG q (fun locs fs Y hr => ?_)
  exact retN Y C.1 C.2.2.2.2.2.1 ht (C.d hd) hr
theorem s_dreturn (C : Cx tabs a0 Z own nm code ml ret p s m meth c) (X : St p l e R s m args below meth c n0 T h k n) {z : UInt64} (hd : decode code pc = .ok (.dreturn, 1)) (hr : ret = some .double) (q : Q (some (.double z)) h) (hG : ∀ (v : Option Value) (t : State) (L : List Loc), FrameEnd s (.returned v) t L k n → G (.returned v) t L := by exact FE_mono (by decide) (by decide)) : Run p e below n0 Q G m T pc ls (.double z :: st) := by
  subst hr
  refine Run.done C X (fun w => by cases w) hG q (fun locs fs Y hr => ?_)
  exact retOut Y C.1 C.2.2.2.2.2.1 (t := .double) rfl (Or.inr (Or.inr (Or.inl ⟨rfl, rfl, _, rfl⟩))) (C.d hd) hr
theorem s_getfield (pc' : Nat) (C : Cx tabs a0 Z own nm code ml ret p s m meth c) (X : St p l e R s m args below meth c n0 T h k n) {R0 O fn d host : String} {idx : Nat} {a : Addr} {v : Value} (hd : decode code pc = .ok (.getfield idx, 3)) (w : Jvm.Cond.fieldLink own idx R0 fn d ∈ tabs ∨ Jvm.Cond.fieldLinkNest own idx R0 fn d host ∈ tabs) (via : Via Z R0 O fn d) (F : Fld Z h a O fn d v) (r : ∀ T', St p l e R s m args below meth c n0 T' h k n → Run p e below n0 Q G m T' pc' ls (v :: st)) (hp : pc + 3 = pc' := by rfl) : Run p e below n0 Q G m T pc ls (.ref a :: st) := by
  subst hp
  obtain ⟨locs, Y, eT, N, q⟩ := X
  obtain ⟨T', Y', e', f⟩ := getF (host := host) Y C.1 C.2.1 C.2.2.2.2.1 (w.imp C.w C.w) via eT F (g := mkF m pc ls (.ref a :: st)) rfl rfl (C.d hd)
  exact Run.step f (r T' ⟨locs, Y', e', N, q⟩)
theorem s_putfield (pc' : Nat) (C : Cx tabs a0 Z own nm code ml ret p s m meth c) (X : St p l e R s m args below meth c n0 T h k n) {R0 O fn d host K : String} {idx kk : Nat} {ty : FieldType} {a : Addr} {v old : Value} (hd : decode code pc = .ok (.putfield idx, 3)) (w : Jvm.Cond.fieldLink own idx R0 fn d ∈ tabs ∨ Jvm.Cond.fieldLinkNest own idx R0 fn d host ∈ tabs) (via : Via Z R0 O fn d) (F : Fld Z h a O fn d old) (E : Exa Z h a K) (L : Jvm.Cond.lays K O fn d ∈ tabs ∨ (Jvm.Cond.laysFinal K O fn d ∈ tabs ∧ own = O ∧ nm = "<init>")) (wi : Jvm.Cond.instantiable K kk ∈ tabs) (hty : parseFieldDescriptor d = some ty) (hn : narrow ty v = v) (hf : fits ty v = true) (ge : n0 ≤ a)
    (r : ∀ T' h', St p l e R s m args below meth c n0 T' h' k n → Wr h h' a (RoadKit.slotOf Z O fn d) v → Run p e below n0 Q G m T' pc' ls st) (hp : pc + 3 = pc' := by rfl) : Run p e below n0 Q G m T pc ls (v :: .ref a :: st) := by
  subst hp
  obtain ⟨locs, Y, eT, N, q⟩ := X
  obtain ⟨T', h', Y', e', W, f⟩ := putF (host := host) Y C.1 C.2.1 C.2.2.2.2.1 (w.imp C.w C.w) via eT F E (L.imp C.w fun z => ⟨C.w z.1, z.2.1, C.2.2.2.2.2.2.2.1.trans z.2.2⟩) (C.w wi) hty hn hf (g := mkF m pc ls (v :: .ref a :: st)) rfl rfl (C.d hd)
  exact Run.step f (r T' h' ⟨_, Y', e', Fr.snoc Y' N ge, q⟩ W)
theorem s_new (pc' : Nat) (C : Cx tabs a0 Z own nm code ml ret p s m meth c) (X : St p l e R s m args below meth c n0 T h k n) {K : String} {idx nn : Nat} (hd : decode code pc = .ok (.new idx, 3)) (w1 : Jvm.Cond.classLink own idx K ∈ tabs) (w2 : Jvm.Cond.instantiable K nn ∈ tabs) (w3 : Jvm.Cond.initialized K ∈ tabs)
    (r : ∀ T' h' b, h.size = b → St p l e R s m args below meth c n0 T' h' (k + 1) (n + nn) → Ext h h' → Exa Z h' b K → (∀ {O fn d : String} {ty : FieldType}, Laid Z a0 K O fn d → parseFieldDescriptor d = some ty → Fld Z h' b O fn d (defaultValue ty)) → n0 ≤ b → Run p e below n0 Q G m T' pc' ls (.ref b :: st)) (hp : pc + 3 = pc' := by rfl) (hc : k + 1 ≤ R.cells ∧ n + nn ≤ R.slots := by decide) : Run p e below n0 Q G m T pc ls st := by
  subst hp
  have hz := X.sz
  obtain ⟨locs, Y, eT, N, q⟩ := X
  obtain ⟨T', h', Y', e', E, A, D, -, f⟩ := newO Y C.1 C.2.1 C.2.2.2.2.1 (C.w w1) (C.w w2) (C.w w3) eT (g := mkF m pc ls st) rfl (C.d hd) hc.1 hc.2
  exact Run.step f (r T' h' _ rfl ⟨locs, Y', e', N, q⟩ E A D hz)
theorem s_objInit (pc' : Nat) (C : Cx tabs a0 Z own nm code ml ret p s m meth c) (X : St p l e R s m args below meth c n0 T h k n) {idx W : Nat} {a : Addr} (hd : decode code pc = .ok (.invokespecial idx, 3)) (w1 : Jvm.Cond.methodLink own idx Lib.objectInit ∈ tabs) (w2 : Jvm.Cond.instanceMethod Lib.objectInit ∈ tabs) (w3 : Jvm.Cond.code Lib.objectInit ⟨#[0xb1]⟩ 1 none ∈ tabs) (hsz : ls.size = ml) (hW : (st.map fun v => v.category).sum = W) (hf : 1 ≤ R.frames ∧ W + 12 ≤ R.locals)
    (r : ∀ T', St p l e R s m args below meth c n0 T' h k n → Run p e below n0 Q G m T' pc' ls st) (hp : pc + 3 = pc' := by rfl) : Run p e below n0 Q G m T pc ls (.ref a :: st) := by
  subst hp
  obtain ⟨locs, Y, eT, N, q⟩ := X
  obtain ⟨T', Y', e', f⟩ := initO Y C.1 C.2.1 C.2.2.2.2.1 (C.w w1) (C.w w2) (C.w w3) eT (g := mkF m pc ls (.ref a :: st)) rfl (hsz.trans C.2.2.2.1.symm) rfl (C.d hd) hf.1 (W := W) (by show 2 * 0 + _ ≤ _; rw [hW]; omega) hf.2
  exact Run.step f (r T' ⟨locs, Y', e', N, q⟩)
/-- a method's contract at given arguments and a given heap -/
def Met (l : Launch) (Z : State) (y : MethodName) (bytes : ByteArray) (ml : Nat) (ret : Option FieldType) (rm : Room) (ws : List Jvm.Cond) (as : Array Value) (h : Heap) (n0 : Nat) (Q : Option Value → Heap → Prop) : Prop :=
  MetFree l y (head1 (Jvm.Cond.code y bytes ml ret :: ws) rm) (fun a U => a = as ∧ Z.Warmed39 U.vm ∧ U.heap = h) (fun _ _ _ _ _ => True) (fun _ U o U' => ∃ v L, o = .returned v ∧ (Q v U'.heap ∧ Fr n0 L) ∧ FrameEnd U o U' L rm.cells rm.slots)
theorem Met.mk {y : MethodName} {rm : Room} {ws : List Jvm.Cond} {as : Array Value} {ls0 : Array Slot} (hpl : plainFor y = true) (hw : ∀ d ∈ tabs, d.before a0 Z = true) (hn : n0 ≤ h.size) (hef : ∀ m, entryFrame m as ml = mkF m 0 ls0 [])
    (body : ∀ p e s m below meth c T, Cx tabs a0 Z y.cls y.name code ml ret p s m meth c → St p l e rm s m as below meth c n0 T h 0 0 → Run p e below n0 Q (fun o t L => FrameEnd s o t L rm.cells rm.slots) m T 0 ls0 []) : Met l Z y code ml ret rm ws as h n0 Q := by
  refine MetFree.of_bodySF hpl hisR ?_
  intro p e s m args below meth c s₁ Bd hml0 hP hK
  obtain ⟨rfl, hZ, rfl⟩ := hP
  have X0 : Stand p l e rm s m args below meth c s₁ [] 0 0 := Stand.of_body Bd
  have e0 : s₁.heap = s.heap := by rw [Bd.state]; rfl
  have r := body p e s m below meth c s₁ ⟨Bd.exec, hZ, Bd.bytes, hml0, findClass_of_methodNamed Bd.named, Bd.returns, Bd.notSynchronized, (name_of_methodNamed Bd.named Bd.method).1, hw⟩ ⟨[], X0, e0, Fr.nil n0, hn⟩
  obtain ⟨s₂, o, h1, h2⟩ := r
  exact ⟨s₂, o, castTop (hef m) h1, h2⟩
theorem s_callC (pc' : Nat) (argsL rest : List Value) (W : Nat) (C : Cx tabs a0 Z own nm code ml ret p s m meth c) (X : St p l e R s m args below meth c n0 T h k n) {idx : Nat} {y : MethodName} {bytes : ByteArray} {maxL : Nat} {rm : Room} {stk : List Value} {Q1 : Option Value → Heap → Prop} {a : Addr} (hd : decode code pc = .ok (.invokespecial idx, 3)) (hi : y.name = "<init>") (w1 : Jvm.Cond.methodLink own idx y ∈ tabs) (w2 : Jvm.Cond.instanceMethod y ∈ tabs) (w3 : Jvm.Cond.initialized y.cls ∈ tabs) (w4 : Jvm.Cond.code y bytes maxL none ∈ tabs)
    (M : Met l Z y bytes maxL none rm [] (.ref a :: argsL).toArray h n0 Q1) (hlen : ∀ sig, parseMethodDescriptor y.desc = some sig → argsL.length = sig.parameters.length) (hs : stk = argsL.reverse ++ .ref a :: rest) (hsz : ls.size = ml) (hW : (rest.map fun v => v.category).sum = W)
    (r : ∀ T' v h', St p l e R s m args below meth c n0 T' h' (k + rm.cells) (n + rm.slots) → Q1 v h' → Run p e below n0 Q G m T' pc' ls (v.toList ++ rest)) (hp : pc + 3 = pc' := by rfl) (hr : rm.frames + 1 ≤ R.frames ∧ W + (maxL + 11) + rm.locals ≤ R.locals ∧ k + rm.cells ≤ R.cells ∧ n + rm.slots ≤ R.slots := by decide) (hy : y.cls ≠ "java/lang/invoke/MethodHandle" ∧ y.cls ≠ "java/lang/invoke/VarHandle" := by decide) : Run p e below n0 Q G m T pc ls stk := by
  subst hp hs
  obtain ⟨locs, Y, eT, N, q⟩ := X
  obtain ⟨v, _, ⟨T1, L1, k1, n1⟩, -, Y', ⟨Lc, hQ, l1, y1, z1⟩, f⟩ := Y.specialBack C.1 (y := y) hi C.2.2.2.2.1 (mvT C.2.1 (C.w w1)) (mvT C.2.1 (C.w w2)) (mvT C.2.1 (C.w w4)) hy (backOf (W := W) (Q := fun v h L => Q1 v h ∧ Fr n0 L) M C.2.1 (C.w w4) (C.w w3) hr.1 hr.2.1) (g := mkF m pc ls (argsL.reverse ++ .ref a :: rest)) rfl (hsz.trans C.2.2.2.1.symm) (Steps.refl _) (a := a) (argsL := argsL) (rest := rest) hlen rfl (by show 2 * 0 + _ ≤ _; rw [hW]; omega) (C.d hd) (fun _ _ => ⟨rfl, eT, hr.2.2.1, hr.2.2.2⟩)
  dsimp only [Pt.U, Pt.locs, Pt.cells, Pt.slots] at Y' l1 y1 z1 f hQ
  subst l1 y1 z1
  exact Run.steps f (r T1 v _ ⟨_, Y', rfl, Fr.app N hQ.2, q⟩ hQ.1)
theorem s_callV (pc' : Nat) (argsL rest : List Value) (W : Nat) (C : Cx tabs a0 Z own nm code ml ret p s m meth c) (X : St p l e R s m args below meth c n0 T h k n) {idx : Nat} {y : MethodName} {bytes : ByteArray} {maxL : Nat} {rt : Option FieldType} {rm : Room} {stk : List Value} {Q1 : Option Value → Heap → Prop} {y0 : MethodName} {K : String} {a : Addr} (hd : decode code pc = .ok (.invokevirtual idx, 3)) (w1 : Jvm.Cond.methodLink own idx y0 ∈ tabs) (w2 : Jvm.Cond.declares y0 ∈ tabs) (hnf : NotFace s y0) (w5 : Jvm.Cond.selects K y0 y ∈ tabs) (w6 : Jvm.Cond.instanceMethod y ∈ tabs) (w3 : Jvm.Cond.initialized y.cls ∈ tabs) (w4 : Jvm.Cond.code y bytes maxL rt ∈ tabs)
    (E : Exa Z h a K) (M : Met l Z y bytes maxL rt rm [] (.ref a :: argsL).toArray h n0 Q1) (hlen : ∀ sig, parseMethodDescriptor y0.desc = some sig → argsL.length = sig.parameters.length) (hs : stk = argsL.reverse ++ .ref a :: rest) (hsz : ls.size = ml) (hW : (rest.map fun v => v.category).sum = W)
    (r : ∀ T' v h', St p l e R s m args below meth c n0 T' h' (k + rm.cells) (n + rm.slots) → Q1 v h' → Run p e below n0 Q G m T' pc' ls (v.toList ++ rest)) (hp : pc + 3 = pc' := by rfl) (hr : rm.frames + 1 ≤ R.frames ∧ W + (maxL + 11) + rm.locals ≤ R.locals ∧ k + rm.cells ≤ R.cells ∧ n + rm.slots ≤ R.slots := by decide) (hy : y0.cls ≠ "java/lang/invoke/MethodHandle" ∧ y0.cls ≠ "java/lang/invoke/VarHandle" := by decide) : Run p e below n0 Q G m T pc ls stk := by
  subst hp hs
  obtain ⟨locs, Y, eT, N, q⟩ := X
  obtain ⟨cq, kq, qa, qb, qc⟩ := isOf C.2.1 eT E
  obtain ⟨v, _, ⟨T1, L1, k1, n1⟩, -, Y', ⟨Lc, hQ, l1, y1, z1⟩, f⟩ := Y.virtualBack C.1 (y := y0) (z := y) C.2.2.2.2.1 (mvT C.2.1 (C.w w1)) (mvT C.2.1 (C.w w2)) hnf (mvT C.2.1 (C.w w5)) (mvT C.2.1 (C.w w6)) hy (backOf (W := W) (Q := fun v h L => Q1 v h ∧ Fr n0 L) M C.2.1 (C.w w4) (C.w w3) hr.1 hr.2.1) qa qc (g := mkF m pc ls (argsL.reverse ++ .ref a :: rest)) rfl (hsz.trans C.2.2.2.1.symm) (Steps.refl _) (argsL := argsL) (rest := rest) hlen rfl (by show 2 * 0 + _ ≤ _; rw [hW]; omega) (C.d hd) (fun _ _ => ⟨rfl, eT, hr.2.2.1, hr.2.2.2⟩)
  dsimp only [Pt.U, Pt.locs, Pt.cells, Pt.slots] at Y' l1 y1 z1 f hQ
  subst l1 y1 z1
  exact Run.steps f (r T1 v _ ⟨_, Y', rfl, Fr.app N hQ.2, q⟩ hQ.1)
end A
end Jvm.OwnK
namespace Jvm.Pilot.@@N@@
open Jvm Jvm.ClassFile Sem Op Lib Jvm.Free Jvm.Stand Jvm.LawKit Jvm.RoadKit Bundle Jvm.OwnK Jvm.Pilot.@@N@@.Jvm.D
theorem pn_java_lang_Record : plainName "java/lang/Record" = true := by first | (simp [plainName, overriddenIn]; done) | decide +kernel
theorem d2_0 : decode jdk_30_method_1_code 0 = .ok (.aload_n 0, 1) := by decide +kernel
theorem d2_1 : decode jdk_30_method_1_code 1 = .ok (.invokespecial 1, 3) := by decide +kernel
theorem d2_4 : decode jdk_30_method_1_code 4 = .ok (.return_, 1) := by decide +kernel
theorem pn_com_example_dayweave_dayweave_model_ActivityWorth : plainName "com/example/dayweave/dayweave/model/ActivityWorth" = true := by first | (simp [plainName, overriddenIn]; done) | decide +kernel
theorem d1_0 : decode prog_2_method_1_code 0 = .ok (.aload_n 0, 1) := by decide +kernel
theorem d1_1 : decode prog_2_method_1_code 1 = .ok (.invokespecial 1, 3) := by decide +kernel
theorem pd___V : parseMethodDescriptor "()V" = some ⟨[], none⟩ := by decide +kernel
theorem d1_4 : decode prog_2_method_1_code 4 = .ok (.aload_n 0, 1) := by decide +kernel
theorem d1_5 : decode prog_2_method_1_code 5 = .ok (.lload_n 1, 1) := by decide +kernel
theorem d1_6 : decode prog_2_method_1_code 6 = .ok (.putfield 7, 3) := by decide +kernel
theorem d1_9 : decode prog_2_method_1_code 9 = .ok (.aload_n 0, 1) := by decide +kernel
theorem d1_10 : decode prog_2_method_1_code 10 = .ok (.dload_n 3, 1) := by decide +kernel
theorem d1_11 : decode prog_2_method_1_code 11 = .ok (.putfield 13, 3) := by decide +kernel
theorem d1_14 : decode prog_2_method_1_code 14 = .ok (.aload_n 0, 1) := by decide +kernel
theorem d1_15 : decode prog_2_method_1_code 15 = .ok (.dload 5, 2) := by decide +kernel
theorem d1_17 : decode prog_2_method_1_code 17 = .ok (.putfield 17, 3) := by decide +kernel
theorem d1_20 : decode prog_2_method_1_code 20 = .ok (.aload_n 0, 1) := by decide +kernel
theorem d1_21 : decode prog_2_method_1_code 21 = .ok (.dload 7, 2) := by decide +kernel
theorem d1_23 : decode prog_2_method_1_code 23 = .ok (.putfield 20, 3) := by decide +kernel
theorem d1_26 : decode prog_2_method_1_code 26 = .ok (.aload_n 0, 1) := by decide +kernel
theorem d1_27 : decode prog_2_method_1_code 27 = .ok (.dload 9, 2) := by decide +kernel
theorem d1_29 : decode prog_2_method_1_code 29 = .ok (.putfield 23, 3) := by decide +kernel
theorem d1_32 : decode prog_2_method_1_code 32 = .ok (.return_, 1) := by decide +kernel
theorem d4_0 : decode prog_2_method_3_code 0 = .ok (.aload_n 0, 1) := by decide +kernel
theorem d4_1 : decode prog_2_method_3_code 1 = .ok (.getfield 13, 3) := by decide +kernel
theorem d4_4 : decode prog_2_method_3_code 4 = .ok (.aload_n 0, 1) := by decide +kernel
theorem d4_5 : decode prog_2_method_3_code 5 = .ok (.getfield 17, 3) := by decide +kernel
theorem d4_8 : decode prog_2_method_3_code 8 = .ok (.dadd, 1) := by decide +kernel
theorem d4_9 : decode prog_2_method_3_code 9 = .ok (.aload_n 0, 1) := by decide +kernel
theorem d4_10 : decode prog_2_method_3_code 10 = .ok (.getfield 20, 3) := by decide +kernel
theorem d4_13 : decode prog_2_method_3_code 13 = .ok (.dadd, 1) := by decide +kernel
theorem d4_14 : decode prog_2_method_3_code 14 = .ok (.aload_n 0, 1) := by decide +kernel
theorem d4_15 : decode prog_2_method_3_code 15 = .ok (.getfield 23, 3) := by decide +kernel
theorem d4_18 : decode prog_2_method_3_code 18 = .ok (.dadd, 1) := by decide +kernel
theorem d4_19 : decode prog_2_method_3_code 19 = .ok (.dreturn, 1) := by decide +kernel
theorem pn_com_example_dayweave_dayweave_model_ActivityWorthTotalPinLaw : plainName "com/example/dayweave/dayweave/model/ActivityWorthTotalPinLaw" = true := by first | (simp [plainName, overriddenIn]; done) | decide +kernel
theorem pd__JDDDD_V : parseMethodDescriptor "(JDDDD)V" = some ⟨[.long, .double, .double, .double, .double], none⟩ := by decide +kernel
theorem pd___D : parseMethodDescriptor "()D" = some ⟨[], some .double⟩ := by decide +kernel
theorem kc_iconst_1 : Int32.ofInt 1 = (1 : Int32) := by decide +kernel
theorem own_b1 (x : Int32) : B53 x.toInt64 := by have := rng32 x; have := c_i2l x; unfold B53; omega
theorem own_s2 (x y : Int32) : (x.toInt64 + y.toInt64).toInt = x.toInt + y.toInt := by rw [add64 (own_b1 x) (own_b1 y), c_i2l, c_i2l]
theorem own_b2 (x y : Int32) : B53 (x.toInt64 + y.toInt64) := by have := rng32 x; have := rng32 y; have := own_s2 x y; unfold B53; omega
theorem own_s3 (x y z : Int32) : (x.toInt64 + y.toInt64 + z.toInt64).toInt = x.toInt + y.toInt + z.toInt := by rw [add64 (own_b2 x y) (own_b1 z), own_s2, c_i2l]
theorem own_b3 (x y z : Int32) : B53 (x.toInt64 + y.toInt64 + z.toInt64) := by have := rng32 x; have := rng32 y; have := rng32 z; have := own_s3 x y z; unfold B53; omega
theorem own_s4 (x y z u : Int32) : (x.toInt64 + y.toInt64 + z.toInt64 + u.toInt64).toInt = x.toInt + y.toInt + z.toInt + u.toInt := by rw [add64 (own_b3 x y z) (own_b1 u), own_s3, c_i2l]
theorem own_b4 (x y z u : Int32) : B53 (x.toInt64 + y.toInt64 + z.toInt64 + u.toInt64) := by have := rng32 x; have := rng32 y; have := rng32 z; have := rng32 u; have := own_s4 x y z u; unfold B53; omega
theorem own_lc (x : Int64) : lcmpW x x = 0 := (lw_eq x x).mpr rfl
set_option maxRecDepth 65536 in
set_option maxHeartbeats 40000000 in
theorem rm_rec (l : Launch) (Z : State) (a0 : Array Value) (hw : ∀ d ∈ tables_1, d.before a0 Z = true) (o : Addr) (h0 : Heap) (n0 : Nat) (Z0 : n0 ≤ h0.size)  :
    Met l Z (⟨"java/lang/Record", "<init>", "()V"⟩ : MethodName) jdk_30_method_1_code 1 none { frames := 1, cells := 0, slots := 0, locals := 12 } [] #[(.ref o)] h0 n0 (fun v h => v = none ∧ h = h0) := by
  refine Met.mk (tabs := tables_1) (a0 := a0) (ls0 := #[.val (.ref o)]) (plainFor_of_name pn_java_lang_Record) hw Z0 (fun m => by first | (simp [entryFrame, mkF, argsToLocals, Value.category]; done) | rfl) ?_
  intro p e s m below meth c T C X
  refine s_aloadN 1 C X d2_0 rfl rfl ?_
  refine s_objInit 4 C X d2_1 (List.mem_of_getElem? (i := 11) rfl) (List.mem_of_getElem? (i := 12) rfl) (List.mem_of_getElem? (i := 13) rfl) rfl (W := 0) rfl (by decide) (fun T X => ?_)
  refine s_return C X d2_4 rfl ?_
  exact ⟨rfl, rfl⟩
set_option maxRecDepth 65536 in
set_option maxHeartbeats 40000000 in
theorem rm_init (l : Launch) (Z : State) (a0 : Array Value) (hw : ∀ d ∈ tables_1, d.before a0 Z = true) (o : Addr) (d : Int64) (u0 u1 u2 u3 : UInt64) (h0 : Heap) (n0 : Nat) (Z0 : n0 ≤ h0.size) (F_o_duration : Fld Z h0 o "com/example/dayweave/dayweave/model/ActivityWorth" "duration" "J" (.long 0)) (F_o_durationUtility : Fld Z h0 o "com/example/dayweave/dayweave/model/ActivityWorth" "durationUtility" "D" (.double 0)) (F_o_timeUtility : Fld Z h0 o "com/example/dayweave/dayweave/model/ActivityWorth" "timeUtility" "D" (.double 0)) (F_o_gapMinUtility : Fld Z h0 o "com/example/dayweave/dayweave/model/ActivityWorth" "gapMinUtility" "D" (.double 0)) (F_o_gapMaxUtility : Fld Z h0 o "com/example/dayweave/dayweave/model/ActivityWorth" "gapMaxUtility" "D" (.double 0)) (E_o : Exa Z h0 o "com/example/dayweave/dayweave/model/ActivityWorth") (g_o : n0 ≤ o) :
    Met l Z (⟨"com/example/dayweave/dayweave/model/ActivityWorth", "<init>", "(JDDDD)V"⟩ : MethodName) prog_2_method_1_code 11 none { frames := 2, cells := 0, slots := 0, locals := 24 } [] #[(.ref o), (.long d), (.double u0), (.double u1), (.double u2), (.double u3)] h0 n0 (fun v h => v = none ∧ Exa Z h o "com/example/dayweave/dayweave/model/ActivityWorth" ∧ Fld Z h o "com/example/dayweave/dayweave/model/ActivityWorth" "durationUtility" "D" (.double u0) ∧ Fld Z h o "com/example/dayweave/dayweave/model/ActivityWorth" "timeUtility" "D" (.double u1) ∧ Fld Z h o "com/example/dayweave/dayweave/model/ActivityWorth" "gapMinUtility" "D" (.double u2) ∧ Fld Z h o "com/example/dayweave/dayweave/model/ActivityWorth" "gapMaxUtility" "D" (.double u3)) := by
  refine Met.mk (tabs := tables_1) (a0 := a0) (ls0 := #[.val (.ref o), .val (.long d), .second, .val (.double u0), .second, .val (.double u1), .second, .val (.double u2), .second, .val (.double u3), .second]) (plainFor_of_name pn_com_example_dayweave_dayweave_model_ActivityWorth) hw Z0 (fun m => by first | (simp [entryFrame, mkF, argsToLocals, Value.category]; done) | rfl) ?_
  intro p e s m below meth c T C X
  refine s_aloadN 1 C X d1_0 rfl rfl ?_
  refine s_callC 4 [] [] 0 C X d1_1 rfl (List.mem_of_getElem? (i := 6) rfl) (List.mem_of_getElem? (i := 7) rfl) (List.mem_of_getElem? (i := 9) rfl) (List.mem_of_getElem? (i := 10) rfl) (rm_rec l Z a0 hw o _ n0 X.sz) (lenOf pd___V rfl) rfl rfl rfl (fun T v h0 X q => ?_)
  obtain ⟨rfl, hE⟩ := q
  rw [hE] at X
  refine Run.cast (st' := []) rfl ?_
  refine s_aloadN 5 C X d1_4 rfl rfl ?_
  refine s_lloadN 6 C X d1_5 rfl ?_
  refine s_putfield 9 C X (host := "") d1_6 (Or.inl (List.mem_of_getElem? (i := 14) rfl)) Via.refl F_o_duration E_o (Or.inr ⟨(List.mem_of_getElem? (i := 15) rfl), rfl, rfl⟩) (List.mem_of_getElem? (i := 1) rfl) (ty := .long) (by decide) rfl rfl g_o (fun T _ X W => ?_)
  have F_o_duration := F_o_duration.same W
  have E_o := E_o.wr W
  have F_o_durationUtility := F_o_durationUtility.other W (Or.inr (slot_ne (Or.inr (hw _ (List.mem_of_getElem? (i := 17) rfl))) (Or.inr (hw _ (List.mem_of_getElem? (i := 15) rfl))) (by decide) (t := .double) (t' := .long) (by decide) (by decide)))
  have F_o_timeUtility := F_o_timeUtility.other W (Or.inr (slot_ne (Or.inr (hw _ (List.mem_of_getElem? (i := 19) rfl))) (Or.inr (hw _ (List.mem_of_getElem? (i := 15) rfl))) (by decide) (t := .double) (t' := .long) (by decide) (by decide)))
  have F_o_gapMinUtility := F_o_gapMinUtility.other W (Or.inr (slot_ne (Or.inr (hw _ (List.mem_of_getElem? (i := 21) rfl))) (Or.inr (hw _ (List.mem_of_getElem? (i := 15) rfl))) (by decide) (t := .double) (t' := .long) (by decide) (by decide)))
  have F_o_gapMaxUtility := F_o_gapMaxUtility.other W (Or.inr (slot_ne (Or.inr (hw _ (List.mem_of_getElem? (i := 23) rfl))) (Or.inr (hw _ (List.mem_of_getElem? (i := 15) rfl))) (by decide) (t := .double) (t' := .long) (by decide) (by decide)))
  refine s_aloadN 10 C X d1_9 rfl rfl ?_
  refine s_dloadN 11 C X d1_10 rfl ?_
  refine s_putfield 14 C X (host := "") d1_11 (Or.inl (List.mem_of_getElem? (i := 16) rfl)) Via.refl F_o_durationUtility E_o (Or.inr ⟨(List.mem_of_getElem? (i := 17) rfl), rfl, rfl⟩) (List.mem_of_getElem? (i := 1) rfl) (ty := .double) (by decide) rfl rfl g_o (fun T _ X W => ?_)
  have F_o_duration := F_o_duration.other W (Or.inr (slot_ne (Or.inr (hw _ (List.mem_of_getElem? (i := 15) rfl))) (Or.inr (hw _ (List.mem_of_getElem? (i := 17) rfl))) (by decide) (t := .long) (t' := .double) (by decide) (by decide)))
  have E_o := E_o.wr W
  have F_o_durationUtility := F_o_durationUtility.same W
  have F_o_timeUtility := F_o_timeUtility.other W (Or.inr (slot_ne (Or.inr (hw _ (List.mem_of_getElem? (i := 19) rfl))) (Or.inr (hw _ (List.mem_of_getElem? (i := 17) rfl))) (by decide) (t := .double) (t' := .double) (by decide) (by decide)))
  have F_o_gapMinUtility := F_o_gapMinUtility.other W (Or.inr (slot_ne (Or.inr (hw _ (List.mem_of_getElem? (i := 21) rfl))) (Or.inr (hw _ (List.mem_of_getElem? (i := 17) rfl))) (by decide) (t := .double) (t' := .double) (by decide) (by decide)))
  have F_o_gapMaxUtility := F_o_gapMaxUtility.other W (Or.inr (slot_ne (Or.inr (hw _ (List.mem_of_getElem? (i := 23) rfl))) (Or.inr (hw _ (List.mem_of_getElem? (i := 17) rfl))) (by decide) (t := .double) (t' := .double) (by decide) (by decide)))
  refine s_aloadN 15 C X d1_14 rfl rfl ?_
  refine s_dload 17 C X d1_15 rfl ?_
  refine s_putfield 20 C X (host := "") d1_17 (Or.inl (List.mem_of_getElem? (i := 18) rfl)) Via.refl F_o_timeUtility E_o (Or.inr ⟨(List.mem_of_getElem? (i := 19) rfl), rfl, rfl⟩) (List.mem_of_getElem? (i := 1) rfl) (ty := .double) (by decide) rfl rfl g_o (fun T _ X W => ?_)
  have F_o_duration := F_o_duration.other W (Or.inr (slot_ne (Or.inr (hw _ (List.mem_of_getElem? (i := 15) rfl))) (Or.inr (hw _ (List.mem_of_getElem? (i := 19) rfl))) (by decide) (t := .long) (t' := .double) (by decide) (by decide)))
  have E_o := E_o.wr W
  have F_o_durationUtility := F_o_durationUtility.other W (Or.inr (slot_ne (Or.inr (hw _ (List.mem_of_getElem? (i := 17) rfl))) (Or.inr (hw _ (List.mem_of_getElem? (i := 19) rfl))) (by decide) (t := .double) (t' := .double) (by decide) (by decide)))
  have F_o_timeUtility := F_o_timeUtility.same W
  have F_o_gapMinUtility := F_o_gapMinUtility.other W (Or.inr (slot_ne (Or.inr (hw _ (List.mem_of_getElem? (i := 21) rfl))) (Or.inr (hw _ (List.mem_of_getElem? (i := 19) rfl))) (by decide) (t := .double) (t' := .double) (by decide) (by decide)))
  have F_o_gapMaxUtility := F_o_gapMaxUtility.other W (Or.inr (slot_ne (Or.inr (hw _ (List.mem_of_getElem? (i := 23) rfl))) (Or.inr (hw _ (List.mem_of_getElem? (i := 19) rfl))) (by decide) (t := .double) (t' := .double) (by decide) (by decide)))
  refine s_aloadN 21 C X d1_20 rfl rfl ?_
  refine s_dload 23 C X d1_21 rfl ?_
  refine s_putfield 26 C X (host := "") d1_23 (Or.inl (List.mem_of_getElem? (i := 20) rfl)) Via.refl F_o_gapMinUtility E_o (Or.inr ⟨(List.mem_of_getElem? (i := 21) rfl), rfl, rfl⟩) (List.mem_of_getElem? (i := 1) rfl) (ty := .double) (by decide) rfl rfl g_o (fun T _ X W => ?_)
  have F_o_duration := F_o_duration.other W (Or.inr (slot_ne (Or.inr (hw _ (List.mem_of_getElem? (i := 15) rfl))) (Or.inr (hw _ (List.mem_of_getElem? (i := 21) rfl))) (by decide) (t := .long) (t' := .double) (by decide) (by decide)))
  have E_o := E_o.wr W
  have F_o_durationUtility := F_o_durationUtility.other W (Or.inr (slot_ne (Or.inr (hw _ (List.mem_of_getElem? (i := 17) rfl))) (Or.inr (hw _ (List.mem_of_getElem? (i := 21) rfl))) (by decide) (t := .double) (t' := .double) (by decide) (by decide)))
  have F_o_timeUtility := F_o_timeUtility.other W (Or.inr (slot_ne (Or.inr (hw _ (List.mem_of_getElem? (i := 19) rfl))) (Or.inr (hw _ (List.mem_of_getElem? (i := 21) rfl))) (by decide) (t := .double) (t' := .double) (by decide) (by decide)))
  have F_o_gapMinUtility := F_o_gapMinUtility.same W
  have F_o_gapMaxUtility := F_o_gapMaxUtility.other W (Or.inr (slot_ne (Or.inr (hw _ (List.mem_of_getElem? (i := 23) rfl))) (Or.inr (hw _ (List.mem_of_getElem? (i := 21) rfl))) (by decide) (t := .double) (t' := .double) (by decide) (by decide)))
  refine s_aloadN 27 C X d1_26 rfl rfl ?_
  refine s_dload 29 C X d1_27 rfl ?_
  refine s_putfield 32 C X (host := "") d1_29 (Or.inl (List.mem_of_getElem? (i := 22) rfl)) Via.refl F_o_gapMaxUtility E_o (Or.inr ⟨(List.mem_of_getElem? (i := 23) rfl), rfl, rfl⟩) (List.mem_of_getElem? (i := 1) rfl) (ty := .double) (by decide) rfl rfl g_o (fun T _ X W => ?_)
  have F_o_duration := F_o_duration.other W (Or.inr (slot_ne (Or.inr (hw _ (List.mem_of_getElem? (i := 15) rfl))) (Or.inr (hw _ (List.mem_of_getElem? (i := 23) rfl))) (by decide) (t := .long) (t' := .double) (by decide) (by decide)))
  have E_o := E_o.wr W
  have F_o_durationUtility := F_o_durationUtility.other W (Or.inr (slot_ne (Or.inr (hw _ (List.mem_of_getElem? (i := 17) rfl))) (Or.inr (hw _ (List.mem_of_getElem? (i := 23) rfl))) (by decide) (t := .double) (t' := .double) (by decide) (by decide)))
  have F_o_timeUtility := F_o_timeUtility.other W (Or.inr (slot_ne (Or.inr (hw _ (List.mem_of_getElem? (i := 19) rfl))) (Or.inr (hw _ (List.mem_of_getElem? (i := 23) rfl))) (by decide) (t := .double) (t' := .double) (by decide) (by decide)))
  have F_o_gapMinUtility := F_o_gapMinUtility.other W (Or.inr (slot_ne (Or.inr (hw _ (List.mem_of_getElem? (i := 21) rfl))) (Or.inr (hw _ (List.mem_of_getElem? (i := 23) rfl))) (by decide) (t := .double) (t' := .double) (by decide) (by decide)))
  have F_o_gapMaxUtility := F_o_gapMaxUtility.same W
  refine s_return C X d1_32 rfl ?_
  exact ⟨rfl, E_o, F_o_durationUtility, F_o_timeUtility, F_o_gapMinUtility, F_o_gapMaxUtility⟩
set_option maxRecDepth 65536 in
set_option maxHeartbeats 40000000 in
theorem rm_total (l : Launch) (Z : State) (a0 : Array Value) (hw : ∀ d ∈ tables_1, d.before a0 Z = true) (o : Addr) (x1 x2 x3 x4 : Int32) (h0 : Heap) (n0 : Nat) (Z0 : n0 ≤ h0.size) (F_o_durationUtility : Fld Z h0 o "com/example/dayweave/dayweave/model/ActivityWorth" "durationUtility" "D" (.double (FP.l2d (x1).toInt64))) (F_o_timeUtility : Fld Z h0 o "com/example/dayweave/dayweave/model/ActivityWorth" "timeUtility" "D" (.double (FP.l2d (x2).toInt64))) (F_o_gapMinUtility : Fld Z h0 o "com/example/dayweave/dayweave/model/ActivityWorth" "gapMinUtility" "D" (.double (FP.l2d (x3).toInt64))) (F_o_gapMaxUtility : Fld Z h0 o "com/example/dayweave/dayweave/model/ActivityWorth" "gapMaxUtility" "D" (.double (FP.l2d (x4).toInt64))) :
    Met l Z (⟨"com/example/dayweave/dayweave/model/ActivityWorth", "total", "()D"⟩ : MethodName) prog_2_method_3_code 1 (some .double) { frames := 0, cells := 0, slots := 0, locals := 0 } [] #[(.ref o)] h0 n0 (fun v h => v = some (.double (FP.l2d ((((x1).toInt64 + (x2).toInt64) + (x3).toInt64) + (x4).toInt64))) ∧ h = h0) := by
  refine Met.mk (tabs := tables_1) (a0 := a0) (ls0 := #[.val (.ref o)]) (plainFor_of_name pn_com_example_dayweave_dayweave_model_ActivityWorth) hw Z0 (fun m => by first | (simp [entryFrame, mkF, argsToLocals, Value.category]; done) | rfl) ?_
  intro p e s m below meth c T C X
  refine s_aloadN 1 C X d4_0 rfl rfl ?_
  refine s_getfield 4 C X (host := "") d4_1 (Or.inl (List.mem_of_getElem? (i := 16) rfl)) Via.refl F_o_durationUtility (fun T X => ?_)
  refine s_aloadN 5 C X d4_4 rfl rfl ?_
  refine s_getfield 8 C X (host := "") d4_5 (Or.inl (List.mem_of_getElem? (i := 18) rfl)) Via.refl F_o_timeUtility (fun T X => ?_)
  refine s_dadd 9 C X d4_8 (own_b1 x1) (own_b1 x2) ?_
  refine s_aloadN 10 C X d4_9 rfl rfl ?_
  refine s_getfield 13 C X (host := "") d4_10 (Or.inl (List.mem_of_getElem? (i := 20) rfl)) Via.refl F_o_gapMinUtility (fun T X => ?_)
  refine s_dadd 14 C X d4_13 (own_b2 x1 x2) (own_b1 x3) ?_
  refine s_aloadN 15 C X d4_14 rfl rfl ?_
  refine s_getfield 18 C X (host := "") d4_15 (Or.inl (List.mem_of_getElem? (i := 22) rfl)) Via.refl F_o_gapMaxUtility (fun T X => ?_)
  refine s_dadd 19 C X d4_18 (own_b3 x1 x2 x3) (own_b1 x4) ?_
  refine s_dreturn C X d4_19 rfl ?_
  exact ⟨rfl, rfl⟩
set_option maxRecDepth 65536 in
set_option maxHeartbeats 40000000 in
theorem rm0 (l : Launch) (Z : State) (a0 : Array Value) (hw : ∀ d ∈ tables_1, d.before a0 Z = true) (x0 : Int64) (x1 x2 x3 x4 : Int32) (h0 : Heap) (n0 : Nat) (Z0 : n0 ≤ h0.size)  :
    Met l Z x code maxLocals ret room_1 tables_1 #[(.long x0), (.int x1), (.int x2), (.int x3), (.int x4)] h0 n0 (fun v h => v = some (.int 1)) := by
  refine Met.mk (tabs := tables_1) (a0 := a0) (ls0 := #[.val (.long x0), .second, .val (.int x1), .val (.int x2), .val (.int x3), .val (.int x4), .unset, .unset, .unset]) (plainFor_of_name pn_com_example_dayweave_dayweave_model_ActivityWorthTotalPinLaw) hw Z0 (fun m => by first | (simp [entryFrame, mkF, argsToLocals, Value.category, maxLocals]; done) | rfl) ?_
  intro p e s m below meth c T C X
  refine s_new 3 C X at_0 (List.mem_of_getElem? (i := 0) rfl) (List.mem_of_getElem? (i := 1) rfl) (List.mem_of_getElem? (i := 2) rfl) (fun T _ o1 hb_o1 X E E_o1 D g_o1 => ?_)
  have F_o1_duration : Fld Z _ o1 "com/example/dayweave/dayweave/model/ActivityWorth" "duration" "J" (.long (0 : Int64)) := D (Or.inr (hw _ (List.mem_of_getElem? (i := 15) rfl))) (ty := .long) (by decide)
  have F_o1_durationUtility : Fld Z _ o1 "com/example/dayweave/dayweave/model/ActivityWorth" "durationUtility" "D" (.double (0 : UInt64)) := D (Or.inr (hw _ (List.mem_of_getElem? (i := 17) rfl))) (ty := .double) (by decide)
  have F_o1_timeUtility : Fld Z _ o1 "com/example/dayweave/dayweave/model/ActivityWorth" "timeUtility" "D" (.double (0 : UInt64)) := D (Or.inr (hw _ (List.mem_of_getElem? (i := 19) rfl))) (ty := .double) (by decide)
  have F_o1_gapMinUtility : Fld Z _ o1 "com/example/dayweave/dayweave/model/ActivityWorth" "gapMinUtility" "D" (.double (0 : UInt64)) := D (Or.inr (hw _ (List.mem_of_getElem? (i := 21) rfl))) (ty := .double) (by decide)
  have F_o1_gapMaxUtility : Fld Z _ o1 "com/example/dayweave/dayweave/model/ActivityWorth" "gapMaxUtility" "D" (.double (0 : UInt64)) := D (Or.inr (hw _ (List.mem_of_getElem? (i := 23) rfl))) (ty := .double) (by decide)
  refine s_dup 4 C X at_3 rfl ?_
  refine s_lloadN 5 C X at_4 rfl ?_
  refine s_iloadN 6 C X at_5 rfl ?_
  refine s_i2d 7 C X at_6 ?_
  refine s_iloadN 8 C X at_7 rfl ?_
  refine s_i2d 9 C X at_8 ?_
  refine s_iload 11 C X at_9 rfl ?_
  refine s_i2d 12 C X at_11 ?_
  refine s_iload 14 C X at_12 rfl ?_
  refine s_i2d 15 C X at_14 ?_
  refine s_callC 18 [(.long x0), (.double (FP.l2d (x1).toInt64)), (.double (FP.l2d (x2).toInt64)), (.double (FP.l2d (x3).toInt64)), (.double (FP.l2d (x4).toInt64))] [(.ref o1)] 1 C X at_15 rfl (List.mem_of_getElem? (i := 3) rfl) (List.mem_of_getElem? (i := 4) rfl) (List.mem_of_getElem? (i := 2) rfl) (List.mem_of_getElem? (i := 5) rfl) (rm_init l Z a0 hw o1 x0 (FP.l2d (x1).toInt64) (FP.l2d (x2).toInt64) (FP.l2d (x3).toInt64) (FP.l2d (x4).toInt64) _ n0 X.sz F_o1_duration F_o1_durationUtility F_o1_timeUtility F_o1_gapMinUtility F_o1_gapMaxUtility E_o1 g_o1) (lenOf pd__JDDDD_V rfl) rfl rfl rfl (fun T v h1 X q => ?_)
  obtain ⟨rfl, E_o1, G_durationUtility, G_timeUtility, G_gapMinUtility, G_gapMaxUtility⟩ := q
  refine Run.cast (st' := [(.ref o1)]) rfl ?_
  refine s_astore 20 C X (l' := #[.val (.long x0), .second, .val (.int x1), .val (.int x2), .val (.int x3), .val (.int x4), .val (.ref o1), .unset, .unset]) at_18 rfl rfl ?_
  refine s_iloadN 21 C X at_20 rfl ?_
  refine s_i2l 22 C X at_21 ?_
  refine s_iloadN 23 C X at_22 rfl ?_
  refine s_i2l 24 C X at_23 ?_
  refine s_ladd 25 C X at_24 ?_
  refine s_iload 27 C X at_25 rfl ?_
  refine s_i2l 28 C X at_27 ?_
  refine s_ladd 29 C X at_28 ?_
  refine s_iload 31 C X at_29 rfl ?_
  refine s_i2l 32 C X at_31 ?_
  refine s_ladd 33 C X at_32 ?_
  refine s_lstore 35 C X (l' := #[.val (.long x0), .second, .val (.int x1), .val (.int x2), .val (.int x3), .val (.int x4), .val (.ref o1), .val (.long ((((x1).toInt64 + (x2).toInt64) + (x3).toInt64) + (x4).toInt64)), .second]) at_33 rfl ?_
  refine s_aload 37 C X at_35 rfl rfl ?_
  refine s_callV 40 [] [] 0 C X at_37 (List.mem_of_getElem? (i := 24) rfl) (List.mem_of_getElem? (i := 25) rfl) (notFace_of_selects (args := #[]) (mvT C.2.1 (C.w (List.mem_of_getElem? (i := 27) rfl)))) (List.mem_of_getElem? (i := 27) rfl) (List.mem_of_getElem? (i := 26) rfl) (List.mem_of_getElem? (i := 2) rfl) (List.mem_of_getElem? (i := 28) rfl) E_o1 (rm_total l Z a0 hw o1 x1 x2 x3 x4 _ n0 X.sz G_durationUtility G_timeUtility G_gapMinUtility G_gapMaxUtility) (lenOf pd___D rfl) rfl rfl rfl (fun T v h2 X q => ?_)
  obtain ⟨rfl, hE⟩ := q
  rw [hE] at X
  refine Run.cast (st' := [(.double (FP.l2d ((((x1).toInt64 + (x2).toInt64) + (x3).toInt64) + (x4).toInt64)))]) rfl ?_
  refine s_lload 42 C X at_40 rfl ?_
  refine s_l2d 43 C X at_42 ?_
  refine s_dcmp 44 C X at_43 (own_b4 x1 x2 x3 x4) (own_b4 x1 x2 x3 x4) ?_
  refine s_if_ne 51 47 C X at_44 (fun c => absurd (own_lc _) c) (fun c44 => ?_)
  have t_c44 : ((lcmpW ((((x1).toInt64 + (x2).toInt64) + (x3).toInt64) + (x4).toInt64) ((((x1).toInt64 + (x2).toInt64) + (x3).toInt64) + (x4).toInt64))).toInt = (0 : Int) := congrArg Int32.toInt c44
  refine s_iconst 48 C X at_47 kc_iconst_1 ?_
  refine s_goto 52 C X at_48 ?_
  refine s_nreturn C X at_52 rfl (by simp) rfl ?_
  rfl
set_option maxRecDepth 65536 in
set_option maxHeartbeats 40000000 in
theorem comes_1 {Post : Tables → Env → Array Value → State → Outcome → State → Prop} (hpost : ∀ tb e args s v u, (limb_1_1.after args s (.returned v) u = true ∧ limb_1_2.after args s (.returned v) u = true ∧ True) → FrameEnd s (.returned v) u (Jvm.fieldLocs frame_1_writes args s ++ Jvm.arrayLocs frame_1_arrays args s ++ Jvm.staticLocs frame_1_statics s) 16 128 → Post tb e args s (.returned v) u) :
    ArmFor flags0 classFile x code maxLocals ret World_1 tables_1 room_1 Calls_1 rest_1 Pre_1 Post := by
  intro l hfl _ _ p e ha hc hk s m args below hf hA hF happ hP
  obtain ⟨hcalls, hrest, hpre⟩ := hP
  obtain ⟨-, -, -, hnamed, -, -, -, hat⟩ := (Spec.applies_iff hf).mp happ
  obtain ⟨hg, hn⟩ := and_e (Cond.before_iff.mp (show (Jvm.Cond.and given_1 narrow_1).before args s = true from hpre))
  obtain ⟨g0, g1⟩ := and_e hg
  obtain ⟨ga0, gr0⟩ := and_e g1
  obtain ⟨ga1, gr1⟩ := and_e gr0
  obtain ⟨ga2, gr2⟩ := and_e gr1
  obtain ⟨ga3, gr3⟩ := and_e gr2
  obtain ⟨w0, w1, w2, w3, w4, rfl⟩ : ∃ w0 w1 w2 w3 w4 : Value, args = #[w0, w1, w2, w3, w4] := by
    have hs : args.size = 5 := by simpa [Cond.value, given_1] using g0
    obtain ⟨L⟩ := args
    match L, hs with
    | [w0, w1, w2, w3, w4], _ => exact ⟨w0, w1, w2, w3, w4, rfl⟩
  have hw := fun d (hd : d ∈ tables_1) => atoms_spec (ws := Jvm.Cond.code x code maxLocals ret :: tables_1) hat d (List.mem_cons_of_mem _ hd)
  have hfit : Fit s := fun {y c} hc i hi => by
    obtain ⟨ha, rfl⟩ := Array.getElem?_eq_some_iff.mp hc
    have q := List.all_eq_true.mp ((Array.all_eq_true_iff_forall_mem.mp hF) _ (Array.getElem_mem ha)) i (List.mem_range.mpr hi)
    simpa [Array.getElem?_eq_getElem hi] using q
  obtain ⟨i0, e0⟩ := isL_v ga0
  obtain rfl : w0 = (.long i0) := Option.some.inj e0
  obtain ⟨i1, e1⟩ := is_v ga1
  obtain rfl : w1 = (.int i1) := Option.some.inj e1
  obtain ⟨i2, e2⟩ := is_v ga2
  obtain rfl : w2 = (.int i2) := Option.some.inj e2
  obtain ⟨i3, e3⟩ := is_v ga3
  obtain rfl : w3 = (.int i3) := Option.some.inj e3
  obtain ⟨i4, e4⟩ := is_v gr3
  obtain rfl : w4 = (.int i4) := Option.some.inj e4
  obtain ⟨n, o, h1, h2, h3, _, L, rfl, ⟨rfl, N⟩, hq⟩ := rm0 l s _ hw i0 i1 i2 i3 i4  s.heap s.heap.size (Nat.le_refl _)  p e ha hc hk s m _ below hf ((Spec.applies_iff_loose hf).mp happ).1 ⟨rfl, State.Warmed39.refl s, rfl⟩ trivial
  exact ⟨n, _, h1, h2, h3, hpost _ _ _ _ _ _ ⟨Cond.after_iff.mpr rfl, Cond.after_iff.mpr (eq_i res_at (Term.int_eval (1)) rfl), trivial⟩ ⟨hq.1, hq.2.1, (hq.2.2.sift fun y hy => Or.inr (N y hy)).mono (by decide) (by decide)⟩⟩
theorem main_1_1 : Claimed_1_1 := comes_1 fun _ _ _ _ _ _ h hF => ⟨h.1, hF⟩
theorem main_1_2 : Claimed_1_2 := comes_1 fun _ _ _ _ _ _ h hF => ⟨h.2.1, hF⟩
end Jvm.Pilot.@@N@@
namespace Jvm.Pilot.@@N@@
open Jvm Jvm.ClassFile Sem Op Lib Jvm.Free Jvm.Stand Jvm.Pilot.@@N@@.Jvm.D
/-! MADE BY PROGRAM (witnessworld.py) out of the Statement's table words and the real class files: 10 classes; the members and pool entries that the words name. The judged class is class 1, her method 1. -/
namespace start1
open Jvm.ClassFile
def u (s : String) : CpInfo := .utf8 (stringToUtf16 s)
/-- a pool by its gaps: so many unusable entries, then the entry; so many at the end -/
def gap : Nat → List CpInfo → List CpInfo
  | 0, r => r
  | n + 1, r => .unusable :: gap n r
def poolList (es : List (Nat × CpInfo)) (last : Nat) : List CpInfo := es.foldr (fun e r => gap e.1 (e.2 :: r)) (gap last [])
def pool (es : List (Nat × CpInfo)) (last : Nat) : Array CpInfo := ⟨poolList es last⟩
def fileOf (pool : Array CpInfo) (this : Nat) (attrs : Array Attribute := #[]) (ms : Array MethodInfo := #[]) (fl : Nat := 33) (sup : Nat := 0) (ifs : Array Nat := #[]) (fds : Array FieldInfo := #[]) : ClassFile where
  minorVersion := 0
  majorVersion := 65
  constantPool := pool
  accessFlags := fl
  thisClass := this
  superClass := sup
  interfaces := ifs
  fields := fds
  methods := ms
  attributes := attrs
def plain (name : String) (sup : Option ClassId) : Class where
  name := name
  kind := .ordinary
  loader := none
  accessFlags := 33
  super := sup
  interfaces := #[]
  cf := none
  fields := #[]
  methods := #[]
  instanceTypes := #[]
  staticTypes := #[]
  resolved := #[]
  callSites := []
  init := .initialized
  statics := none
  mirror := none

def pool0 : Array CpInfo := pool [(5, u "<init>"), (0, u "()V"), (1, .class_ 10), (1, u "java/lang/Object")] 113

def k0c0 : Code := { maxStack := 0, maxLocals := 1, code := object_method_1_code, exceptionTable := #[], attributes := #[] }
def k0m0 : Method := { name := "<init>", desc := "()V", sig := { parameters := [], returnType := none }, accessFlags := 1, code := some k0c0 }
/-- java/lang/Object -/
def k0 : Class := { plain "java/lang/Object" none with
  accessFlags := 33
  interfaces := #[]
  cf := some (fileOf pool0 8 #[] #[{ accessFlags := 1, nameIndex := 5, descriptorIndex := 6, attributes := #[] }] 33 0 #[] #[])
  fields := #[]
  methods := #[k0m0]
  instanceTypes := #[]
  staticTypes := #[]
  resolved := Array.replicate 124 none
  statics := none }

def pool1 : Array CpInfo := pool [(2, .class_ 4), (1, u "java/lang/Object"), (0, u "<init>"), (0, u "()V"), (0, .class_ 8), (0, u "com/example/dayweave/dayweave/model/ActivityWorth"), (0, .methodref 7 10), (0, .nameAndType 5 11), (0, u "(JDDDD)V"), (0, .methodref 7 13), (0, .nameAndType 14 15), (0, u "total"), (0, u "()D"), (0, .class_ 17), (0, u "com/example/dayweave/dayweave/model/ActivityWorthTotalPinLaw"), (2, u "law"), (0, u "(JIIII)Z")] 3

def k1m0 : Method := { name := "<init>", desc := "()V", sig := { parameters := [], returnType := none }, accessFlags := 1, code := none }
def k1c1 : Code := { maxStack := 12, maxLocals := 9, code := code, exceptionTable := #[], attributes := #[] }
def k1m1 : Method := { name := "law", desc := "(JIIII)Z", sig := { parameters := [.long, .int, .int, .int, .int], returnType := some .boolean }, accessFlags := 9, code := some k1c1 }
/-- com/example/dayweave/dayweave/model/ActivityWorthTotalPinLaw -/
def k1 : Class := { plain "com/example/dayweave/dayweave/model/ActivityWorthTotalPinLaw" (some 0) with
  accessFlags := 49
  interfaces := #[]
  cf := some (fileOf pool1 16 #[] #[{ accessFlags := 1, nameIndex := 5, descriptorIndex := 6, attributes := #[] }, { accessFlags := 9, nameIndex := 20, descriptorIndex := 21, attributes := #[] }] 49 2 #[] #[])
  fields := #[]
  methods := #[k1m0, k1m1]
  instanceTypes := #[]
  staticTypes := #[]
  resolved := Array.replicate 25 none
  statics := none }

def pool2 : Array CpInfo := pool [(1, .methodref 2 3), (0, .class_ 4), (0, .nameAndType 5 6), (0, u "java/lang/Object"), (0, u "<init>"), (0, u "()V"), (0, .class_ 8), (0, u "java/lang/Record")] 13

def k2c0 : Code := { maxStack := 1, maxLocals := 1, code := jdk_30_method_1_code, exceptionTable := #[], attributes := #[] }
def k2m0 : Method := { name := "<init>", desc := "()V", sig := { parameters := [], returnType := none }, accessFlags := 4, code := some k2c0 }
/-- java/lang/Record -/
def k2 : Class := { plain "java/lang/Record" (some 0) with
  accessFlags := 1057
  interfaces := #[]
  cf := some (fileOf pool2 7 #[] #[{ accessFlags := 4, nameIndex := 5, descriptorIndex := 6, attributes := #[] }] 1057 2 #[] #[])
  fields := #[]
  methods := #[k2m0]
  instanceTypes := #[]
  staticTypes := #[]
  resolved := Array.replicate 22 none
  statics := none }

def pool3 : Array CpInfo := pool [(1, .methodref 2 3), (0, .class_ 4), (0, .nameAndType 5 6), (0, u "java/lang/Record"), (0, u "<init>"), (0, u "()V"), (0, .fieldref 8 9), (0, .class_ 10), (0, .nameAndType 11 12), (0, u "com/example/dayweave/dayweave/model/ActivityWorth"), (0, u "duration"), (0, u "J"), (0, .fieldref 8 14), (0, .nameAndType 15 16), (0, u "durationUtility"), (0, u "D"), (0, .fieldref 8 18), (0, .nameAndType 19 16), (0, u "timeUtility"), (0, .fieldref 8 21), (0, .nameAndType 22 16), (0, u "gapMinUtility"), (0, .fieldref 8 24), (0, .nameAndType 25 16), (0, u "gapMaxUtility"), (14, u "(JDDDD)V"), (2, u "NOT_PLANNED"), (0, u "Lcom/example/dayweave/dayweave/model/ActivityWorth;"), (6, u "total"), (0, u "()D")] 29

def k3c0 : Code := { maxStack := 3, maxLocals := 11, code := prog_2_method_1_code, exceptionTable := #[], attributes := #[] }
def k3m0 : Method := { name := "<init>", desc := "(JDDDD)V", sig := { parameters := [.long, .double, .double, .double, .double], returnType := none }, accessFlags := 1, code := some k3c0 }
def k3c1 : Code := { maxStack := 4, maxLocals := 1, code := prog_2_method_3_code, exceptionTable := #[], attributes := #[] }
def k3m1 : Method := { name := "total", desc := "()D", sig := { parameters := [], returnType := some .double }, accessFlags := 1, code := some k3c1 }
/-- com/example/dayweave/dayweave/model/ActivityWorth -/
def k3 : Class := { plain "com/example/dayweave/dayweave/model/ActivityWorth" (some 2) with
  accessFlags := 49
  interfaces := #[]
  cf := some (fileOf pool3 8 #[] #[{ accessFlags := 1, nameIndex := 5, descriptorIndex := 40, attributes := #[] }, { accessFlags := 1, nameIndex := 51, descriptorIndex := 52, attributes := #[] }] 49 2 #[] #[{ accessFlags := 18, nameIndex := 11, descriptorIndex := 12, attributes := #[] }, { accessFlags := 18, nameIndex := 15, descriptorIndex := 16, attributes := #[] }, { accessFlags := 18, nameIndex := 19, descriptorIndex := 16, attributes := #[] }, { accessFlags := 18, nameIndex := 22, descriptorIndex := 16, attributes := #[] }, { accessFlags := 18, nameIndex := 25, descriptorIndex := 16, attributes := #[] }, { accessFlags := 25, nameIndex := 43, descriptorIndex := 44, attributes := #[] }])
  fields := #[{ name := "duration", type := .long, accessFlags := 18, slot := 0, constantValue := 0 }, { name := "durationUtility", type := .double, accessFlags := 18, slot := 1, constantValue := 0 }, { name := "timeUtility", type := .double, accessFlags := 18, slot := 2, constantValue := 0 }, { name := "gapMinUtility", type := .double, accessFlags := 18, slot := 3, constantValue := 0 }, { name := "gapMaxUtility", type := .double, accessFlags := 18, slot := 4, constantValue := 0 }, { name := "NOT_PLANNED", type := (.object "com/example/dayweave/dayweave/model/ActivityWorth"), accessFlags := 25, slot := 0, constantValue := 0 }]
  methods := #[k3m0, k3m1]
  instanceTypes := #[.long, .double, .double, .double, .double]
  staticTypes := #[(.object "com/example/dayweave/dayweave/model/ActivityWorth")]
  resolved := Array.replicate 82 none
  statics := none }

def pool4 : Array CpInfo := pool [(1, u "java/lang/Cloneable"), (0, .class_ 1), (0, u "java/lang/Object"), (0, .class_ 3)] 3

/-- java/lang/Cloneable -/
def k4 : Class := { plain "java/lang/Cloneable" (some 0) with
  accessFlags := 1537
  interfaces := #[]
  cf := some (fileOf pool4 2 #[] #[] 1537 4 #[] #[])
  fields := #[]
  methods := #[]
  instanceTypes := #[]
  staticTypes := #[]
  resolved := Array.replicate 8 none
  statics := none }

def pool5 : Array CpInfo := pool [(1, u "java/io/Serializable"), (0, .class_ 1), (0, u "java/lang/Object"), (0, .class_ 3)] 3

/-- java/io/Serializable -/
def k5 : Class := { plain "java/io/Serializable" (some 0) with
  accessFlags := 1537
  interfaces := #[]
  cf := some (fileOf pool5 2 #[] #[] 1537 4 #[] #[])
  fields := #[]
  methods := #[]
  instanceTypes := #[]
  staticTypes := #[]
  resolved := Array.replicate 8 none
  statics := none }

/-- the primitive byte -/
def k6 : Class := { plain "byte" none with kind := .primitive 'B', accessFlags := 0x411 }
/-- [B -/
def k7 : Class := { plain "[B" (some 0) with kind := .array 6 .byte, interfaces := #[4, 5], accessFlags := 1041 }

/-- the primitive int -/
def k8 : Class := { plain "int" none with kind := .primitive 'I', accessFlags := 0x411 }
/-- [I -/
def k9 : Class := { plain "[I" (some 0) with kind := .array 8 .int, interfaces := #[4, 5], accessFlags := 1041 }

def heap : Heap := #[]
def classes : Array Class := #[k0, k1, k2, k3, k4, k5, k6, k7, k8, k9]
def interned : List (Array UInt16 × Addr) := []
def slotsUsed : Nat := 0
def theMethod : MethodId := ⟨1, 1⟩
def args0 : Array Value := #[.long 9, .int 5, .int 6, .int 7, .int 8]
def aboutOver (below : List Frame) : State where
  vm := { classes := classes, interned := interned.toArray }
  heap := heap
  slotsUsed := slotsUsed
  threads := #[{ frames := .invoking theMethod args0 :: below }]
def below0 : List Frame := [.native { method := ⟨0, 0⟩, args := #[] }]
def about1 : State := aboutOver below0
def p0 : Program := .bare "" "" ""
def e0 : Env := launch0.env 0 0 0
theorem w_frames : about1.frames = Frame.invoking theMethod args0 :: below0 := rfl
set_option maxRecDepth 65536 in
theorem w_args : argsFit about1.vm theMethod args0 = true := by decide +kernel
set_option maxRecDepth 65536 in
theorem w_heap : heapFits about1 = true := by decide +kernel
set_option maxRecDepth 65536 in
theorem w_runnable : about1.curStatus? = some .runnable := by decide +kernel
set_option maxRecDepth 65536 in
theorem w_alone : about1.alone = true := by decide +kernel
set_option maxRecDepth 65536 in
theorem w_named : about1.methodNamed? x = some theMethod := by decide +kernel
set_option maxRecDepth 65536 in
theorem w_hears : about1.hears theMethod below0 = true := by decide +kernel
set_option maxRecDepth 65536 in
theorem w_ripe : about1.ripe theMethod args0 below0 = true := by decide +kernel
theorem w_running : about1.status = .running := rfl
set_option maxRecDepth 65536 in
theorem w_room : about1.hasRoom e0.platform room_1 = true :=
  launch0.hasRoom_least _ room_1 (by decide +kernel) (by decide +kernel) (by decide +kernel) (by decide +kernel) (by decide +kernel) (by decide +kernel)
theorem allAtoms_all (ts : List Jvm.Cond) (a : Array Jvm.Value) (st : Jvm.State) : (allAtoms ts).before a st = ts.all (fun c => c.before a st) := by
  induction ts with
  | nil => rfl
  | cons c t ih =>
    show (Jvm.Cond.and c (allAtoms t)).before a st = _
    rw [Jvm.Cond.before_and, ih, List.all_cons]
def words1 : List Jvm.Cond := Jvm.Cond.code x code maxLocals ret :: tables_1
/-- a 'code' word, met by the world's own term for the bytes: nothing is compared byte by byte -/
theorem code_word {y : MethodName} {bytes : ByteArray} {mx : Nat} {rt : Option FieldType} {a : Array Value} {s : State} {m : MethodId} {meth : Method} {c : Code} (h1 : s.methodNamed? y = some m) (h2 : s.vm.method? m = some meth) (h3 : meth.code = some c) (h4 : c.code = bytes)
    (h5 : (c.maxLocals == mx && c.exceptionTable.isEmpty && decide (c.maxStack ≤ mostOperands) && decide (meth.sig.returnType = rt) && !meth.locks && decide (parseMethodDescriptor y.desc = some meth.sig)) = true) : (Jvm.Cond.code y bytes mx rt).before a s = true := by
  simp only [Bool.and_eq_true, beq_iff_eq, Bool.not_eq_true', decide_eq_true_eq] at h5
  obtain ⟨⟨⟨⟨⟨g1, g2⟩, g3⟩, g4⟩, g5⟩, g6⟩ := h5
  simp [Cond.before, Cond.holds, Cond.value, h1, h2, h3, h4, g1, g2, g3, g4, g5, g6]
def isCode : Jvm.Cond → Bool
  | .code _ _ _ _ => true
  | _ => false
theorem all_split {L : List Jvm.Cond} {P : Jvm.Cond → Bool} (h1 : L.all (fun c => isCode c || P c) = true) (h2 : ∀ c ∈ L.filter isCode, P c = true) : L.all P = true := by
  refine List.all_eq_true.mpr fun c hc => ?_
  have h := List.all_eq_true.mp h1 c hc
  rcases Bool.eq_false_or_eq_true (isCode c) with hi | hi
  · exact h2 c (List.mem_filter.mpr ⟨hc, hi⟩)
  · simpa [hi] using h
set_option maxRecDepth 65536 in
theorem w_c0 : (Jvm.Cond.code x code maxLocals ret).before args0 about1 = true := code_word (m := ⟨1, 1⟩) (meth := k1m1) (c := k1c1) (by decide +kernel) rfl rfl rfl (by decide +kernel)
set_option maxRecDepth 65536 in
theorem w_c1 : (Jvm.Cond.code ({ cls := "com/example/dayweave/dayweave/model/ActivityWorth", name := "<init>", desc := "(JDDDD)V" } : Jvm.MethodName) prog_2_method_1_code (11 : Nat) (Option.none : Option Jvm.ClassFile.FieldType)).before args0 about1 = true := code_word (m := ⟨3, 0⟩) (meth := k3m0) (c := k3c0) (by decide +kernel) rfl rfl rfl (by decide +kernel)
set_option maxRecDepth 65536 in
theorem w_c2 : (Jvm.Cond.code ({ cls := "java/lang/Record", name := "<init>", desc := "()V" } : Jvm.MethodName) jdk_30_method_1_code (1 : Nat) (Option.none : Option Jvm.ClassFile.FieldType)).before args0 about1 = true := code_word (m := ⟨2, 0⟩) (meth := k2m0) (c := k2c0) (by decide +kernel) rfl rfl rfl (by decide +kernel)
set_option maxRecDepth 65536 in
theorem w_c3 : (Jvm.Cond.code ({ cls := "java/lang/Object", name := "<init>", desc := "()V" } : Jvm.MethodName) object_method_1_code (1 : Nat) (Option.none : Option Jvm.ClassFile.FieldType)).before args0 about1 = true := code_word (m := ⟨0, 0⟩) (meth := k0m0) (c := k0c0) (by decide +kernel) rfl rfl rfl (by decide +kernel)
set_option maxRecDepth 65536 in
theorem w_c4 : (Jvm.Cond.code ({ cls := "com/example/dayweave/dayweave/model/ActivityWorth", name := "total", desc := "()D" } : Jvm.MethodName) prog_2_method_3_code (1 : Nat) (Option.some Jvm.ClassFile.FieldType.double)).before args0 about1 = true := code_word (m := ⟨3, 1⟩) (meth := k3m1) (c := k3c1) (by decide +kernel) rfl rfl rfl (by decide +kernel)
def codes1 : List Jvm.Cond := [Jvm.Cond.code x code maxLocals ret, Jvm.Cond.code ({ cls := "com/example/dayweave/dayweave/model/ActivityWorth", name := "<init>", desc := "(JDDDD)V" } : Jvm.MethodName) prog_2_method_1_code (11 : Nat) (Option.none : Option Jvm.ClassFile.FieldType), Jvm.Cond.code ({ cls := "java/lang/Record", name := "<init>", desc := "()V" } : Jvm.MethodName) jdk_30_method_1_code (1 : Nat) (Option.none : Option Jvm.ClassFile.FieldType), Jvm.Cond.code ({ cls := "java/lang/Object", name := "<init>", desc := "()V" } : Jvm.MethodName) object_method_1_code (1 : Nat) (Option.none : Option Jvm.ClassFile.FieldType), Jvm.Cond.code ({ cls := "com/example/dayweave/dayweave/model/ActivityWorth", name := "total", desc := "()D" } : Jvm.MethodName) prog_2_method_3_code (1 : Nat) (Option.some Jvm.ClassFile.FieldType.double)]
set_option maxRecDepth 65536 in
theorem codes_eq : words1.filter isCode = codes1 := rfl
theorem w_codes : ∀ c ∈ words1.filter isCode, c.before args0 about1 = true := by
  rw [codes_eq]
  intro c hc
  simp only [codes1, List.mem_cons, List.not_mem_nil, or_false] at hc
  rcases hc with rfl | rfl | rfl | rfl | rfl
  · exact w_c0
  · exact w_c1
  · exact w_c2
  · exact w_c3
  · exact w_c4
set_option maxRecDepth 65536 in
theorem w_t1 : (words1.take 24).all (fun c => isCode c || c.before args0 about1) = true := by decide +kernel
set_option maxRecDepth 65536 in
theorem w_t2 : (words1.drop 24).all (fun c => isCode c || c.before args0 about1) = true := by decide +kernel
theorem w_tables : (allAtoms (Jvm.Cond.code x code maxLocals ret :: tables_1)).before args0 about1 = true := by
  rw [allAtoms_all]
  show words1.all (fun c => c.before args0 about1) = true
  refine all_split ?_ w_codes
  rw [← List.take_append_drop 24 words1, List.all_append, w_t1, w_t2]
  rfl
set_option maxRecDepth 65536 in
theorem w_case : (Jvm.Cond.and given_1 narrow_1).before args0 about1 = true := by decide +kernel
theorem w_applies : (headSpec (Jvm.Cond.code x code maxLocals ret :: tables_1) room_1).applies x e0.platform about1 = true :=
  (Spec.applies_iff w_frames).mpr ⟨w_running, w_runnable, w_alone, w_named, w_hears, w_ripe, w_room, w_tables⟩
theorem atStart : AtStart classFile x code maxLocals ret World_1 tables_1 room_1 Calls_1 rest_1 Pre_1 launch0 p0 e0 about1 theMethod args0 below0 :=
  ⟨lists_1, trivial, launch0.admits_env _ _ _, launch0.least_env, fairChoices_fair.cas, fairChoices_fair.clock, w_frames, w_args, w_heap, w_applies, trivial, trivial, w_case⟩
end start1
theorem witness_1 : WitnessClaimed_1 := ⟨start1.p0, start1.e0, start1.about1, start1.theMethod, start1.args0, start1.below0, start1.atStart⟩
end Jvm.Pilot.@@N@@
