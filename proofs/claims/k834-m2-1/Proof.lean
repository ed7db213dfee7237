import JvmDerived
import JvmDerived.Pilot.@@N@@Statement
import JvmDerived.Pilot.@@N@@Code
set_option linter.unusedVariables false
set_option linter.unusedSimpArgs false
namespace Jvm.OwnK
open Jvm Sem ClassFile Op Lib Jvm.Stand Jvm.Free Jvm.LawKit Jvm.RoadKit
section A
variable {tabs : List Jvm.Cond} {a0 : Array Value} {Z : State} {own nm : String} {code : ByteArray} {ml : Nat} {ret : Option FieldType} {p : Program} {l : Launch} {e : Env} {R : Room} {s : State} {m : MethodId} {args : Array Value} {below : List Frame} {meth : Method} {c : Code} {n0 : Nat} {T : State} {h : Heap} {k n : Nat} {Q : Option Value → Heap → Prop} {G : Outcome → State → List Loc → Prop} {pc : Nat} {ls : Array Slot} {st : List Value}
/-- what stands fast through a method's walk -/
def Cx (tabs : List Jvm.Cond) (a0 : Array Value) (Z : State) (own nm : String) (code : ByteArray) (ml : Nat) (ret : Option FieldType) (p : Program) (s : State) (m : MethodId) (meth : Method) (c : Code) : Prop :=
  p.tables.exec = Jvm.exec ∧ Z.Warmed39 s.vm ∧ c.code = code ∧ c.maxLocals = ml ∧ s.vm.findClass own = some m.cls ∧ meth.sig.returnType = ret ∧ meth.locks = false ∧ meth.name = nm ∧ ∀ d ∈ tabs, d.before a0 Z = true
/-- where the walk stands: the heap h, k cells and n slots made so far, nothing below n0 written -/
def St (p : Program) (l : Launch) (e : Env) (R : Room) (s : State) (m : MethodId) (args : Array Value) (below : List Frame) (meth : Method) (c : Code) (n0 : Nat) (T : State) (h : Heap) (k n : Nat) : Prop :=
  ∃ locs, Stand p l e R s m args below meth c T locs k n ∧ T.heap = h ∧ Fr n0 locs ∧ n0 ≤ s.heap.size
/-- from this frame the method ends, and returns what Q says -/
def Run (p : Program) (e : Env) (below : List Frame) (n0 : Nat) (Q : Option Value → Heap → Prop) (G : Outcome → State → List Loc → Prop) (m : MethodId) (T : State) (pc : Nat) (ls : Array Slot) (st : List Value) : Prop :=
  ∃ s₂ o, Steps p.tables e below (T.setTop (mkF m pc ls st)) s₂ ∧ s₂.status = .running ∧ Ended s₂ below o ∧ ∃ v L, o = .returned v ∧ (Q v s₂.heap ∧ Fr n0 L) ∧ G o s₂ L
theorem Run.step {T' : State} {pc' : Nat} {ls' : Array Slot} {st' : List Value} (f : ∀ t, Steps p.tables e below (T'.setTop (mkF m pc' ls' st')) t → Steps p.tables e below (T.setTop (mkF m pc ls st)) t) (r : Run p e below n0 Q G m T' pc' ls' st') : Run p e below n0 Q G m T pc ls st := by
  obtain ⟨s₂, o, h1, h2⟩ := r
  exact ⟨s₂, o, f _ h1, h2⟩
theorem Run.steps {T' : State} {pc' : Nat} {ls' : Array Slot} {st' : List Value} (f : Steps p.tables e below (T.setTop (mkF m pc ls st)) (T'.setTop (mkF m pc' ls' st'))) (r : Run p e below n0 Q G m T' pc' ls' st') : Run p e below n0 Q G m T pc ls st := Run.step (fun _ q => f.trans q) r
theorem Run.cast {st' : List Value} (q : st = st') (r : Run p e below n0 Q G m T pc ls st') : Run p e below n0 Q G m T pc ls st := q ▸ r
theorem St.at' (X : St p l e R s m args below meth c n0 T h k n) : Jvm.At T m c below := by obtain ⟨_, X, -⟩ := X; exact X.here
theorem St.sz (X : St p l e R s m args below meth c n0 T h k n) : n0 ≤ h.size := by
  obtain ⟨_, X, rfl, -, q⟩ := X
  exact Nat.le_trans q X.same.2.1
theorem Cx.d {r : Except DecodeError (Instr × Nat)} (C : Cx tabs a0 Z own nm code ml ret p s m meth c) (q : decode code pc = r) : decode c.code pc = r := hb C.2.2.1 q
theorem Cx.w {d : Jvm.Cond} (C : Cx tabs a0 Z own nm code ml ret p s m meth c) (q : d ∈ tabs) : d.before a0 Z = true := C.2.2.2.2.2.2.2.2 d q
theorem s_iloadN (pc' : Nat) (C : Cx tabs a0 Z own nm code ml ret p s m meth c) (X : St p l e R s m args below meth c n0 T h k n) {i : Fin 4} {v : Int32} (hd : decode code pc = .ok (.iload_n i, 1)) (hl : ls[i.val]? = some (.val (.int v))) (r : Run p e below n0 Q G m T pc' ls (.int v :: st)) (hp : pc + 1 = pc' := by rfl) : Run p e below n0 Q G m T pc ls st := by
  subst hp
  exact Run.step (fun t q => XS.iloadN X.at' C.1 rfl (C.d hd) hl q) r
theorem s_iload (pc' : Nat) (C : Cx tabs a0 Z own nm code ml ret p s m meth c) (X : St p l e R s m args below meth c n0 T h k n) {i : Nat} {v : Int32} (hd : decode code pc = .ok (.iload i, 2)) (hl : ls[i]? = some (.val (.int v))) (r : Run p e below n0 Q G m T pc' ls (.int v :: st)) (hp : pc + 2 = pc' := by rfl) : Run p e below n0 Q G m T pc ls st := by
  subst hp
  exact Run.step (fun t q => XS.iload X.at' C.1 rfl (C.d hd) hl q) r
theorem s_aloadN (pc' : Nat) (C : Cx tabs a0 Z own nm code ml ret p s m meth c) (X : St p l e R s m args below meth c n0 T h k n) {i : Fin 4} {v : Value} (hd : decode code pc = .ok (.aload_n i, 1)) (hl : ls[i.val]? = some (.val v)) (hv : v.isRef = true) (r : Run p e below n0 Q G m T pc' ls (v :: st)) (hp : pc + 1 = pc' := by rfl) : Run p e below n0 Q G m T pc ls st := by
  subst hp
  exact Run.step (fun t q => XS.aloadN X.at' C.1 rfl (C.d hd) hl hv q) r
theorem s_aload (pc' : Nat) (C : Cx tabs a0 Z own nm code ml ret p s m meth c) (X : St p l e R s m args below meth c n0 T h k n) {i : Nat} {v : Value} (hd : decode code pc = .ok (.aload i, 2)) (hl : ls[i]? = some (.val v)) (hv : v.isRef = true) (r : Run p e below n0 Q G m T pc' ls (v :: st)) (hp : pc + 2 = pc' := by rfl) : Run p e below n0 Q G m T pc ls st := by
  subst hp
  exact Run.step (fun t q => XS.aload X.at' C.1 rfl (C.d hd) hl hv q) r
theorem s_istore (pc' : Nat) (C : Cx tabs a0 Z own nm code ml ret p s m meth c) (X : St p l e R s m args below meth c n0 T h k n) {i : Nat} {v : Int32} {l' : Array Slot} (hd : decode code pc = .ok (.istore i, 2)) (hl : storeLocals ls i (.int v) = some l') (r : Run p e below n0 Q G m T pc' l' st) (hp : pc + 2 = pc' := by rfl) : Run p e below n0 Q G m T pc ls (.int v :: st) := by
  subst hp
  exact Run.step (fun t q => XS.istore X.at' C.1 rfl (C.d hd) rfl hl q) r
theorem s_astoreN (pc' : Nat) (C : Cx tabs a0 Z own nm code ml ret p s m meth c) (X : St p l e R s m args below meth c n0 T h k n) {i : Fin 4} {v : Value} {l' : Array Slot} (hd : decode code pc = .ok (.astore_n i, 1)) (hv : v.isRef = true) (hl : storeLocals ls i.val v = some l') (r : Run p e below n0 Q G m T pc' l' st) (hp : pc + 1 = pc' := by rfl) : Run p e below n0 Q G m T pc ls (v :: st) := by
  subst hp
  exact Run.step (fun t q => XS.astoreN X.at' C.1 rfl (C.d hd) rfl hv hl q) r
theorem s_astore (pc' : Nat) (C : Cx tabs a0 Z own nm code ml ret p s m meth c) (X : St p l e R s m args below meth c n0 T h k n) {i : Nat} {v : Value} {l' : Array Slot} (hd : decode code pc = .ok (.astore i, 2)) (hv : v.isRef = true) (hl : storeLocals ls i v = some l') (r : Run p e below n0 Q G m T pc' l' st) (hp : pc + 2 = pc' := by rfl) : Run p e below n0 Q G m T pc ls (v :: st) := by
  subst hp
  exact Run.step (fun t q => XS.astore X.at' C.1 rfl (C.d hd) rfl hv hl q) r
theorem s_iconst (pc' : Nat) (C : Cx tabs a0 Z own nm code ml ret p s m meth c) (X : St p l e R s m args below meth c n0 T h k n) {i : Int} {z : Int32} (hd : decode code pc = .ok (.iconst i, 1)) (hz : Int32.ofInt i = z) (r : Run p e below n0 Q G m T pc' ls (.int z :: st)) (hp : pc + 1 = pc' := by rfl) : Run p e below n0 Q G m T pc ls st := by
  subst hp
  exact Run.step (fun t q => XS.iconst X.at' C.1 rfl (C.d hd) (by rw [hz]; exact q)) r
theorem s_bipush (pc' : Nat) (C : Cx tabs a0 Z own nm code ml ret p s m meth c) (X : St p l e R s m args below meth c n0 T h k n) {i : Int} {z : Int32} (hd : decode code pc = .ok (.bipush i, 2)) (hz : (Int8.ofInt i).toInt32 = z) (r : Run p e below n0 Q G m T pc' ls (.int z :: st)) (hp : pc + 2 = pc' := by rfl) : Run p e below n0 Q G m T pc ls st := by
  subst hp
  exact Run.step (fun t q => XS.bipush X.at' C.1 rfl (C.d hd) (by rw [hz]; exact q)) r
theorem s_iadd (pc' : Nat) (C : Cx tabs a0 Z own nm code ml ret p s m meth c) (X : St p l e R s m args below meth c n0 T h k n) {x y : Int32} (hd : decode code pc = .ok (.iadd, 1)) (r : Run p e below n0 Q G m T pc' ls (.int (x + y) :: st)) (hp : pc + 1 = pc' := by rfl) : Run p e below n0 Q G m T pc ls (.int y :: .int x :: st) := by
  subst hp
  exact Run.step (fun t q => XS.iadd X.at' C.1 rfl (C.d hd) rfl q) r
theorem s_iand (pc' : Nat) (C : Cx tabs a0 Z own nm code ml ret p s m meth c) (X : St p l e R s m args below meth c n0 T h k n) {x y : Int32} (hd : decode code pc = .ok (.iand, 1)) (r : Run p e below n0 Q G m T pc' ls (.int (x &&& y) :: st)) (hp : pc + 1 = pc' := by rfl) : Run p e below n0 Q G m T pc ls (.int y :: .int x :: st) := by
  subst hp
  exact Run.step (fun t q => XS.iand X.at' C.1 rfl (C.d hd) rfl q) r
theorem s_imul (pc' : Nat) (C : Cx tabs a0 Z own nm code ml ret p s m meth c) (X : St p l e R s m args below meth c n0 T h k n) {x y : Int32} (hd : decode code pc = .ok (.imul, 1)) (r : Run p e below n0 Q G m T pc' ls (.int (x * y) :: st)) (hp : pc + 1 = pc' := by rfl) : Run p e below n0 Q G m T pc ls (.int y :: .int x :: st) := by
  subst hp
  exact Run.step (fun t q => XS.imul X.at' C.1 rfl (C.d hd) rfl q) r
theorem s_dup (pc' : Nat) (C : Cx tabs a0 Z own nm code ml ret p s m meth c) (X : St p l e R s m args below meth c n0 T h k n) {v : Value} (hd : decode code pc = .ok (.dup, 1)) (hc : v.category = 1) (r : Run p e below n0 Q G m T pc' ls (v :: v :: st)) (hp : pc + 1 = pc' := by rfl) : Run p e below n0 Q G m T pc ls (v :: st) := by
  subst hp
  exact Run.step (fun t q => XS.dup X.at' C.1 rfl (C.d hd) rfl hc q) r
theorem s_goto (pc' : Nat) (C : Cx tabs a0 Z own nm code ml ret p s m meth c) (X : St p l e R s m args below meth c n0 T h k n) {o : Int} (hd : decode code pc = .ok (.goto o, 3)) (r : Run p e below n0 Q G m T pc' ls st) (hp : 0 ≤ (pc : Int) + o ∧ ((pc : Int) + o).toNat = pc' := by decide) : Run p e below n0 Q G m T pc ls st := by
  exact Run.step (fun t q => XS.goto X.at' C.1 rfl rfl (C.d hd) hp.1 hp.2 q) r
theorem s_if_eq (pY pN : Nat) (C : Cx tabs a0 Z own nm code ml ret p s m meth c) (X : St p l e R s m args below meth c n0 T h k n) {x : Int32} {o : Int} (hd : decode code pc = .ok (.ifCond .eq o, 3)) (ry : x = (0 : Int32) → Run p e below n0 Q G m T pY ls st) (rn : ¬ x = (0 : Int32) → Run p e below n0 Q G m T pN ls st) (hp : 0 ≤ (pc : Int) + o ∧ ((pc : Int) + o).toNat = pY ∧ pc + 3 = pN := by decide) : Run p e below n0 Q G m T pc ls (.int x :: st) := by
  by_cases g : x = (0 : Int32)
  · exact Run.step (fun t q => XS.ifYes X.at' C.1 rfl rfl (C.d hd) rfl ((if0 _ _).trans (teq g).1) hp.1 hp.2.1 q) (ry g)
  · obtain rfl := hp.2.2
    exact Run.step (fun t q => XS.ifNo X.at' C.1 rfl (C.d hd) rfl ((if0 _ _).trans (feq g).1) q) (rn g)
theorem s_icmp_ne (pY pN : Nat) (C : Cx tabs a0 Z own nm code ml ret p s m meth c) (X : St p l e R s m args below meth c n0 T h k n) {x y : Int32} {o : Int} (hd : decode code pc = .ok (.if_icmp .ne o, 3)) (ry : ¬ x = y → Run p e below n0 Q G m T pY ls st) (rn : x = y → Run p e below n0 Q G m T pN ls st) (hp : 0 ≤ (pc : Int) + o ∧ ((pc : Int) + o).toNat = pY ∧ pc + 3 = pN := by decide) : Run p e below n0 Q G m T pc ls (.int y :: .int x :: st) := by
  by_cases g : x = y
  · obtain rfl := hp.2.2
    exact Run.step (fun t q => XS.icmpNo X.at' C.1 rfl (C.d hd) rfl (teq g).2 q) (rn g)
  · exact Run.step (fun t q => XS.icmpYes X.at' C.1 rfl rfl (C.d hd) rfl (feq g).2 hp.1 hp.2.1 q) (ry g)
theorem s_if_ne (pY pN : Nat) (C : Cx tabs a0 Z own nm code ml ret p s m meth c) (X : St p l e R s m args below meth c n0 T h k n) {x : Int32} {o : Int} (hd : decode code pc = .ok (.ifCond .ne o, 3)) (ry : ¬ x = (0 : Int32) → Run p e below n0 Q G m T pY ls st) (rn : x = (0 : Int32) → Run p e below n0 Q G m T pN ls st) (hp : 0 ≤ (pc : Int) + o ∧ ((pc : Int) + o).toNat = pY ∧ pc + 3 = pN := by decide) : Run p e below n0 Q G m T pc ls (.int x :: st) := by
  by_cases g : x = (0 : Int32)
  · obtain rfl := hp.2.2
    exact Run.step (fun t q => XS.ifNo X.at' C.1 rfl (C.d hd) rfl ((if0 _ _).trans (teq g).2) q) (rn g)
  · exact Run.step (fun t q => XS.ifYes X.at' C.1 rfl rfl (C.d hd) rfl ((if0 _ _).trans (feq g).2) hp.1 hp.2.1 q) (ry g)
theorem FE_mono {kc ks : Nat} (hk : k ≤ kc) (hn : n ≤ ks) : ∀ (v : Option Value) (t : State) (L : List Loc), FrameEnd s (.returned v) t L k n → FrameEnd s (.returned v) t L kc ks := fun v t L h => ⟨h.1, h.2.1, h.2.2.mono hk hn⟩
theorem Run.done (C : Cx tabs a0 Z own nm code ml ret p s m meth c) (X : St p l e R s m args below meth c n0 T h k n) {v : Option Value} (hv : ret = none → v = none) (hG : ∀ (v : Option Value) (t : State) (L : List Loc), FrameEnd s (.returned v) t L k n → G (.returned v) t L) (q : Q v h) (f : ∀ locs fs, Stand p l e R s m args below meth c T locs k n → (∀ (f : JFrame) (acts : List Action), f.method = m → f.locked = none → f.entered = [] → (doReturn e (T.setTop f) acts v).1 = T.setFrames fs) → Steps p.tables e below (T.setTop (mkF m pc ls st)) (T.setFrames fs)) : Run p e below n0 Q G m T pc ls st := by
  obtain ⟨locs, Y, rfl, N, -⟩ := X
  obtain ⟨fs, hr, hrun, hended, hW, hsame⟩ := Y.leave (v := v) (by rw [C.2.2.2.2.2.1]; exact hv) C.2.2.2.2.2.2.1
  exact ⟨_, _, f locs fs Y hr, hrun, hended, _, _, rfl, ⟨q, N⟩, hG _ _ _ ⟨⟨_, rfl⟩, hW, hsame⟩⟩
theorem s_return (C : Cx tabs a0 Z own nm code ml ret p s m meth c) (X : St p l e R s m args below meth c n0 T h k n) (hd : decode code pc = .ok (.return_, 1)) (hr : ret = none) (q : Q none h) (hG : ∀ (v : Option Value) (t : State) (L : List Loc), FrameEnd s (.returned v) t L k n → G (.returned v) t L := by exact FE_mono (by decide) (by decide)) : Run p e below n0 Q G m T pc ls [] := by
  subst hr
  exact Run.done C X (fun _ => rfl) hG q (fun locs fs Y hr => Y.returnOut C.1 C.2.2.2.2.2.1 (C.d hd) hr)
theorem s_ireturn (C : Cx tabs a0 Z own nm code ml ret p s m meth c) (X : St p l e R s m args below meth c n0 T h k n) {z : Int32} (hd : decode code pc = .ok (.ireturn, 1)) (hr : ret = some .int) (q : Q (some (.int z)) h) (hG : ∀ (v : Option Value) (t : State) (L : List Loc), FrameEnd s (.returned v) t L k n → G (.returned v) t L := by exact FE_mono (by decide) (by decide)) : Run p e below n0 Q G m T pc ls (.int z :: st) := by
  subst hr
  refine Run.done C X (fun w => by cases w) hG q (fun locs fs Y hr => ?_)
  exact retOut Y C.1 C.2.2.2.2.2.1 (t := .int) rfl (Or.inl ⟨rfl, Or.inl rfl, _, rfl⟩) (C.d hd) hr
theorem s_nreturn (C : Cx tabs a0 Z own nm code ml ret p s m meth c) (X : St p l e R s m args below meth c n0 T h k n) {z z' : Int32} {t : FieldType} (hd : decode code pc = .ok (.ireturn, 1)) (hr : ret = some t) (ht : t = .boolean ∨ t = .byte ∨ t = .char ∨ t = .short) (hz : nar t z = z') (q : Q (some (.int z')) h) (hG : ∀ (v : Option Value) (t : State) (L : List Loc), FrameEnd s (.returned v) t L k n → G (.returned v) t L := by exact FE_mono (by decide) (by decide)) : Run p e below n0 Q G m T pc ls (.int z :: st) := by
  subst hr hz
  refine Run.done C X (fun w => by cases w) hG q (fun locs fs Y hr => ?_)
  exact retN Y C.1 C.2.2.2.2.2.1 ht (C.d hd) hr
theorem s_getfield (pc' : Nat) (C : Cx tabs a0 Z own nm code ml ret p s m meth c) (X : St p l e R s m args below meth c n0 T h k n) {R0 O fn d host : String} {idx : Nat} {a : Addr} {v : Value} (hd : decode code pc = .ok (.getfield idx, 3)) (w : Jvm.Cond.fieldLink own idx R0 fn d ∈ tabs ∨ Jvm.Cond.fieldLinkNest own idx R0 fn d host ∈ tabs) (via : Via Z R0 O fn d) (F : Fld Z h a O fn d v) (r : ∀ T', St p l e R s m args below meth c n0 T' h k n → Run p e below n0 Q G m T' pc' ls (v :: st)) (hp : pc + 3 = pc' := by rfl) : Run p e below n0 Q G m T pc ls (.ref a :: st) := by
  subst hp
  obtain ⟨locs, Y, eT, N, q⟩ := X
  obtain ⟨T', Y', e', f⟩ := getF (host := host) Y C.1 C.2.1 C.2.2.2.2.1 (w.imp C.w C.w) via eT F (g := mkF m pc ls (.ref a :: st)) rfl rfl (C.d hd)
  exact Run.step f (r T' ⟨locs, Y', e', N, q⟩)
theorem s_putfield (pc' : Nat) (C : Cx tabs a0 Z own nm code ml ret p s m meth c) (X : St p l e R s m args below meth c n0 T h k n) {R0 O fn d host K : String} {idx kk : Nat} {ty : FieldType} {a : Addr} {v old : Value} (hd : decode code pc = .ok (.putfield idx, 3)) (w : Jvm.Cond.fieldLink own idx R0 fn d ∈ tabs ∨ Jvm.Cond.fieldLinkNest own idx R0 fn d host ∈ tabs) (via : Via Z R0 O fn d) (F : Fld Z h a O fn d old) (E : Exa Z h a K) (L : Jvm.Cond.lays K O fn d ∈ tabs ∨ (Jvm.Cond.laysFinal K O fn d ∈ tabs ∧ own = O ∧ nm = "<init>")) (wi : Jvm.Cond.instantiable K kk ∈ tabs) (hty : parseFieldDescriptor d = some ty) (hn : narrow ty v = v) (hf : fits ty v = true) (ge : n0 ≤ a)
    (r : ∀ T' h', St p l e R s m args below meth c n0 T' h' k n → Wr h h' a (RoadKit.slotOf Z O fn d) v → Run p e below n0 Q G m T' pc' ls st) (hp : pc + 3 = pc' := by rfl) : Run p e below n0 Q G m T pc ls (v :: .ref a :: st) := by
  subst hp
  obtain ⟨locs, Y, eT, N, q⟩ := X
  obtain ⟨T', h', Y', e', W, f⟩ := putF (host := host) Y C.1 C.2.1 C.2.2.2.2.1 (w.imp C.w C.w) via eT F E (L.imp C.w fun z => ⟨C.w z.1, z.2.1, C.2.2.2.2.2.2.2.1.trans z.2.2⟩) (C.w wi) hty hn hf (g := mkF m pc ls (v :: .ref a :: st)) rfl rfl (C.d hd)
  exact Run.step f (r T' h' ⟨_, Y', e', Fr.snoc Y' N ge, q⟩ W)
theorem s_new (pc' : Nat) (C : Cx tabs a0 Z own nm code ml ret p s m meth c) (X : St p l e R s m args below meth c n0 T h k n) {K : String} {idx nn : Nat} (hd : decode code pc = .ok (.new idx, 3)) (w1 : Jvm.Cond.classLink own idx K ∈ tabs) (w2 : Jvm.Cond.instantiable K nn ∈ tabs) (w3 : Jvm.Cond.initialized K ∈ tabs)
    (r : ∀ T' h' b, h.size = b → St p l e R s m args below meth c n0 T' h' (k + 1) (n + nn) → Ext h h' → Exa Z h' b K → (∀ {O fn d : String} {ty : FieldType}, Laid Z a0 K O fn d → parseFieldDescriptor d = some ty → Fld Z h' b O fn d (defaultValue ty)) → n0 ≤ b → Run p e below n0 Q G m T' pc' ls (.ref b :: st)) (hp : pc + 3 = pc' := by rfl) (hc : k + 1 ≤ R.cells ∧ n + nn ≤ R.slots := by decide) : Run p e below n0 Q G m T pc ls st := by
  subst hp
  have hz := X.sz
  obtain ⟨locs, Y, eT, N, q⟩ := X
  obtain ⟨T', h', Y', e', E, A, D, -, f⟩ := newO Y C.1 C.2.1 C.2.2.2.2.1 (C.w w1) (C.w w2) (C.w w3) eT (g := mkF m pc ls st) rfl (C.d hd) hc.1 hc.2
  exact Run.step f (r T' h' _ rfl ⟨locs, Y', e', N, q⟩ E A D hz)
theorem s_objInit (pc' : Nat) (C : Cx tabs a0 Z own nm code ml ret p s m meth c) (X : St p l e R s m args below meth c n0 T h k n) {idx W : Nat} {a : Addr} (hd : decode code pc = .ok (.invokespecial idx, 3)) (w1 : Jvm.Cond.methodLink own idx Lib.objectInit ∈ tabs) (w2 : Jvm.Cond.instanceMethod Lib.objectInit ∈ tabs) (w3 : Jvm.Cond.code Lib.objectInit ⟨#[0xb1]⟩ 1 none ∈ tabs) (hsz : ls.size = ml) (hW : (st.map fun v => v.category).sum = W) (hf : 1 ≤ R.frames ∧ W + 12 ≤ R.locals)
    (r : ∀ T', St p l e R s m args below meth c n0 T' h k n → Run p e below n0 Q G m T' pc' ls st) (hp : pc + 3 = pc' := by rfl) : Run p e below n0 Q G m T pc ls (.ref a :: st) := by
  subst hp
  obtain ⟨locs, Y, eT, N, q⟩ := X
  obtain ⟨T', Y', e', f⟩ := initO Y C.1 C.2.1 C.2.2.2.2.1 (C.w w1) (C.w w2) (C.w w3) eT (g := mkF m pc ls (.ref a :: st)) rfl (hsz.trans C.2.2.2.1.symm) rfl (C.d hd) hf.1 (W := W) (by show 2 * 0 + _ ≤ _; rw [hW]; omega) hf.2
  exact Run.step f (r T' ⟨locs, Y', e', N, q⟩)
theorem s_instY (pc' : Nat) (C : Cx tabs a0 Z own nm code ml ret p s m meth c) (X : St p l e R s m args below meth c n0 T h k n) {K : String} {idx : Nat} {a : Addr} (hd : decode code pc = .ok (.instanceof idx, 3)) (w : Jvm.Cond.classLink own idx K ∈ tabs) (F : Ins Z h a K true) (r : ∀ T', St p l e R s m args below meth c n0 T' h k n → Run p e below n0 Q G m T' pc' ls (.int 1 :: st)) (hp : pc + 3 = pc' := by rfl) : Run p e below n0 Q G m T pc ls (.ref a :: st) := by
  subst hp
  obtain ⟨locs, Y, eT, N, q⟩ := X
  obtain ⟨T', Y', e', f⟩ := instY Y C.1 C.2.1 C.2.2.2.2.1 (C.w w) eT F (g := mkF m pc ls (.ref a :: st)) rfl rfl (C.d hd)
  exact Run.step f (r T' ⟨locs, Y', e', N, q⟩)
theorem s_castY (pc' : Nat) (C : Cx tabs a0 Z own nm code ml ret p s m meth c) (X : St p l e R s m args below meth c n0 T h k n) {K : String} {idx : Nat} {a : Addr} (hd : decode code pc = .ok (.checkcast idx, 3)) (w : Jvm.Cond.classLink own idx K ∈ tabs) (F : Ins Z h a K true) (r : ∀ T', St p l e R s m args below meth c n0 T' h k n → Run p e below n0 Q G m T' pc' ls (.ref a :: st)) (hp : pc + 3 = pc' := by rfl) : Run p e below n0 Q G m T pc ls (.ref a :: st) := by
  subst hp
  obtain ⟨locs, Y, eT, N, q⟩ := X
  obtain ⟨T', Y', e', f⟩ := castY Y C.1 C.2.1 C.2.2.2.2.1 (C.w w) eT F (g := mkF m pc ls (.ref a :: st)) rfl rfl (C.d hd)
  exact Run.step f (r T' ⟨locs, Y', e', N, q⟩)
/-- a method's contract at given arguments and a given heap -/
def Met (l : Launch) (Z : State) (y : MethodName) (bytes : ByteArray) (ml : Nat) (ret : Option FieldType) (rm : Room) (ws : List Jvm.Cond) (as : Array Value) (h : Heap) (n0 : Nat) (Q : Option Value → Heap → Prop) : Prop :=
  MetFree l y (head1 (Jvm.Cond.code y bytes ml ret :: ws) rm) (fun a U => a = as ∧ Z.Warmed39 U.vm ∧ U.heap = h) (fun _ _ _ _ _ => True) (fun _ U o U' => ∃ v L, o = .returned v ∧ (Q v U'.heap ∧ Fr n0 L) ∧ FrameEnd U o U' L rm.cells rm.slots)
theorem Met.mk {y : MethodName} {rm : Room} {ws : List Jvm.Cond} {as : Array Value} {ls0 : Array Slot} (hpl : plainFor y = true) (hw : ∀ d ∈ tabs, d.before a0 Z = true) (hn : n0 ≤ h.size) (hef : ∀ m, entryFrame m as ml = mkF m 0 ls0 [])
    (body : ∀ p e s m below meth c T, Cx tabs a0 Z y.cls y.name code ml ret p s m meth c → St p l e rm s m as below meth c n0 T h 0 0 → Run p e below n0 Q (fun o t L => FrameEnd s o t L rm.cells rm.slots) m T 0 ls0 []) : Met l Z y code ml ret rm ws as h n0 Q := by
  refine MetFree.of_bodySF hpl hisR ?_
  intro p e s m args below meth c s₁ Bd hml0 hP hK
  obtain ⟨rfl, hZ, rfl⟩ := hP
  have X0 : Stand p l e rm s m args below meth c s₁ [] 0 0 := Stand.of_body Bd
  have e0 : s₁.heap = s.heap := by rw [Bd.state]; rfl
  have r := body p e s m below meth c s₁ ⟨Bd.exec, hZ, Bd.bytes, hml0, findClass_of_methodNamed Bd.named, Bd.returns, Bd.notSynchronized, (name_of_methodNamed Bd.named Bd.method).1, hw⟩ ⟨[], X0, e0, Fr.nil n0, hn⟩
  obtain ⟨s₂, o, h1, h2⟩ := r
  exact ⟨s₂, o, castTop (hef m) h1, h2⟩
theorem s_callC (pc' : Nat) (argsL rest : List Value) (W : Nat) (C : Cx tabs a0 Z own nm code ml ret p s m meth c) (X : St p l e R s m args below meth c n0 T h k n) {idx : Nat} {y : MethodName} {bytes : ByteArray} {maxL : Nat} {rm : Room} {stk : List Value} {Q1 : Option Value → Heap → Prop} {a : Addr} (hd : decode code pc = .ok (.invokespecial idx, 3)) (hi : y.name = "<init>") (w1 : Jvm.Cond.methodLink own idx y ∈ tabs) (w2 : Jvm.Cond.instanceMethod y ∈ tabs) (w3 : Jvm.Cond.initialized y.cls ∈ tabs) (w4 : Jvm.Cond.code y bytes maxL none ∈ tabs)
    (M : Met l Z y bytes maxL none rm [] (.ref a :: argsL).toArray h n0 Q1) (hlen : ∀ sig, parseMethodDescriptor y.desc = some sig → argsL.length = sig.parameters.length) (hs : stk = argsL.reverse ++ .ref a :: rest) (hsz : ls.size = ml) (hW : (rest.map fun v => v.category).sum = W)
    (r : ∀ T' v h', St p l e R s m args below meth c n0 T' h' (k + rm.cells) (n + rm.slots) → Q1 v h' → Run p e below n0 Q G m T' pc' ls (v.toList ++ rest)) (hp : pc + 3 = pc' := by rfl) (hr : rm.frames + 1 ≤ R.frames ∧ W + (maxL + 11) + rm.locals ≤ R.locals ∧ k + rm.cells ≤ R.cells ∧ n + rm.slots ≤ R.slots := by decide) (hy : y.cls ≠ "java/lang/invoke/MethodHandle" ∧ y.cls ≠ "java/lang/invoke/VarHandle" := by decide) : Run p e below n0 Q G m T pc ls stk := by
  subst hp hs
  obtain ⟨locs, Y, eT, N, q⟩ := X
  obtain ⟨v, _, ⟨T1, L1, k1, n1⟩, -, Y', ⟨Lc, hQ, l1, y1, z1⟩, f⟩ := Y.specialBack C.1 (y := y) hi C.2.2.2.2.1 (mvT C.2.1 (C.w w1)) (mvT C.2.1 (C.w w2)) (mvT C.2.1 (C.w w4)) hy (backOf (W := W) (Q := fun v h L => Q1 v h ∧ Fr n0 L) M C.2.1 (C.w w4) (C.w w3) hr.1 hr.2.1) (g := mkF m pc ls (argsL.reverse ++ .ref a :: rest)) rfl (hsz.trans C.2.2.2.1.symm) (Steps.refl _) (a := a) (argsL := argsL) (rest := rest) hlen rfl (by show 2 * 0 + _ ≤ _; rw [hW]; omega) (C.d hd) (fun _ _ => ⟨rfl, eT, hr.2.2.1, hr.2.2.2⟩)
  dsimp only [Pt.U, Pt.locs, Pt.cells, Pt.slots] at Y' l1 y1 z1 f hQ
  subst l1 y1 z1
  exact Run.steps f (r T1 v _ ⟨_, Y', rfl, Fr.app N hQ.2, q⟩ hQ.1)
theorem s_callV (pc' : Nat) (argsL rest : List Value) (W : Nat) (C : Cx tabs a0 Z own nm code ml ret p s m meth c) (X : St p l e R s m args below meth c n0 T h k n) {idx : Nat} {y : MethodName} {bytes : ByteArray} {maxL : Nat} {rt : Option FieldType} {rm : Room} {stk : List Value} {Q1 : Option Value → Heap → Prop} {y0 : MethodName} {K : String} {a : Addr} (hd : decode code pc = .ok (.invokevirtual idx, 3)) (w1 : Jvm.Cond.methodLink own idx y0 ∈ tabs) (w2 : Jvm.Cond.declares y0 ∈ tabs) (hnf : NotFace s y0) (w5 : Jvm.Cond.selects K y0 y ∈ tabs) (w6 : Jvm.Cond.instanceMethod y ∈ tabs) (w3 : Jvm.Cond.initialized y.cls ∈ tabs) (w4 : Jvm.Cond.code y bytes maxL rt ∈ tabs)
    (E : Exa Z h a K) (M : Met l Z y bytes maxL rt rm [] (.ref a :: argsL).toArray h n0 Q1) (hlen : ∀ sig, parseMethodDescriptor y0.desc = some sig → argsL.length = sig.parameters.length) (hs : stk = argsL.reverse ++ .ref a :: rest) (hsz : ls.size = ml) (hW : (rest.map fun v => v.category).sum = W)
    (r : ∀ T' v h', St p l e R s m args below meth c n0 T' h' (k + rm.cells) (n + rm.slots) → Q1 v h' → Run p e below n0 Q G m T' pc' ls (v.toList ++ rest)) (hp : pc + 3 = pc' := by rfl) (hr : rm.frames + 1 ≤ R.frames ∧ W + (maxL + 11) + rm.locals ≤ R.locals ∧ k + rm.cells ≤ R.cells ∧ n + rm.slots ≤ R.slots := by decide) (hy : y0.cls ≠ "java/lang/invoke/MethodHandle" ∧ y0.cls ≠ "java/lang/invoke/VarHandle" := by decide) : Run p e below n0 Q G m T pc ls stk := by
  subst hp hs
  obtain ⟨locs, Y, eT, N, q⟩ := X
  obtain ⟨cq, kq, qa, qb, qc⟩ := isOf C.2.1 eT E
  obtain ⟨v, _, ⟨T1, L1, k1, n1⟩, -, Y', ⟨Lc, hQ, l1, y1, z1⟩, f⟩ := Y.virtualBack C.1 (y := y0) (z := y) C.2.2.2.2.1 (mvT C.2.1 (C.w w1)) (mvT C.2.1 (C.w w2)) hnf (mvT C.2.1 (C.w w5)) (mvT C.2.1 (C.w w6)) hy (backOf (W := W) (Q := fun v h L => Q1 v h ∧ Fr n0 L) M C.2.1 (C.w w4) (C.w w3) hr.1 hr.2.1) qa qc (g := mkF m pc ls (argsL.reverse ++ .ref a :: rest)) rfl (hsz.trans C.2.2.2.1.symm) (Steps.refl _) (argsL := argsL) (rest := rest) hlen rfl (by show 2 * 0 + _ ≤ _; rw [hW]; omega) (C.d hd) (fun _ _ => ⟨rfl, eT, hr.2.2.1, hr.2.2.2⟩)
  dsimp only [Pt.U, Pt.locs, Pt.cells, Pt.slots] at Y' l1 y1 z1 f hQ
  subst l1 y1 z1
  exact Run.steps f (r T1 v _ ⟨_, Y', rfl, Fr.app N hQ.2, q⟩ hQ.1)
end A
end Jvm.OwnK
namespace Jvm.Pilot.@@N@@
open Jvm Jvm.ClassFile Sem Op Lib Jvm.Free Jvm.Stand Jvm.LawKit Jvm.RoadKit Bundle Jvm.OwnK Jvm.Pilot.@@N@@.Jvm.D
theorem pn_com_example_libring_libring_slots_SlotRange : plainName "com/example/libring/libring/slots/SlotRange" = true := by first | (simp [plainName, overriddenIn]; done) | decide +kernel
theorem d1_0 : decode prog_15_method_1_code 0 = .ok (.aload_n 0, 1) := by decide +kernel
theorem d1_1 : decode prog_15_method_1_code 1 = .ok (.invokespecial 1, 3) := by decide +kernel
theorem d1_4 : decode prog_15_method_1_code 4 = .ok (.aload_n 0, 1) := by decide +kernel
theorem d1_5 : decode prog_15_method_1_code 5 = .ok (.iload_n 1, 1) := by decide +kernel
theorem d1_6 : decode prog_15_method_1_code 6 = .ok (.putfield 7, 3) := by decide +kernel
theorem d1_9 : decode prog_15_method_1_code 9 = .ok (.aload_n 0, 1) := by decide +kernel
theorem d1_10 : decode prog_15_method_1_code 10 = .ok (.iload_n 2, 1) := by decide +kernel
theorem d1_11 : decode prog_15_method_1_code 11 = .ok (.putfield 13, 3) := by decide +kernel
theorem d1_14 : decode prog_15_method_1_code 14 = .ok (.return_, 1) := by decide +kernel
theorem d3_0 : decode prog_15_method_5_code 0 = .ok (.bipush 31, 2) := by decide +kernel
theorem kc_bipush_31 : (Int8.ofInt 31).toInt32 = (31 : Int32) := by decide +kernel
theorem d3_2 : decode prog_15_method_5_code 2 = .ok (.aload_n 0, 1) := by decide +kernel
theorem d3_3 : decode prog_15_method_5_code 3 = .ok (.getfield 7, 3) := by decide +kernel
theorem d3_6 : decode prog_15_method_5_code 6 = .ok (.imul, 1) := by decide +kernel
theorem d3_7 : decode prog_15_method_5_code 7 = .ok (.aload_n 0, 1) := by decide +kernel
theorem d3_8 : decode prog_15_method_5_code 8 = .ok (.getfield 13, 3) := by decide +kernel
theorem d3_11 : decode prog_15_method_5_code 11 = .ok (.iadd, 1) := by decide +kernel
theorem d3_12 : decode prog_15_method_5_code 12 = .ok (.ireturn, 1) := by decide +kernel
theorem d4_0 : decode prog_15_method_4_code 0 = .ok (.aload_n 1, 1) := by decide +kernel
theorem d4_1 : decode prog_15_method_4_code 1 = .ok (.instanceof 8, 3) := by decide +kernel
theorem d4_4 : decode prog_15_method_4_code 4 = .ok (.ifCond .ne 5, 3) := by decide +kernel
theorem d4_9 : decode prog_15_method_4_code 9 = .ok (.aload_n 1, 1) := by decide +kernel
theorem d4_10 : decode prog_15_method_4_code 10 = .ok (.checkcast 8, 3) := by decide +kernel
theorem d4_13 : decode prog_15_method_4_code 13 = .ok (.astore_n 2, 1) := by decide +kernel
theorem d4_14 : decode prog_15_method_4_code 14 = .ok (.aload_n 0, 1) := by decide +kernel
theorem d4_15 : decode prog_15_method_4_code 15 = .ok (.getfield 7, 3) := by decide +kernel
theorem d4_18 : decode prog_15_method_4_code 18 = .ok (.aload_n 2, 1) := by decide +kernel
theorem d4_19 : decode prog_15_method_4_code 19 = .ok (.getfield 7, 3) := by decide +kernel
theorem d4_22 : decode prog_15_method_4_code 22 = .ok (.if_icmp .ne 18, 3) := by decide +kernel
theorem d4_40 : decode prog_15_method_4_code 40 = .ok (.iconst 0, 1) := by decide +kernel
theorem kc_iconst_0 : Int32.ofInt 0 = (0 : Int32) := by decide +kernel
theorem d4_41 : decode prog_15_method_4_code 41 = .ok (.ireturn, 1) := by decide +kernel
theorem d4_25 : decode prog_15_method_4_code 25 = .ok (.aload_n 0, 1) := by decide +kernel
theorem d4_26 : decode prog_15_method_4_code 26 = .ok (.getfield 13, 3) := by decide +kernel
theorem d4_29 : decode prog_15_method_4_code 29 = .ok (.aload_n 2, 1) := by decide +kernel
theorem d4_30 : decode prog_15_method_4_code 30 = .ok (.getfield 13, 3) := by decide +kernel
theorem d4_33 : decode prog_15_method_4_code 33 = .ok (.if_icmp .ne 7, 3) := by decide +kernel
theorem d4_36 : decode prog_15_method_4_code 36 = .ok (.iconst 1, 1) := by decide +kernel
theorem kc_iconst_1 : Int32.ofInt 1 = (1 : Int32) := by decide +kernel
theorem d4_37 : decode prog_15_method_4_code 37 = .ok (.goto 4, 3) := by decide +kernel
theorem pn_com_example_libring_libring_slots_SlotRangeHashCodePinLaw : plainName "com/example/libring/libring/slots/SlotRangeHashCodePinLaw" = true := by first | (simp [plainName, overriddenIn]; done) | decide +kernel
theorem kc_iconst_2 : Int32.ofInt 2 = (2 : Int32) := by decide +kernel
theorem pd__II_V : parseMethodDescriptor "(II)V" = some ⟨[.int, .int], none⟩ := by decide +kernel
theorem pd___I : parseMethodDescriptor "()I" = some ⟨[], some .int⟩ := by decide +kernel
theorem pd__Ljava_lang_Object__Z : parseMethodDescriptor "(Ljava/lang/Object;)Z" = some ⟨[(.object "java/lang/Object")], some .boolean⟩ := by decide +kernel
set_option maxRecDepth 65536 in
set_option maxHeartbeats 40000000 in
theorem rm_init (l : Launch) (Z : State) (a0 : Array Value) (hw : ∀ d ∈ tables_1, d.before a0 Z = true) (o : Addr) (x1 x2 : Int32) (h0 : Heap) (n0 : Nat) (Z0 : n0 ≤ h0.size) (F_o_first : Fld Z h0 o "com/example/libring/libring/slots/SlotRange" "first" "I" (.int 0)) (F_o_last : Fld Z h0 o "com/example/libring/libring/slots/SlotRange" "last" "I" (.int 0)) (E_o : Exa Z h0 o "com/example/libring/libring/slots/SlotRange") (g_o : n0 ≤ o) :
    Met l Z (⟨"com/example/libring/libring/slots/SlotRange", "<init>", "(II)V"⟩ : MethodName) prog_15_method_1_code 3 none { frames := 1, cells := 0, slots := 0, locals := 12 } [] #[(.ref o), (.int x1), (.int x2)] h0 n0 (fun v h => v = none ∧ Keep h0 h [o] ∧ Exa Z h o "com/example/libring/libring/slots/SlotRange" ∧ Fld Z h o "com/example/libring/libring/slots/SlotRange" "first" "I" (.int x1) ∧ Fld Z h o "com/example/libring/libring/slots/SlotRange" "last" "I" (.int x2)) := by
  refine Met.mk (tabs := tables_1) (a0 := a0) (ls0 := #[.val (.ref o), .val (.int x1), .val (.int x2)]) (plainFor_of_name pn_com_example_libring_libring_slots_SlotRange) hw Z0 (fun m => by first | (simp [entryFrame, mkF, argsToLocals, Value.category]; done) | rfl) ?_
  intro p e s m below meth c T C X
  have Kp : Keep h0 h0 [o] := Keep.refl _ _
  refine s_aloadN 1 C X d1_0 rfl rfl ?_
  refine s_objInit 4 C X d1_1 (List.mem_of_getElem? (i := 6) rfl) (List.mem_of_getElem? (i := 7) rfl) (List.mem_of_getElem? (i := 8) rfl) rfl (W := 0) rfl (by decide) (fun T X => ?_)
  refine s_aloadN 5 C X d1_4 rfl rfl ?_
  refine s_iloadN 6 C X d1_5 rfl ?_
  refine s_putfield 9 C X (host := "") d1_6 (Or.inl (List.mem_of_getElem? (i := 9) rfl)) Via.refl F_o_first E_o (Or.inr ⟨(List.mem_of_getElem? (i := 10) rfl), rfl, rfl⟩) (List.mem_of_getElem? (i := 1) rfl) (ty := .int) (by decide) rfl rfl g_o (fun T _ X W => ?_)
  have F_o_first := F_o_first.same W
  have F_o_last := F_o_last.other W (Or.inr (slot_ne (Or.inr (hw _ (List.mem_of_getElem? (i := 12) rfl))) (Or.inr (hw _ (List.mem_of_getElem? (i := 10) rfl))) (by decide) (t := .int) (t' := .int) (by decide) (by decide)))
  have E_o := E_o.wr W
  have Kp := Kp.wr W (Or.inl (by simp))
  refine s_aloadN 10 C X d1_9 rfl rfl ?_
  refine s_iloadN 11 C X d1_10 rfl ?_
  refine s_putfield 14 C X (host := "") d1_11 (Or.inl (List.mem_of_getElem? (i := 11) rfl)) Via.refl F_o_last E_o (Or.inr ⟨(List.mem_of_getElem? (i := 12) rfl), rfl, rfl⟩) (List.mem_of_getElem? (i := 1) rfl) (ty := .int) (by decide) rfl rfl g_o (fun T _ X W => ?_)
  have F_o_first := F_o_first.other W (Or.inr (slot_ne (Or.inr (hw _ (List.mem_of_getElem? (i := 10) rfl))) (Or.inr (hw _ (List.mem_of_getElem? (i := 12) rfl))) (by decide) (t := .int) (t' := .int) (by decide) (by decide)))
  have F_o_last := F_o_last.same W
  have E_o := E_o.wr W
  have Kp := Kp.wr W (Or.inl (by simp))
  refine s_return C X d1_14 rfl ?_
  exact ⟨rfl, Kp, E_o, F_o_first, F_o_last⟩
set_option maxRecDepth 65536 in
set_option maxHeartbeats 40000000 in
theorem rm_hash (l : Launch) (Z : State) (a0 : Array Value) (hw : ∀ d ∈ tables_1, d.before a0 Z = true) (o : Addr) (x1 x2 : Int32) (h0 : Heap) (n0 : Nat) (Z0 : n0 ≤ h0.size) (F_o_first : Fld Z h0 o "com/example/libring/libring/slots/SlotRange" "first" "I" (.int x1)) (F_o_last : Fld Z h0 o "com/example/libring/libring/slots/SlotRange" "last" "I" (.int x2)) :
    Met l Z (⟨"com/example/libring/libring/slots/SlotRange", "hashCode", "()I"⟩ : MethodName) prog_15_method_5_code 1 (some .int) { frames := 0, cells := 0, slots := 0, locals := 0 } [] #[(.ref o)] h0 n0 (fun v h => v = some (.int (31 * x1 + x2)) ∧ h = h0) := by
  refine Met.mk (tabs := tables_1) (a0 := a0) (ls0 := #[.val (.ref o)]) (plainFor_of_name pn_com_example_libring_libring_slots_SlotRange) hw Z0 (fun m => by first | (simp [entryFrame, mkF, argsToLocals, Value.category]; done) | rfl) ?_
  intro p e s m below meth c T C X
  refine s_bipush 2 C X d3_0 kc_bipush_31 ?_
  refine s_aloadN 3 C X d3_2 rfl rfl ?_
  refine s_getfield 6 C X (host := "") d3_3 (Or.inl (List.mem_of_getElem? (i := 9) rfl)) Via.refl F_o_first (fun T X => ?_)
  refine s_imul 7 C X d3_6 ?_
  refine s_aloadN 8 C X d3_7 rfl rfl ?_
  refine s_getfield 11 C X (host := "") d3_8 (Or.inl (List.mem_of_getElem? (i := 11) rfl)) Via.refl F_o_last (fun T X => ?_)
  refine s_iadd 12 C X d3_11 ?_
  refine s_ireturn C X d3_12 rfl ?_
  exact ⟨rfl, rfl⟩
set_option maxRecDepth 65536 in
set_option maxHeartbeats 40000000 in
theorem rm_eq (l : Launch) (Z : State) (a0 : Array Value) (hw : ∀ d ∈ tables_1, d.before a0 Z = true) (o b : Addr) (x1 x2 y1 y2 : Int32) (h0 : Heap) (n0 : Nat) (Z0 : n0 ≤ h0.size) (F_o_first : Fld Z h0 o "com/example/libring/libring/slots/SlotRange" "first" "I" (.int x1)) (F_o_last : Fld Z h0 o "com/example/libring/libring/slots/SlotRange" "last" "I" (.int x2)) (F_b_first : Fld Z h0 b "com/example/libring/libring/slots/SlotRange" "first" "I" (.int y1)) (F_b_last : Fld Z h0 b "com/example/libring/libring/slots/SlotRange" "last" "I" (.int y2)) (E_b : Exa Z h0 b "com/example/libring/libring/slots/SlotRange") :
    Met l Z (⟨"com/example/libring/libring/slots/SlotRange", "equals", "(Ljava/lang/Object;)Z"⟩ : MethodName) prog_15_method_4_code 3 (some .boolean) { frames := 0, cells := 0, slots := 0, locals := 0 } [] #[(.ref o), (.ref b)] h0 n0 (fun v h => ((v = some (.int 1) ∧ x1.toInt = y1.toInt ∧ x2.toInt = y2.toInt) ∨ (v = some (.int 0) ∧ ¬ (x1.toInt = y1.toInt ∧ x2.toInt = y2.toInt))) ∧ h = h0) := by
  refine Met.mk (tabs := tables_1) (a0 := a0) (ls0 := #[.val (.ref o), .val (.ref b), .unset]) (plainFor_of_name pn_com_example_libring_libring_slots_SlotRange) hw Z0 (fun m => by first | (simp [entryFrame, mkF, argsToLocals, Value.category]; done) | rfl) ?_
  intro p e s m below meth c T C X
  refine s_aloadN 1 C X d4_0 rfl rfl ?_
  refine s_instY 4 C X d4_1 (List.mem_of_getElem? (i := 23) rfl) (Ins.self E_b) (fun T X => ?_)
  refine s_if_ne 9 7 C X d4_4 (fun _ => ?_) (fun c => absurd c (by decide))
  refine s_aloadN 10 C X d4_9 rfl rfl ?_
  refine s_castY 13 C X d4_10 (List.mem_of_getElem? (i := 23) rfl) (Ins.self E_b) (fun T X => ?_)
  refine s_astoreN 14 C X (l' := #[.val (.ref o), .val (.ref b), .val (.ref b)]) d4_13 rfl rfl ?_
  refine s_aloadN 15 C X d4_14 rfl rfl ?_
  refine s_getfield 18 C X (host := "") d4_15 (Or.inl (List.mem_of_getElem? (i := 9) rfl)) Via.refl F_o_first (fun T X => ?_)
  refine s_aloadN 19 C X d4_18 rfl rfl ?_
  refine s_getfield 22 C X (host := "") d4_19 (Or.inl (List.mem_of_getElem? (i := 9) rfl)) Via.refl F_b_first (fun T X => ?_)
  refine s_icmp_ne 40 25 C X d4_22 (fun c22 => ?_) (fun c22 => ?_)
  · have t_c22 : ¬ ((x1).toInt = (y1).toInt) := fun q => c22 (Int32.toInt_inj.mp q)
    refine s_iconst 41 C X d4_40 kc_iconst_0 ?_
    refine s_nreturn C X d4_41 rfl (by simp) rfl ?_
    exact ⟨Or.inr ⟨rfl, by omega⟩, rfl⟩
  have t_c22 : (x1).toInt = (y1).toInt := congrArg Int32.toInt c22
  refine s_aloadN 26 C X d4_25 rfl rfl ?_
  refine s_getfield 29 C X (host := "") d4_26 (Or.inl (List.mem_of_getElem? (i := 11) rfl)) Via.refl F_o_last (fun T X => ?_)
  refine s_aloadN 30 C X d4_29 rfl rfl ?_
  refine s_getfield 33 C X (host := "") d4_30 (Or.inl (List.mem_of_getElem? (i := 11) rfl)) Via.refl F_b_last (fun T X => ?_)
  refine s_icmp_ne 40 36 C X d4_33 (fun c33 => ?_) (fun c33 => ?_)
  · have t_c33 : ¬ ((x2).toInt = (y2).toInt) := fun q => c33 (Int32.toInt_inj.mp q)
    refine s_iconst 41 C X d4_40 kc_iconst_0 ?_
    refine s_nreturn C X d4_41 rfl (by simp) rfl ?_
    exact ⟨Or.inr ⟨rfl, by omega⟩, rfl⟩
  have t_c33 : (x2).toInt = (y2).toInt := congrArg Int32.toInt c33
  refine s_iconst 37 C X d4_36 kc_iconst_1 ?_
  refine s_goto 41 C X d4_37 ?_
  refine s_nreturn C X d4_41 rfl (by simp) rfl ?_
  exact ⟨Or.inl ⟨rfl, by omega⟩, rfl⟩
set_option maxRecDepth 65536 in
set_option maxHeartbeats 40000000 in
theorem rm0 (l : Launch) (Z : State) (a0 : Array Value) (hw : ∀ d ∈ tables_1, d.before a0 Z = true) (x0 x1 x2 x3 x4 : Int32) (h0 : Heap) (n0 : Nat) (Z0 : n0 ≤ h0.size)  :
    Met l Z x code maxLocals ret room_1 tables_1 #[(.int x0), (.int x1), (.int x2), (.int x3), (.int x4)] h0 n0 (fun v h => v = some (.int 1)) := by
  refine Met.mk (tabs := tables_1) (a0 := a0) (ls0 := #[.val (.int x0), .val (.int x1), .val (.int x2), .val (.int x3), .val (.int x4), .unset, .unset, .unset, .unset, .unset, .unset, .unset, .unset, .unset, .unset]) (plainFor_of_name pn_com_example_libring_libring_slots_SlotRangeHashCodePinLaw) hw Z0 (fun m => by first | (simp [entryFrame, mkF, argsToLocals, Value.category, maxLocals]; done) | rfl) ?_
  intro p e s m below meth c T C X
  refine s_iload 2 C X at_0 rfl ?_
  refine s_iconst 3 C X at_2 kc_iconst_1 ?_
  refine s_iand 4 C X at_3 ?_
  refine s_if_eq 11 7 C X at_4 (fun c4 => ?_) (fun c4 => ?_)
  · have t_c4 : ((x4 &&& (1 : Int32))).toInt = (0 : Int) := congrArg Int32.toInt c4
    refine s_iconst 12 C X at_11 kc_iconst_0 ?_
    refine s_istore 14 C X (l' := #[.val (.int x0), .val (.int x1), .val (.int x2), .val (.int x3), .val (.int x4), .val (.int (0 : Int32)), .unset, .unset, .unset, .unset, .unset, .unset, .unset, .unset, .unset]) at_12 rfl ?_
    refine s_iload 16 C X at_14 rfl ?_
    refine s_iconst 17 C X at_16 kc_iconst_2 ?_
    refine s_iand 18 C X at_17 ?_
    refine s_if_eq 25 21 C X at_18 (fun c18 => ?_) (fun c18 => ?_)
    · have t_c18 : ((x4 &&& (2 : Int32))).toInt = (0 : Int) := congrArg Int32.toInt c18
      refine s_iconst 26 C X at_25 kc_iconst_0 ?_
      refine s_istore 28 C X (l' := #[.val (.int x0), .val (.int x1), .val (.int x2), .val (.int x3), .val (.int x4), .val (.int (0 : Int32)), .val (.int (0 : Int32)), .unset, .unset, .unset, .unset, .unset, .unset, .unset, .unset]) at_26 rfl ?_
      refine s_iload 30 C X at_28 rfl ?_
      refine s_if_eq 37 33 C X at_30 (fun _ => ?_) (fun c => absurd (by decide : (0 : Int32) = (0 : Int32)) c)
      refine s_iloadN 38 C X at_37 rfl ?_
      refine s_istore 40 C X (l' := #[.val (.int x0), .val (.int x1), .val (.int x2), .val (.int x3), .val (.int x4), .val (.int (0 : Int32)), .val (.int (0 : Int32)), .val (.int x2), .unset, .unset, .unset, .unset, .unset, .unset, .unset]) at_38 rfl ?_
      refine s_iload 42 C X at_40 rfl ?_
      refine s_if_eq 49 45 C X at_42 (fun _ => ?_) (fun c => absurd (by decide : (0 : Int32) = (0 : Int32)) c)
      refine s_iloadN 50 C X at_49 rfl ?_
      refine s_istore 52 C X (l' := #[.val (.int x0), .val (.int x1), .val (.int x2), .val (.int x3), .val (.int x4), .val (.int (0 : Int32)), .val (.int (0 : Int32)), .val (.int x2), .val (.int x3), .unset, .unset, .unset, .unset, .unset, .unset]) at_50 rfl ?_
      refine s_new 55 C X at_52 (List.mem_of_getElem? (i := 0) rfl) (List.mem_of_getElem? (i := 1) rfl) (List.mem_of_getElem? (i := 2) rfl) (fun T _ o1 hb_o1 X E E_o1 D g_o1 => ?_)
      have F_o1_first : Fld Z _ o1 "com/example/libring/libring/slots/SlotRange" "first" "I" (.int (0 : Int32)) := D (Or.inr (hw _ (List.mem_of_getElem? (i := 10) rfl))) (ty := .int) (by decide)
      have F_o1_last : Fld Z _ o1 "com/example/libring/libring/slots/SlotRange" "last" "I" (.int (0 : Int32)) := D (Or.inr (hw _ (List.mem_of_getElem? (i := 12) rfl))) (ty := .int) (by decide)
      refine s_dup 56 C X at_55 rfl ?_
      refine s_iloadN 57 C X at_56 rfl ?_
      refine s_iloadN 58 C X at_57 rfl ?_
      refine s_callC 61 [(.int x0), (.int x1)] [(.ref o1)] 1 C X at_58 rfl (List.mem_of_getElem? (i := 3) rfl) (List.mem_of_getElem? (i := 4) rfl) (List.mem_of_getElem? (i := 2) rfl) (List.mem_of_getElem? (i := 5) rfl) (rm_init l Z a0 hw o1 x0 x1 _ n0 X.sz F_o1_first F_o1_last E_o1 g_o1) (lenOf pd__II_V rfl) rfl rfl rfl (fun T v h1 X q => ?_)
      obtain ⟨rfl, Kc, _, F_o1_first, F_o1_last⟩ := q
      have E_o1 := E_o1.keep Kc
      refine Run.cast (st' := [(.ref o1)]) rfl ?_
      refine s_astore 63 C X (l' := #[.val (.int x0), .val (.int x1), .val (.int x2), .val (.int x3), .val (.int x4), .val (.int (0 : Int32)), .val (.int (0 : Int32)), .val (.int x2), .val (.int x3), .val (.ref o1), .unset, .unset, .unset, .unset, .unset]) at_61 rfl rfl ?_
      refine s_new 66 C X at_63 (List.mem_of_getElem? (i := 0) rfl) (List.mem_of_getElem? (i := 1) rfl) (List.mem_of_getElem? (i := 2) rfl) (fun T _ o3 hb_o3 X E E_o3 D g_o3 => ?_)
      have ne_o1_o3 : o1 ≠ o3 := Nat.ne_of_lt (Nat.lt_of_lt_of_le E_o1.lt (Nat.le_of_eq hb_o3))
      have E_o1 := E_o1.ext E
      have F_o1_first := F_o1_first.ext E
      have F_o1_last := F_o1_last.ext E
      have F_o3_first : Fld Z _ o3 "com/example/libring/libring/slots/SlotRange" "first" "I" (.int (0 : Int32)) := D (Or.inr (hw _ (List.mem_of_getElem? (i := 10) rfl))) (ty := .int) (by decide)
      have F_o3_last : Fld Z _ o3 "com/example/libring/libring/slots/SlotRange" "last" "I" (.int (0 : Int32)) := D (Or.inr (hw _ (List.mem_of_getElem? (i := 12) rfl))) (ty := .int) (by decide)
      refine s_dup 67 C X at_66 rfl ?_
      refine s_iload 69 C X at_67 rfl ?_
      refine s_iload 71 C X at_69 rfl ?_
      refine s_callC 74 [(.int x2), (.int x3)] [(.ref o3)] 1 C X at_71 rfl (List.mem_of_getElem? (i := 3) rfl) (List.mem_of_getElem? (i := 4) rfl) (List.mem_of_getElem? (i := 2) rfl) (List.mem_of_getElem? (i := 5) rfl) (rm_init l Z a0 hw o3 x2 x3 _ n0 X.sz F_o3_first F_o3_last E_o3 g_o3) (lenOf pd__II_V rfl) rfl rfl rfl (fun T v h3 X q => ?_)
      obtain ⟨rfl, Kc, _, F_o3_first, F_o3_last⟩ := q
      have E_o1 := E_o1.keep Kc
      have F_o1_first := F_o1_first.keep Kc (ninS ne_o1_o3 nin0)
      have F_o1_last := F_o1_last.keep Kc (ninS ne_o1_o3 nin0)
      have E_o3 := E_o3.keep Kc
      refine Run.cast (st' := [(.ref o3)]) rfl ?_
      refine s_astore 76 C X (l' := #[.val (.int x0), .val (.int x1), .val (.int x2), .val (.int x3), .val (.int x4), .val (.int (0 : Int32)), .val (.int (0 : Int32)), .val (.int x2), .val (.int x3), .val (.ref o1), .val (.ref o3), .unset, .unset, .unset, .unset]) at_74 rfl rfl ?_
      refine s_aload 78 C X at_76 rfl rfl ?_
      refine s_callV 81 [] [] 0 C X at_78 (List.mem_of_getElem? (i := 13) rfl) (List.mem_of_getElem? (i := 14) rfl) (notFace_of_selects (args := #[]) (mvT C.2.1 (C.w (List.mem_of_getElem? (i := 16) rfl)))) (List.mem_of_getElem? (i := 16) rfl) (List.mem_of_getElem? (i := 15) rfl) (List.mem_of_getElem? (i := 2) rfl) (List.mem_of_getElem? (i := 17) rfl) E_o1 (rm_hash l Z a0 hw o1 x0 x1 _ n0 X.sz F_o1_first F_o1_last) (lenOf pd___I rfl) rfl rfl rfl (fun T v h4 X q => ?_)
      obtain ⟨rfl, hE⟩ := q
      rw [hE] at X
      refine Run.cast (st' := [(.int ((31 : Int32) * x0 + x1))]) rfl ?_
      refine s_istore 83 C X (l' := #[.val (.int x0), .val (.int x1), .val (.int x2), .val (.int x3), .val (.int x4), .val (.int (0 : Int32)), .val (.int (0 : Int32)), .val (.int x2), .val (.int x3), .val (.ref o1), .val (.ref o3), .val (.int ((31 : Int32) * x0 + x1)), .unset, .unset, .unset]) at_81 rfl ?_
      refine s_aload 85 C X at_83 rfl rfl ?_
      refine s_callV 88 [] [] 0 C X at_85 (List.mem_of_getElem? (i := 13) rfl) (List.mem_of_getElem? (i := 14) rfl) (notFace_of_selects (args := #[]) (mvT C.2.1 (C.w (List.mem_of_getElem? (i := 16) rfl)))) (List.mem_of_getElem? (i := 16) rfl) (List.mem_of_getElem? (i := 15) rfl) (List.mem_of_getElem? (i := 2) rfl) (List.mem_of_getElem? (i := 17) rfl) E_o3 (rm_hash l Z a0 hw o3 x2 x3 _ n0 X.sz F_o3_first F_o3_last) (lenOf pd___I rfl) rfl rfl rfl (fun T v h5 X q => ?_)
      obtain ⟨rfl, hE⟩ := q
      rw [hE] at X
      refine Run.cast (st' := [(.int ((31 : Int32) * x2 + x3))]) rfl ?_
      refine s_istore 90 C X (l' := #[.val (.int x0), .val (.int x1), .val (.int x2), .val (.int x3), .val (.int x4), .val (.int (0 : Int32)), .val (.int (0 : Int32)), .val (.int x2), .val (.int x3), .val (.ref o1), .val (.ref o3), .val (.int ((31 : Int32) * x0 + x1)), .val (.int ((31 : Int32) * x2 + x3)), .unset, .unset]) at_88 rfl ?_
      refine s_iload 92 C X at_90 rfl ?_
      refine s_aload 94 C X at_92 rfl rfl ?_
      refine s_callV 97 [] [(.int ((31 : Int32) * x0 + x1))] 1 C X at_94 (List.mem_of_getElem? (i := 13) rfl) (List.mem_of_getElem? (i := 14) rfl) (notFace_of_selects (args := #[]) (mvT C.2.1 (C.w (List.mem_of_getElem? (i := 16) rfl)))) (List.mem_of_getElem? (i := 16) rfl) (List.mem_of_getElem? (i := 15) rfl) (List.mem_of_getElem? (i := 2) rfl) (List.mem_of_getElem? (i := 17) rfl) E_o1 (rm_hash l Z a0 hw o1 x0 x1 _ n0 X.sz F_o1_first F_o1_last) (lenOf pd___I rfl) rfl rfl rfl (fun T v h6 X q => ?_)
      obtain ⟨rfl, hE⟩ := q
      rw [hE] at X
      refine Run.cast (st' := [(.int ((31 : Int32) * x0 + x1)), (.int ((31 : Int32) * x0 + x1))]) rfl ?_
      refine s_icmp_ne 104 100 C X at_97 (fun c => absurd rfl c) (fun _ => ?_)
      refine s_iconst 101 C X at_100 kc_iconst_1 ?_
      refine s_goto 105 C X at_101 ?_
      refine s_istore 107 C X (l' := #[.val (.int x0), .val (.int x1), .val (.int x2), .val (.int x3), .val (.int x4), .val (.int (0 : Int32)), .val (.int (0 : Int32)), .val (.int x2), .val (.int x3), .val (.ref o1), .val (.ref o3), .val (.int ((31 : Int32) * x0 + x1)), .val (.int ((31 : Int32) * x2 + x3)), .val (.int (1 : Int32)), .unset]) at_105 rfl ?_
      refine s_aload 109 C X at_107 rfl rfl ?_
      refine s_aload 111 C X at_109 rfl rfl ?_
      refine s_callV 114 [(.ref o3)] [] 0 C X at_111 (List.mem_of_getElem? (i := 18) rfl) (List.mem_of_getElem? (i := 19) rfl) (notFace_of_selects (args := #[]) (mvT C.2.1 (C.w (List.mem_of_getElem? (i := 21) rfl)))) (List.mem_of_getElem? (i := 21) rfl) (List.mem_of_getElem? (i := 20) rfl) (List.mem_of_getElem? (i := 2) rfl) (List.mem_of_getElem? (i := 22) rfl) E_o1 (rm_eq l Z a0 hw o1 o3 x0 x1 x2 x3 _ n0 X.sz F_o1_first F_o1_last F_o3_first F_o3_last E_o3) (lenOf pd__Ljava_lang_Object__Z rfl) rfl rfl rfl (fun T v h7 X q => ?_)
      obtain ⟨⟨rfl, b111⟩ | ⟨rfl, b111⟩, hE⟩ := q
      · rw [hE] at X
        refine Run.cast (st' := [(.int (1 : Int32))]) rfl ?_
        refine s_if_eq 124 117 C X at_114 (fun c => absurd c (by decide)) (fun _ => ?_)
        refine s_iload 119 C X at_117 rfl ?_
        refine s_iload 121 C X at_119 rfl ?_
        refine s_icmp_ne 128 124 C X at_121 (fun c => absurd (congr (congrArg (fun u w : Int32 => 31 * u + w) (Int32.toInt_inj.mp b111.1)) (Int32.toInt_inj.mp b111.2)) c) (fun c121 => ?_)
        have t_c121 : (((31 : Int32) * x0 + x1)).toInt = (((31 : Int32) * x2 + x3)).toInt := congrArg Int32.toInt c121
        refine s_iconst 125 C X at_124 kc_iconst_1 ?_
        refine s_goto 129 C X at_125 ?_
        refine s_istore 131 C X (l' := #[.val (.int x0), .val (.int x1), .val (.int x2), .val (.int x3), .val (.int x4), .val (.int (0 : Int32)), .val (.int (0 : Int32)), .val (.int x2), .val (.int x3), .val (.ref o1), .val (.ref o3), .val (.int ((31 : Int32) * x0 + x1)), .val (.int ((31 : Int32) * x2 + x3)), .val (.int (1 : Int32)), .val (.int (1 : Int32))]) at_129 rfl ?_
        refine s_iload 133 C X at_131 rfl ?_
        refine s_if_eq 145 136 C X at_133 (fun c => absurd c (by decide)) (fun _ => ?_)
        refine s_iload 138 C X at_136 rfl ?_
        refine s_if_eq 145 141 C X at_138 (fun c => absurd c (by decide)) (fun _ => ?_)
        refine s_iconst 142 C X at_141 kc_iconst_1 ?_
        refine s_goto 146 C X at_142 ?_
        refine s_nreturn C X at_146 rfl (by simp) rfl ?_
        rfl
      · rw [hE] at X
        refine Run.cast (st' := [(.int (0 : Int32))]) rfl ?_
        refine s_if_eq 124 117 C X at_114 (fun _ => ?_) (fun c => absurd (by decide : (0 : Int32) = (0 : Int32)) c)
        refine s_iconst 125 C X at_124 kc_iconst_1 ?_
        refine s_goto 129 C X at_125 ?_
        refine s_istore 131 C X (l' := #[.val (.int x0), .val (.int x1), .val (.int x2), .val (.int x3), .val (.int x4), .val (.int (0 : Int32)), .val (.int (0 : Int32)), .val (.int x2), .val (.int x3), .val (.ref o1), .val (.ref o3), .val (.int ((31 : Int32) * x0 + x1)), .val (.int ((31 : Int32) * x2 + x3)), .val (.int (1 : Int32)), .val (.int (1 : Int32))]) at_129 rfl ?_
        refine s_iload 133 C X at_131 rfl ?_
        refine s_if_eq 145 136 C X at_133 (fun c => absurd c (by decide)) (fun _ => ?_)
        refine s_iload 138 C X at_136 rfl ?_
        refine s_if_eq 145 141 C X at_138 (fun c => absurd c (by decide)) (fun _ => ?_)
        refine s_iconst 142 C X at_141 kc_iconst_1 ?_
        refine s_goto 146 C X at_142 ?_
        refine s_nreturn C X at_146 rfl (by simp) rfl ?_
        rfl
    have t_c18 : ¬ (((x4 &&& (2 : Int32))).toInt = (0 : Int)) := fun q => c18 (Int32.toInt_inj.mp q)
    refine s_iconst 22 C X at_21 kc_iconst_1 ?_
    refine s_goto 26 C X at_22 ?_
    refine s_istore 28 C X (l' := #[.val (.int x0), .val (.int x1), .val (.int x2), .val (.int x3), .val (.int x4), .val (.int (0 : Int32)), .val (.int (1 : Int32)), .unset, .unset, .unset, .unset, .unset, .unset, .unset, .unset]) at_26 rfl ?_
    refine s_iload 30 C X at_28 rfl ?_
    refine s_if_eq 37 33 C X at_30 (fun _ => ?_) (fun c => absurd (by decide : (0 : Int32) = (0 : Int32)) c)
    refine s_iloadN 38 C X at_37 rfl ?_
    refine s_istore 40 C X (l' := #[.val (.int x0), .val (.int x1), .val (.int x2), .val (.int x3), .val (.int x4), .val (.int (0 : Int32)), .val (.int (1 : Int32)), .val (.int x2), .unset, .unset, .unset, .unset, .unset, .unset, .unset]) at_38 rfl ?_
    refine s_iload 42 C X at_40 rfl ?_
    refine s_if_eq 49 45 C X at_42 (fun c => absurd c (by decide)) (fun _ => ?_)
    refine s_iloadN 46 C X at_45 rfl ?_
    refine s_goto 50 C X at_46 ?_
    refine s_istore 52 C X (l' := #[.val (.int x0), .val (.int x1), .val (.int x2), .val (.int x3), .val (.int x4), .val (.int (0 : Int32)), .val (.int (1 : Int32)), .val (.int x2), .val (.int x1), .unset, .unset, .unset, .unset, .unset, .unset]) at_50 rfl ?_
    refine s_new 55 C X at_52 (List.mem_of_getElem? (i := 0) rfl) (List.mem_of_getElem? (i := 1) rfl) (List.mem_of_getElem? (i := 2) rfl) (fun T _ o9 hb_o9 X E E_o9 D g_o9 => ?_)
    have F_o9_first : Fld Z _ o9 "com/example/libring/libring/slots/SlotRange" "first" "I" (.int (0 : Int32)) := D (Or.inr (hw _ (List.mem_of_getElem? (i := 10) rfl))) (ty := .int) (by decide)
    have F_o9_last : Fld Z _ o9 "com/example/libring/libring/slots/SlotRange" "last" "I" (.int (0 : Int32)) := D (Or.inr (hw _ (List.mem_of_getElem? (i := 12) rfl))) (ty := .int) (by decide)
    refine s_dup 56 C X at_55 rfl ?_
    refine s_iloadN 57 C X at_56 rfl ?_
    refine s_iloadN 58 C X at_57 rfl ?_
    refine s_callC 61 [(.int x0), (.int x1)] [(.ref o9)] 1 C X at_58 rfl (List.mem_of_getElem? (i := 3) rfl) (List.mem_of_getElem? (i := 4) rfl) (List.mem_of_getElem? (i := 2) rfl) (List.mem_of_getElem? (i := 5) rfl) (rm_init l Z a0 hw o9 x0 x1 _ n0 X.sz F_o9_first F_o9_last E_o9 g_o9) (lenOf pd__II_V rfl) rfl rfl rfl (fun T v h9 X q => ?_)
    obtain ⟨rfl, Kc, _, F_o9_first, F_o9_last⟩ := q
    have E_o9 := E_o9.keep Kc
    refine Run.cast (st' := [(.ref o9)]) rfl ?_
    refine s_astore 63 C X (l' := #[.val (.int x0), .val (.int x1), .val (.int x2), .val (.int x3), .val (.int x4), .val (.int (0 : Int32)), .val (.int (1 : Int32)), .val (.int x2), .val (.int x1), .val (.ref o9), .unset, .unset, .unset, .unset, .unset]) at_61 rfl rfl ?_
    refine s_new 66 C X at_63 (List.mem_of_getElem? (i := 0) rfl) (List.mem_of_getElem? (i := 1) rfl) (List.mem_of_getElem? (i := 2) rfl) (fun T _ o11 hb_o11 X E E_o11 D g_o11 => ?_)
    have ne_o9_o11 : o9 ≠ o11 := Nat.ne_of_lt (Nat.lt_of_lt_of_le E_o9.lt (Nat.le_of_eq hb_o11))
    have E_o9 := E_o9.ext E
    have F_o9_first := F_o9_first.ext E
    have F_o9_last := F_o9_last.ext E
    have F_o11_first : Fld Z _ o11 "com/example/libring/libring/slots/SlotRange" "first" "I" (.int (0 : Int32)) := D (Or.inr (hw _ (List.mem_of_getElem? (i := 10) rfl))) (ty := .int) (by decide)
    have F_o11_last : Fld Z _ o11 "com/example/libring/libring/slots/SlotRange" "last" "I" (.int (0 : Int32)) := D (Or.inr (hw _ (List.mem_of_getElem? (i := 12) rfl))) (ty := .int) (by decide)
    refine s_dup 67 C X at_66 rfl ?_
    refine s_iload 69 C X at_67 rfl ?_
    refine s_iload 71 C X at_69 rfl ?_
    refine s_callC 74 [(.int x2), (.int x1)] [(.ref o11)] 1 C X at_71 rfl (List.mem_of_getElem? (i := 3) rfl) (List.mem_of_getElem? (i := 4) rfl) (List.mem_of_getElem? (i := 2) rfl) (List.mem_of_getElem? (i := 5) rfl) (rm_init l Z a0 hw o11 x2 x1 _ n0 X.sz F_o11_first F_o11_last E_o11 g_o11) (lenOf pd__II_V rfl) rfl rfl rfl (fun T v h11 X q => ?_)
    obtain ⟨rfl, Kc, _, F_o11_first, F_o11_last⟩ := q
    have E_o9 := E_o9.keep Kc
    have F_o9_first := F_o9_first.keep Kc (ninS ne_o9_o11 nin0)
    have F_o9_last := F_o9_last.keep Kc (ninS ne_o9_o11 nin0)
    have E_o11 := E_o11.keep Kc
    refine Run.cast (st' := [(.ref o11)]) rfl ?_
    refine s_astore 76 C X (l' := #[.val (.int x0), .val (.int x1), .val (.int x2), .val (.int x3), .val (.int x4), .val (.int (0 : Int32)), .val (.int (1 : Int32)), .val (.int x2), .val (.int x1), .val (.ref o9), .val (.ref o11), .unset, .unset, .unset, .unset]) at_74 rfl rfl ?_
    refine s_aload 78 C X at_76 rfl rfl ?_
    refine s_callV 81 [] [] 0 C X at_78 (List.mem_of_getElem? (i := 13) rfl) (List.mem_of_getElem? (i := 14) rfl) (notFace_of_selects (args := #[]) (mvT C.2.1 (C.w (List.mem_of_getElem? (i := 16) rfl)))) (List.mem_of_getElem? (i := 16) rfl) (List.mem_of_getElem? (i := 15) rfl) (List.mem_of_getElem? (i := 2) rfl) (List.mem_of_getElem? (i := 17) rfl) E_o9 (rm_hash l Z a0 hw o9 x0 x1 _ n0 X.sz F_o9_first F_o9_last) (lenOf pd___I rfl) rfl rfl rfl (fun T v h12 X q => ?_)
    obtain ⟨rfl, hE⟩ := q
    rw [hE] at X
    refine Run.cast (st' := [(.int ((31 : Int32) * x0 + x1))]) rfl ?_
    refine s_istore 83 C X (l' := #[.val (.int x0), .val (.int x1), .val (.int x2), .val (.int x3), .val (.int x4), .val (.int (0 : Int32)), .val (.int (1 : Int32)), .val (.int x2), .val (.int x1), .val (.ref o9), .val (.ref o11), .val (.int ((31 : Int32) * x0 + x1)), .unset, .unset, .unset]) at_81 rfl ?_
    refine s_aload 85 C X at_83 rfl rfl ?_
    refine s_callV 88 [] [] 0 C X at_85 (List.mem_of_getElem? (i := 13) rfl) (List.mem_of_getElem? (i := 14) rfl) (notFace_of_selects (args := #[]) (mvT C.2.1 (C.w (List.mem_of_getElem? (i := 16) rfl)))) (List.mem_of_getElem? (i := 16) rfl) (List.mem_of_getElem? (i := 15) rfl) (List.mem_of_getElem? (i := 2) rfl) (List.mem_of_getElem? (i := 17) rfl) E_o11 (rm_hash l Z a0 hw o11 x2 x1 _ n0 X.sz F_o11_first F_o11_last) (lenOf pd___I rfl) rfl rfl rfl (fun T v h13 X q => ?_)
    obtain ⟨rfl, hE⟩ := q
    rw [hE] at X
    refine Run.cast (st' := [(.int ((31 : Int32) * x2 + x1))]) rfl ?_
    refine s_istore 90 C X (l' := #[.val (.int x0), .val (.int x1), .val (.int x2), .val (.int x3), .val (.int x4), .val (.int (0 : Int32)), .val (.int (1 : Int32)), .val (.int x2), .val (.int x1), .val (.ref o9), .val (.ref o11), .val (.int ((31 : Int32) * x0 + x1)), .val (.int ((31 : Int32) * x2 + x1)), .unset, .unset]) at_88 rfl ?_
    refine s_iload 92 C X at_90 rfl ?_
    refine s_aload 94 C X at_92 rfl rfl ?_
    refine s_callV 97 [] [(.int ((31 : Int32) * x0 + x1))] 1 C X at_94 (List.mem_of_getElem? (i := 13) rfl) (List.mem_of_getElem? (i := 14) rfl) (notFace_of_selects (args := #[]) (mvT C.2.1 (C.w (List.mem_of_getElem? (i := 16) rfl)))) (List.mem_of_getElem? (i := 16) rfl) (List.mem_of_getElem? (i := 15) rfl) (List.mem_of_getElem? (i := 2) rfl) (List.mem_of_getElem? (i := 17) rfl) E_o9 (rm_hash l Z a0 hw o9 x0 x1 _ n0 X.sz F_o9_first F_o9_last) (lenOf pd___I rfl) rfl rfl rfl (fun T v h14 X q => ?_)
    obtain ⟨rfl, hE⟩ := q
    rw [hE] at X
    refine Run.cast (st' := [(.int ((31 : Int32) * x0 + x1)), (.int ((31 : Int32) * x0 + x1))]) rfl ?_
    refine s_icmp_ne 104 100 C X at_97 (fun c => absurd rfl c) (fun _ => ?_)
    refine s_iconst 101 C X at_100 kc_iconst_1 ?_
    refine s_goto 105 C X at_101 ?_
    refine s_istore 107 C X (l' := #[.val (.int x0), .val (.int x1), .val (.int x2), .val (.int x3), .val (.int x4), .val (.int (0 : Int32)), .val (.int (1 : Int32)), .val (.int x2), .val (.int x1), .val (.ref o9), .val (.ref o11), .val (.int ((31 : Int32) * x0 + x1)), .val (.int ((31 : Int32) * x2 + x1)), .val (.int (1 : Int32)), .unset]) at_105 rfl ?_
    refine s_aload 109 C X at_107 rfl rfl ?_
    refine s_aload 111 C X at_109 rfl rfl ?_
    refine s_callV 114 [(.ref o11)] [] 0 C X at_111 (List.mem_of_getElem? (i := 18) rfl) (List.mem_of_getElem? (i := 19) rfl) (notFace_of_selects (args := #[]) (mvT C.2.1 (C.w (List.mem_of_getElem? (i := 21) rfl)))) (List.mem_of_getElem? (i := 21) rfl) (List.mem_of_getElem? (i := 20) rfl) (List.mem_of_getElem? (i := 2) rfl) (List.mem_of_getElem? (i := 22) rfl) E_o9 (rm_eq l Z a0 hw o9 o11 x0 x1 x2 x1 _ n0 X.sz F_o9_first F_o9_last F_o11_first F_o11_last E_o11) (lenOf pd__Ljava_lang_Object__Z rfl) rfl rfl rfl (fun T v h15 X q => ?_)
    obtain ⟨⟨rfl, b111⟩ | ⟨rfl, b111⟩, hE⟩ := q
    · rw [hE] at X
      refine Run.cast (st' := [(.int (1 : Int32))]) rfl ?_
      refine s_if_eq 124 117 C X at_114 (fun c => absurd c (by decide)) (fun _ => ?_)
      refine s_iload 119 C X at_117 rfl ?_
      refine s_iload 121 C X at_119 rfl ?_
      refine s_icmp_ne 128 124 C X at_121 (fun c => absurd (congr (congrArg (fun u w : Int32 => 31 * u + w) (Int32.toInt_inj.mp b111.1)) (Int32.toInt_inj.mp b111.2)) c) (fun c121 => ?_)
      have t_c121 : (((31 : Int32) * x0 + x1)).toInt = (((31 : Int32) * x2 + x1)).toInt := congrArg Int32.toInt c121
      refine s_iconst 125 C X at_124 kc_iconst_1 ?_
      refine s_goto 129 C X at_125 ?_
      refine s_istore 131 C X (l' := #[.val (.int x0), .val (.int x1), .val (.int x2), .val (.int x3), .val (.int x4), .val (.int (0 : Int32)), .val (.int (1 : Int32)), .val (.int x2), .val (.int x1), .val (.ref o9), .val (.ref o11), .val (.int ((31 : Int32) * x0 + x1)), .val (.int ((31 : Int32) * x2 + x1)), .val (.int (1 : Int32)), .val (.int (1 : Int32))]) at_129 rfl ?_
      refine s_iload 133 C X at_131 rfl ?_
      refine s_if_eq 145 136 C X at_133 (fun c => absurd c (by decide)) (fun _ => ?_)
      refine s_iload 138 C X at_136 rfl ?_
      refine s_if_eq 145 141 C X at_138 (fun c => absurd c (by decide)) (fun _ => ?_)
      refine s_iconst 142 C X at_141 kc_iconst_1 ?_
      refine s_goto 146 C X at_142 ?_
      refine s_nreturn C X at_146 rfl (by simp) rfl ?_
      rfl
    · rw [hE] at X
      refine Run.cast (st' := [(.int (0 : Int32))]) rfl ?_
      refine s_if_eq 124 117 C X at_114 (fun _ => ?_) (fun c => absurd (by decide : (0 : Int32) = (0 : Int32)) c)
      refine s_iconst 125 C X at_124 kc_iconst_1 ?_
      refine s_goto 129 C X at_125 ?_
      refine s_istore 131 C X (l' := #[.val (.int x0), .val (.int x1), .val (.int x2), .val (.int x3), .val (.int x4), .val (.int (0 : Int32)), .val (.int (1 : Int32)), .val (.int x2), .val (.int x1), .val (.ref o9), .val (.ref o11), .val (.int ((31 : Int32) * x0 + x1)), .val (.int ((31 : Int32) * x2 + x1)), .val (.int (1 : Int32)), .val (.int (1 : Int32))]) at_129 rfl ?_
      refine s_iload 133 C X at_131 rfl ?_
      refine s_if_eq 145 136 C X at_133 (fun c => absurd c (by decide)) (fun _ => ?_)
      refine s_iload 138 C X at_136 rfl ?_
      refine s_if_eq 145 141 C X at_138 (fun c => absurd c (by decide)) (fun _ => ?_)
      refine s_iconst 142 C X at_141 kc_iconst_1 ?_
      refine s_goto 146 C X at_142 ?_
      refine s_nreturn C X at_146 rfl (by simp) rfl ?_
      rfl
  have t_c4 : ¬ (((x4 &&& (1 : Int32))).toInt = (0 : Int)) := fun q => c4 (Int32.toInt_inj.mp q)
  refine s_iconst 8 C X at_7 kc_iconst_1 ?_
  refine s_goto 12 C X at_8 ?_
  refine s_istore 14 C X (l' := #[.val (.int x0), .val (.int x1), .val (.int x2), .val (.int x3), .val (.int x4), .val (.int (1 : Int32)), .unset, .unset, .unset, .unset, .unset, .unset, .unset, .unset, .unset]) at_12 rfl ?_
  refine s_iload 16 C X at_14 rfl ?_
  refine s_iconst 17 C X at_16 kc_iconst_2 ?_
  refine s_iand 18 C X at_17 ?_
  refine s_if_eq 25 21 C X at_18 (fun c18 => ?_) (fun c18 => ?_)
  · have t_c18 : ((x4 &&& (2 : Int32))).toInt = (0 : Int) := congrArg Int32.toInt c18
    refine s_iconst 26 C X at_25 kc_iconst_0 ?_
    refine s_istore 28 C X (l' := #[.val (.int x0), .val (.int x1), .val (.int x2), .val (.int x3), .val (.int x4), .val (.int (1 : Int32)), .val (.int (0 : Int32)), .unset, .unset, .unset, .unset, .unset, .unset, .unset, .unset]) at_26 rfl ?_
    refine s_iload 30 C X at_28 rfl ?_
    refine s_if_eq 37 33 C X at_30 (fun c => absurd c (by decide)) (fun _ => ?_)
    refine s_iloadN 34 C X at_33 rfl ?_
    refine s_goto 38 C X at_34 ?_
    refine s_istore 40 C X (l' := #[.val (.int x0), .val (.int x1), .val (.int x2), .val (.int x3), .val (.int x4), .val (.int (1 : Int32)), .val (.int (0 : Int32)), .val (.int x0), .unset, .unset, .unset, .unset, .unset, .unset, .unset]) at_38 rfl ?_
    refine s_iload 42 C X at_40 rfl ?_
    refine s_if_eq 49 45 C X at_42 (fun _ => ?_) (fun c => absurd (by decide : (0 : Int32) = (0 : Int32)) c)
    refine s_iloadN 50 C X at_49 rfl ?_
    refine s_istore 52 C X (l' := #[.val (.int x0), .val (.int x1), .val (.int x2), .val (.int x3), .val (.int x4), .val (.int (1 : Int32)), .val (.int (0 : Int32)), .val (.int x0), .val (.int x3), .unset, .unset, .unset, .unset, .unset, .unset]) at_50 rfl ?_
    refine s_new 55 C X at_52 (List.mem_of_getElem? (i := 0) rfl) (List.mem_of_getElem? (i := 1) rfl) (List.mem_of_getElem? (i := 2) rfl) (fun T _ o17 hb_o17 X E E_o17 D g_o17 => ?_)
    have F_o17_first : Fld Z _ o17 "com/example/libring/libring/slots/SlotRange" "first" "I" (.int (0 : Int32)) := D (Or.inr (hw _ (List.mem_of_getElem? (i := 10) rfl))) (ty := .int) (by decide)
    have F_o17_last : Fld Z _ o17 "com/example/libring/libring/slots/SlotRange" "last" "I" (.int (0 : Int32)) := D (Or.inr (hw _ (List.mem_of_getElem? (i := 12) rfl))) (ty := .int) (by decide)
    refine s_dup 56 C X at_55 rfl ?_
    refine s_iloadN 57 C X at_56 rfl ?_
    refine s_iloadN 58 C X at_57 rfl ?_
    refine s_callC 61 [(.int x0), (.int x1)] [(.ref o17)] 1 C X at_58 rfl (List.mem_of_getElem? (i := 3) rfl) (List.mem_of_getElem? (i := 4) rfl) (List.mem_of_getElem? (i := 2) rfl) (List.mem_of_getElem? (i := 5) rfl) (rm_init l Z a0 hw o17 x0 x1 _ n0 X.sz F_o17_first F_o17_last E_o17 g_o17) (lenOf pd__II_V rfl) rfl rfl rfl (fun T v h17 X q => ?_)
    obtain ⟨rfl, Kc, _, F_o17_first, F_o17_last⟩ := q
    have E_o17 := E_o17.keep Kc
    refine Run.cast (st' := [(.ref o17)]) rfl ?_
    refine s_astore 63 C X (l' := #[.val (.int x0), .val (.int x1), .val (.int x2), .val (.int x3), .val (.int x4), .val (.int (1 : Int32)), .val (.int (0 : Int32)), .val (.int x0), .val (.int x3), .val (.ref o17), .unset, .unset, .unset, .unset, .unset]) at_61 rfl rfl ?_
    refine s_new 66 C X at_63 (List.mem_of_getElem? (i := 0) rfl) (List.mem_of_getElem? (i := 1) rfl) (List.mem_of_getElem? (i := 2) rfl) (fun T _ o19 hb_o19 X E E_o19 D g_o19 => ?_)
    have ne_o17_o19 : o17 ≠ o19 := Nat.ne_of_lt (Nat.lt_of_lt_of_le E_o17.lt (Nat.le_of_eq hb_o19))
    have E_o17 := E_o17.ext E
    have F_o17_first := F_o17_first.ext E
    have F_o17_last := F_o17_last.ext E
    have F_o19_first : Fld Z _ o19 "com/example/libring/libring/slots/SlotRange" "first" "I" (.int (0 : Int32)) := D (Or.inr (hw _ (List.mem_of_getElem? (i := 10) rfl))) (ty := .int) (by decide)
    have F_o19_last : Fld Z _ o19 "com/example/libring/libring/slots/SlotRange" "last" "I" (.int (0 : Int32)) := D (Or.inr (hw _ (List.mem_of_getElem? (i := 12) rfl))) (ty := .int) (by decide)
    refine s_dup 67 C X at_66 rfl ?_
    refine s_iload 69 C X at_67 rfl ?_
    refine s_iload 71 C X at_69 rfl ?_
    refine s_callC 74 [(.int x0), (.int x3)] [(.ref o19)] 1 C X at_71 rfl (List.mem_of_getElem? (i := 3) rfl) (List.mem_of_getElem? (i := 4) rfl) (List.mem_of_getElem? (i := 2) rfl) (List.mem_of_getElem? (i := 5) rfl) (rm_init l Z a0 hw o19 x0 x3 _ n0 X.sz F_o19_first F_o19_last E_o19 g_o19) (lenOf pd__II_V rfl) rfl rfl rfl (fun T v h19 X q => ?_)
    obtain ⟨rfl, Kc, _, F_o19_first, F_o19_last⟩ := q
    have E_o17 := E_o17.keep Kc
    have F_o17_first := F_o17_first.keep Kc (ninS ne_o17_o19 nin0)
    have F_o17_last := F_o17_last.keep Kc (ninS ne_o17_o19 nin0)
    have E_o19 := E_o19.keep Kc
    refine Run.cast (st' := [(.ref o19)]) rfl ?_
    refine s_astore 76 C X (l' := #[.val (.int x0), .val (.int x1), .val (.int x2), .val (.int x3), .val (.int x4), .val (.int (1 : Int32)), .val (.int (0 : Int32)), .val (.int x0), .val (.int x3), .val (.ref o17), .val (.ref o19), .unset, .unset, .unset, .unset]) at_74 rfl rfl ?_
    refine s_aload 78 C X at_76 rfl rfl ?_
    refine s_callV 81 [] [] 0 C X at_78 (List.mem_of_getElem? (i := 13) rfl) (List.mem_of_getElem? (i := 14) rfl) (notFace_of_selects (args := #[]) (mvT C.2.1 (C.w (List.mem_of_getElem? (i := 16) rfl)))) (List.mem_of_getElem? (i := 16) rfl) (List.mem_of_getElem? (i := 15) rfl) (List.mem_of_getElem? (i := 2) rfl) (List.mem_of_getElem? (i := 17) rfl) E_o17 (rm_hash l Z a0 hw o17 x0 x1 _ n0 X.sz F_o17_first F_o17_last) (lenOf pd___I rfl) rfl rfl rfl (fun T v h20 X q => ?_)
    obtain ⟨rfl, hE⟩ := q
    rw [hE] at X
    refine Run.cast (st' := [(.int ((31 : Int32) * x0 + x1))]) rfl ?_
    refine s_istore 83 C X (l' := #[.val (.int x0), .val (.int x1), .val (.int x2), .val (.int x3), .val (.int x4), .val (.int (1 : Int32)), .val (.int (0 : Int32)), .val (.int x0), .val (.int x3), .val (.ref o17), .val (.ref o19), .val (.int ((31 : Int32) * x0 + x1)), .unset, .unset, .unset]) at_81 rfl ?_
    refine s_aload 85 C X at_83 rfl rfl ?_
    refine s_callV 88 [] [] 0 C X at_85 (List.mem_of_getElem? (i := 13) rfl) (List.mem_of_getElem? (i := 14) rfl) (notFace_of_selects (args := #[]) (mvT C.2.1 (C.w (List.mem_of_getElem? (i := 16) rfl)))) (List.mem_of_getElem? (i := 16) rfl) (List.mem_of_getElem? (i := 15) rfl) (List.mem_of_getElem? (i := 2) rfl) (List.mem_of_getElem? (i := 17) rfl) E_o19 (rm_hash l Z a0 hw o19 x0 x3 _ n0 X.sz F_o19_first F_o19_last) (lenOf pd___I rfl) rfl rfl rfl (fun T v h21 X q => ?_)
    obtain ⟨rfl, hE⟩ := q
    rw [hE] at X
    refine Run.cast (st' := [(.int ((31 : Int32) * x0 + x3))]) rfl ?_
    refine s_istore 90 C X (l' := #[.val (.int x0), .val (.int x1), .val (.int x2), .val (.int x3), .val (.int x4), .val (.int (1 : Int32)), .val (.int (0 : Int32)), .val (.int x0), .val (.int x3), .val (.ref o17), .val (.ref o19), .val (.int ((31 : Int32) * x0 + x1)), .val (.int ((31 : Int32) * x0 + x3)), .unset, .unset]) at_88 rfl ?_
    refine s_iload 92 C X at_90 rfl ?_
    refine s_aload 94 C X at_92 rfl rfl ?_
    refine s_callV 97 [] [(.int ((31 : Int32) * x0 + x1))] 1 C X at_94 (List.mem_of_getElem? (i := 13) rfl) (List.mem_of_getElem? (i := 14) rfl) (notFace_of_selects (args := #[]) (mvT C.2.1 (C.w (List.mem_of_getElem? (i := 16) rfl)))) (List.mem_of_getElem? (i := 16) rfl) (List.mem_of_getElem? (i := 15) rfl) (List.mem_of_getElem? (i := 2) rfl) (List.mem_of_getElem? (i := 17) rfl) E_o17 (rm_hash l Z a0 hw o17 x0 x1 _ n0 X.sz F_o17_first F_o17_last) (lenOf pd___I rfl) rfl rfl rfl (fun T v h22 X q => ?_)
    obtain ⟨rfl, hE⟩ := q
    rw [hE] at X
    refine Run.cast (st' := [(.int ((31 : Int32) * x0 + x1)), (.int ((31 : Int32) * x0 + x1))]) rfl ?_
    refine s_icmp_ne 104 100 C X at_97 (fun c => absurd rfl c) (fun _ => ?_)
    refine s_iconst 101 C X at_100 kc_iconst_1 ?_
    refine s_goto 105 C X at_101 ?_
    refine s_istore 107 C X (l' := #[.val (.int x0), .val (.int x1), .val (.int x2), .val (.int x3), .val (.int x4), .val (.int (1 : Int32)), .val (.int (0 : Int32)), .val (.int x0), .val (.int x3), .val (.ref o17), .val (.ref o19), .val (.int ((31 : Int32) * x0 + x1)), .val (.int ((31 : Int32) * x0 + x3)), .val (.int (1 : Int32)), .unset]) at_105 rfl ?_
    refine s_aload 109 C X at_107 rfl rfl ?_
    refine s_aload 111 C X at_109 rfl rfl ?_
    refine s_callV 114 [(.ref o19)] [] 0 C X at_111 (List.mem_of_getElem? (i := 18) rfl) (List.mem_of_getElem? (i := 19) rfl) (notFace_of_selects (args := #[]) (mvT C.2.1 (C.w (List.mem_of_getElem? (i := 21) rfl)))) (List.mem_of_getElem? (i := 21) rfl) (List.mem_of_getElem? (i := 20) rfl) (List.mem_of_getElem? (i := 2) rfl) (List.mem_of_getElem? (i := 22) rfl) E_o17 (rm_eq l Z a0 hw o17 o19 x0 x1 x0 x3 _ n0 X.sz F_o17_first F_o17_last F_o19_first F_o19_last E_o19) (lenOf pd__Ljava_lang_Object__Z rfl) rfl rfl rfl (fun T v h23 X q => ?_)
    obtain ⟨⟨rfl, b111⟩ | ⟨rfl, b111⟩, hE⟩ := q
    · rw [hE] at X
      refine Run.cast (st' := [(.int (1 : Int32))]) rfl ?_
      refine s_if_eq 124 117 C X at_114 (fun c => absurd c (by decide)) (fun _ => ?_)
      refine s_iload 119 C X at_117 rfl ?_
      refine s_iload 121 C X at_119 rfl ?_
      refine s_icmp_ne 128 124 C X at_121 (fun c => absurd (congr (congrArg (fun u w : Int32 => 31 * u + w) (Int32.toInt_inj.mp b111.1)) (Int32.toInt_inj.mp b111.2)) c) (fun c121 => ?_)
      have t_c121 : (((31 : Int32) * x0 + x1)).toInt = (((31 : Int32) * x0 + x3)).toInt := congrArg Int32.toInt c121
      refine s_iconst 125 C X at_124 kc_iconst_1 ?_
      refine s_goto 129 C X at_125 ?_
      refine s_istore 131 C X (l' := #[.val (.int x0), .val (.int x1), .val (.int x2), .val (.int x3), .val (.int x4), .val (.int (1 : Int32)), .val (.int (0 : Int32)), .val (.int x0), .val (.int x3), .val (.ref o17), .val (.ref o19), .val (.int ((31 : Int32) * x0 + x1)), .val (.int ((31 : Int32) * x0 + x3)), .val (.int (1 : Int32)), .val (.int (1 : Int32))]) at_129 rfl ?_
      refine s_iload 133 C X at_131 rfl ?_
      refine s_if_eq 145 136 C X at_133 (fun c => absurd c (by decide)) (fun _ => ?_)
      refine s_iload 138 C X at_136 rfl ?_
      refine s_if_eq 145 141 C X at_138 (fun c => absurd c (by decide)) (fun _ => ?_)
      refine s_iconst 142 C X at_141 kc_iconst_1 ?_
      refine s_goto 146 C X at_142 ?_
      refine s_nreturn C X at_146 rfl (by simp) rfl ?_
      rfl
    · rw [hE] at X
      refine Run.cast (st' := [(.int (0 : Int32))]) rfl ?_
      refine s_if_eq 124 117 C X at_114 (fun _ => ?_) (fun c => absurd (by decide : (0 : Int32) = (0 : Int32)) c)
      refine s_iconst 125 C X at_124 kc_iconst_1 ?_
      refine s_goto 129 C X at_125 ?_
      refine s_istore 131 C X (l' := #[.val (.int x0), .val (.int x1), .val (.int x2), .val (.int x3), .val (.int x4), .val (.int (1 : Int32)), .val (.int (0 : Int32)), .val (.int x0), .val (.int x3), .val (.ref o17), .val (.ref o19), .val (.int ((31 : Int32) * x0 + x1)), .val (.int ((31 : Int32) * x0 + x3)), .val (.int (1 : Int32)), .val (.int (1 : Int32))]) at_129 rfl ?_
      refine s_iload 133 C X at_131 rfl ?_
      refine s_if_eq 145 136 C X at_133 (fun c => absurd c (by decide)) (fun _ => ?_)
      refine s_iload 138 C X at_136 rfl ?_
      refine s_if_eq 145 141 C X at_138 (fun c => absurd c (by decide)) (fun _ => ?_)
      refine s_iconst 142 C X at_141 kc_iconst_1 ?_
      refine s_goto 146 C X at_142 ?_
      refine s_nreturn C X at_146 rfl (by simp) rfl ?_
      rfl
  have t_c18 : ¬ (((x4 &&& (2 : Int32))).toInt = (0 : Int)) := fun q => c18 (Int32.toInt_inj.mp q)
  refine s_iconst 22 C X at_21 kc_iconst_1 ?_
  refine s_goto 26 C X at_22 ?_
  refine s_istore 28 C X (l' := #[.val (.int x0), .val (.int x1), .val (.int x2), .val (.int x3), .val (.int x4), .val (.int (1 : Int32)), .val (.int (1 : Int32)), .unset, .unset, .unset, .unset, .unset, .unset, .unset, .unset]) at_26 rfl ?_
  refine s_iload 30 C X at_28 rfl ?_
  refine s_if_eq 37 33 C X at_30 (fun c => absurd c (by decide)) (fun _ => ?_)
  refine s_iloadN 34 C X at_33 rfl ?_
  refine s_goto 38 C X at_34 ?_
  refine s_istore 40 C X (l' := #[.val (.int x0), .val (.int x1), .val (.int x2), .val (.int x3), .val (.int x4), .val (.int (1 : Int32)), .val (.int (1 : Int32)), .val (.int x0), .unset, .unset, .unset, .unset, .unset, .unset, .unset]) at_38 rfl ?_
  refine s_iload 42 C X at_40 rfl ?_
  refine s_if_eq 49 45 C X at_42 (fun c => absurd c (by decide)) (fun _ => ?_)
  refine s_iloadN 46 C X at_45 rfl ?_
  refine s_goto 50 C X at_46 ?_
  refine s_istore 52 C X (l' := #[.val (.int x0), .val (.int x1), .val (.int x2), .val (.int x3), .val (.int x4), .val (.int (1 : Int32)), .val (.int (1 : Int32)), .val (.int x0), .val (.int x1), .unset, .unset, .unset, .unset, .unset, .unset]) at_50 rfl ?_
  refine s_new 55 C X at_52 (List.mem_of_getElem? (i := 0) rfl) (List.mem_of_getElem? (i := 1) rfl) (List.mem_of_getElem? (i := 2) rfl) (fun T _ o25 hb_o25 X E E_o25 D g_o25 => ?_)
  have F_o25_first : Fld Z _ o25 "com/example/libring/libring/slots/SlotRange" "first" "I" (.int (0 : Int32)) := D (Or.inr (hw _ (List.mem_of_getElem? (i := 10) rfl))) (ty := .int) (by decide)
  have F_o25_last : Fld Z _ o25 "com/example/libring/libring/slots/SlotRange" "last" "I" (.int (0 : Int32)) := D (Or.inr (hw _ (List.mem_of_getElem? (i := 12) rfl))) (ty := .int) (by decide)
  refine s_dup 56 C X at_55 rfl ?_
  refine s_iloadN 57 C X at_56 rfl ?_
  refine s_iloadN 58 C X at_57 rfl ?_
  refine s_callC 61 [(.int x0), (.int x1)] [(.ref o25)] 1 C X at_58 rfl (List.mem_of_getElem? (i := 3) rfl) (List.mem_of_getElem? (i := 4) rfl) (List.mem_of_getElem? (i := 2) rfl) (List.mem_of_getElem? (i := 5) rfl) (rm_init l Z a0 hw o25 x0 x1 _ n0 X.sz F_o25_first F_o25_last E_o25 g_o25) (lenOf pd__II_V rfl) rfl rfl rfl (fun T v h25 X q => ?_)
  obtain ⟨rfl, Kc, _, F_o25_first, F_o25_last⟩ := q
  have E_o25 := E_o25.keep Kc
  refine Run.cast (st' := [(.ref o25)]) rfl ?_
  refine s_astore 63 C X (l' := #[.val (.int x0), .val (.int x1), .val (.int x2), .val (.int x3), .val (.int x4), .val (.int (1 : Int32)), .val (.int (1 : Int32)), .val (.int x0), .val (.int x1), .val (.ref o25), .unset, .unset, .unset, .unset, .unset]) at_61 rfl rfl ?_
  refine s_new 66 C X at_63 (List.mem_of_getElem? (i := 0) rfl) (List.mem_of_getElem? (i := 1) rfl) (List.mem_of_getElem? (i := 2) rfl) (fun T _ o27 hb_o27 X E E_o27 D g_o27 => ?_)
  have ne_o25_o27 : o25 ≠ o27 := Nat.ne_of_lt (Nat.lt_of_lt_of_le E_o25.lt (Nat.le_of_eq hb_o27))
  have E_o25 := E_o25.ext E
  have F_o25_first := F_o25_first.ext E
  have F_o25_last := F_o25_last.ext E
  have F_o27_first : Fld Z _ o27 "com/example/libring/libring/slots/SlotRange" "first" "I" (.int (0 : Int32)) := D (Or.inr (hw _ (List.mem_of_getElem? (i := 10) rfl))) (ty := .int) (by decide)
  have F_o27_last : Fld Z _ o27 "com/example/libring/libring/slots/SlotRange" "last" "I" (.int (0 : Int32)) := D (Or.inr (hw _ (List.mem_of_getElem? (i := 12) rfl))) (ty := .int) (by decide)
  refine s_dup 67 C X at_66 rfl ?_
  refine s_iload 69 C X at_67 rfl ?_
  refine s_iload 71 C X at_69 rfl ?_
  refine s_callC 74 [(.int x0), (.int x1)] [(.ref o27)] 1 C X at_71 rfl (List.mem_of_getElem? (i := 3) rfl) (List.mem_of_getElem? (i := 4) rfl) (List.mem_of_getElem? (i := 2) rfl) (List.mem_of_getElem? (i := 5) rfl) (rm_init l Z a0 hw o27 x0 x1 _ n0 X.sz F_o27_first F_o27_last E_o27 g_o27) (lenOf pd__II_V rfl) rfl rfl rfl (fun T v h27 X q => ?_)
  obtain ⟨rfl, Kc, _, F_o27_first, F_o27_last⟩ := q
  have E_o25 := E_o25.keep Kc
  have F_o25_first := F_o25_first.keep Kc (ninS ne_o25_o27 nin0)
  have F_o25_last := F_o25_last.keep Kc (ninS ne_o25_o27 nin0)
  have E_o27 := E_o27.keep Kc
  refine Run.cast (st' := [(.ref o27)]) rfl ?_
  refine s_astore 76 C X (l' := #[.val (.int x0), .val (.int x1), .val (.int x2), .val (.int x3), .val (.int x4), .val (.int (1 : Int32)), .val (.int (1 : Int32)), .val (.int x0), .val (.int x1), .val (.ref o25), .val (.ref o27), .unset, .unset, .unset, .unset]) at_74 rfl rfl ?_
  refine s_aload 78 C X at_76 rfl rfl ?_
  refine s_callV 81 [] [] 0 C X at_78 (List.mem_of_getElem? (i := 13) rfl) (List.mem_of_getElem? (i := 14) rfl) (notFace_of_selects (args := #[]) (mvT C.2.1 (C.w (List.mem_of_getElem? (i := 16) rfl)))) (List.mem_of_getElem? (i := 16) rfl) (List.mem_of_getElem? (i := 15) rfl) (List.mem_of_getElem? (i := 2) rfl) (List.mem_of_getElem? (i := 17) rfl) E_o25 (rm_hash l Z a0 hw o25 x0 x1 _ n0 X.sz F_o25_first F_o25_last) (lenOf pd___I rfl) rfl rfl rfl (fun T v h28 X q => ?_)
  obtain ⟨rfl, hE⟩ := q
  rw [hE] at X
  refine Run.cast (st' := [(.int ((31 : Int32) * x0 + x1))]) rfl ?_
  refine s_istore 83 C X (l' := #[.val (.int x0), .val (.int x1), .val (.int x2), .val (.int x3), .val (.int x4), .val (.int (1 : Int32)), .val (.int (1 : Int32)), .val (.int x0), .val (.int x1), .val (.ref o25), .val (.ref o27), .val (.int ((31 : Int32) * x0 + x1)), .unset, .unset, .unset]) at_81 rfl ?_
  refine s_aload 85 C X at_83 rfl rfl ?_
  refine s_callV 88 [] [] 0 C X at_85 (List.mem_of_getElem? (i := 13) rfl) (List.mem_of_getElem? (i := 14) rfl) (notFace_of_selects (args := #[]) (mvT C.2.1 (C.w (List.mem_of_getElem? (i := 16) rfl)))) (List.mem_of_getElem? (i := 16) rfl) (List.mem_of_getElem? (i := 15) rfl) (List.mem_of_getElem? (i := 2) rfl) (List.mem_of_getElem? (i := 17) rfl) E_o27 (rm_hash l Z a0 hw o27 x0 x1 _ n0 X.sz F_o27_first F_o27_last) (lenOf pd___I rfl) rfl rfl rfl (fun T v h29 X q => ?_)
  obtain ⟨rfl, hE⟩ := q
  rw [hE] at X
  refine Run.cast (st' := [(.int ((31 : Int32) * x0 + x1))]) rfl ?_
  refine s_istore 90 C X (l' := #[.val (.int x0), .val (.int x1), .val (.int x2), .val (.int x3), .val (.int x4), .val (.int (1 : Int32)), .val (.int (1 : Int32)), .val (.int x0), .val (.int x1), .val (.ref o25), .val (.ref o27), .val (.int ((31 : Int32) * x0 + x1)), .val (.int ((31 : Int32) * x0 + x1)), .unset, .unset]) at_88 rfl ?_
  refine s_iload 92 C X at_90 rfl ?_
  refine s_aload 94 C X at_92 rfl rfl ?_
  refine s_callV 97 [] [(.int ((31 : Int32) * x0 + x1))] 1 C X at_94 (List.mem_of_getElem? (i := 13) rfl) (List.mem_of_getElem? (i := 14) rfl) (notFace_of_selects (args := #[]) (mvT C.2.1 (C.w (List.mem_of_getElem? (i := 16) rfl)))) (List.mem_of_getElem? (i := 16) rfl) (List.mem_of_getElem? (i := 15) rfl) (List.mem_of_getElem? (i := 2) rfl) (List.mem_of_getElem? (i := 17) rfl) E_o25 (rm_hash l Z a0 hw o25 x0 x1 _ n0 X.sz F_o25_first F_o25_last) (lenOf pd___I rfl) rfl rfl rfl (fun T v h30 X q => ?_)
  obtain ⟨rfl, hE⟩ := q
  rw [hE] at X
  refine Run.cast (st' := [(.int ((31 : Int32) * x0 + x1)), (.int ((31 : Int32) * x0 + x1))]) rfl ?_
  refine s_icmp_ne 104 100 C X at_97 (fun c => absurd rfl c) (fun _ => ?_)
  refine s_iconst 101 C X at_100 kc_iconst_1 ?_
  refine s_goto 105 C X at_101 ?_
  refine s_istore 107 C X (l' := #[.val (.int x0), .val (.int x1), .val (.int x2), .val (.int x3), .val (.int x4), .val (.int (1 : Int32)), .val (.int (1 : Int32)), .val (.int x0), .val (.int x1), .val (.ref o25), .val (.ref o27), .val (.int ((31 : Int32) * x0 + x1)), .val (.int ((31 : Int32) * x0 + x1)), .val (.int (1 : Int32)), .unset]) at_105 rfl ?_
  refine s_aload 109 C X at_107 rfl rfl ?_
  refine s_aload 111 C X at_109 rfl rfl ?_
  refine s_callV 114 [(.ref o27)] [] 0 C X at_111 (List.mem_of_getElem? (i := 18) rfl) (List.mem_of_getElem? (i := 19) rfl) (notFace_of_selects (args := #[]) (mvT C.2.1 (C.w (List.mem_of_getElem? (i := 21) rfl)))) (List.mem_of_getElem? (i := 21) rfl) (List.mem_of_getElem? (i := 20) rfl) (List.mem_of_getElem? (i := 2) rfl) (List.mem_of_getElem? (i := 22) rfl) E_o25 (rm_eq l Z a0 hw o25 o27 x0 x1 x0 x1 _ n0 X.sz F_o25_first F_o25_last F_o27_first F_o27_last E_o27) (lenOf pd__Ljava_lang_Object__Z rfl) rfl rfl rfl (fun T v h31 X q => ?_)
  obtain ⟨⟨rfl, b111⟩ | ⟨rfl, b111⟩, hE⟩ := q
  · rw [hE] at X
    refine Run.cast (st' := [(.int (1 : Int32))]) rfl ?_
    refine s_if_eq 124 117 C X at_114 (fun c => absurd c (by decide)) (fun _ => ?_)
    refine s_iload 119 C X at_117 rfl ?_
    refine s_iload 121 C X at_119 rfl ?_
    refine s_icmp_ne 128 124 C X at_121 (fun c => absurd rfl c) (fun _ => ?_)
    refine s_iconst 125 C X at_124 kc_iconst_1 ?_
    refine s_goto 129 C X at_125 ?_
    refine s_istore 131 C X (l' := #[.val (.int x0), .val (.int x1), .val (.int x2), .val (.int x3), .val (.int x4), .val (.int (1 : Int32)), .val (.int (1 : Int32)), .val (.int x0), .val (.int x1), .val (.ref o25), .val (.ref o27), .val (.int ((31 : Int32) * x0 + x1)), .val (.int ((31 : Int32) * x0 + x1)), .val (.int (1 : Int32)), .val (.int (1 : Int32))]) at_129 rfl ?_
    refine s_iload 133 C X at_131 rfl ?_
    refine s_if_eq 145 136 C X at_133 (fun c => absurd c (by decide)) (fun _ => ?_)
    refine s_iload 138 C X at_136 rfl ?_
    refine s_if_eq 145 141 C X at_138 (fun c => absurd c (by decide)) (fun _ => ?_)
    refine s_iconst 142 C X at_141 kc_iconst_1 ?_
    refine s_goto 146 C X at_142 ?_
    refine s_nreturn C X at_146 rfl (by simp) rfl ?_
    rfl
  · rw [hE] at X
    refine Run.cast (st' := [(.int (0 : Int32))]) rfl ?_
    refine s_if_eq 124 117 C X at_114 (fun _ => ?_) (fun c => absurd (by decide : (0 : Int32) = (0 : Int32)) c)
    refine s_iconst 125 C X at_124 kc_iconst_1 ?_
    refine s_goto 129 C X at_125 ?_
    refine s_istore 131 C X (l' := #[.val (.int x0), .val (.int x1), .val (.int x2), .val (.int x3), .val (.int x4), .val (.int (1 : Int32)), .val (.int (1 : Int32)), .val (.int x0), .val (.int x1), .val (.ref o25), .val (.ref o27), .val (.int ((31 : Int32) * x0 + x1)), .val (.int ((31 : Int32) * x0 + x1)), .val (.int (1 : Int32)), .val (.int (1 : Int32))]) at_129 rfl ?_
    refine s_iload 133 C X at_131 rfl ?_
    refine s_if_eq 145 136 C X at_133 (fun c => absurd c (by decide)) (fun _ => ?_)
    refine s_iload 138 C X at_136 rfl ?_
    refine s_if_eq 145 141 C X at_138 (fun c => absurd c (by decide)) (fun _ => ?_)
    refine s_iconst 142 C X at_141 kc_iconst_1 ?_
    refine s_goto 146 C X at_142 ?_
    refine s_nreturn C X at_146 rfl (by simp) rfl ?_
    rfl
set_option maxRecDepth 65536 in
set_option maxHeartbeats 40000000 in
theorem comes_1 {Post : Tables → Env → Array Value → State → Outcome → State → Prop} (hpost : ∀ tb e args s v u, (limb_1_1.after args s (.returned v) u = true ∧ limb_1_2.after args s (.returned v) u = true ∧ True) → FrameEnd s (.returned v) u (Jvm.fieldLocs frame_1_writes args s ++ Jvm.arrayLocs frame_1_arrays args s ++ Jvm.staticLocs frame_1_statics s) 16 128 → Post tb e args s (.returned v) u) :
    ArmFor flags0 classFile x code maxLocals ret World_1 tables_1 room_1 Calls_1 rest_1 Pre_1 Post := by
  intro l hfl _ _ p e ha hc hk s m args below hf hA hF happ hP
  obtain ⟨hcalls, hrest, hpre⟩ := hP
  obtain ⟨-, -, -, hnamed, -, -, -, hat⟩ := (Spec.applies_iff hf).mp happ
  obtain ⟨hg, hn⟩ := and_e (Cond.before_iff.mp (show (Jvm.Cond.and given_1 narrow_1).before args s = true from hpre))
  obtain ⟨g0, g1⟩ := and_e hg
  obtain ⟨ga0, gr0⟩ := and_e g1
  obtain ⟨ga1, gr1⟩ := and_e gr0
  obtain ⟨ga2, gr2⟩ := and_e gr1
  obtain ⟨ga3, gr3⟩ := and_e gr2
  obtain ⟨w0, w1, w2, w3, w4, rfl⟩ : ∃ w0 w1 w2 w3 w4 : Value, args = #[w0, w1, w2, w3, w4] := by
    have hs : args.size = 5 := by simpa [Cond.value, given_1] using g0
    obtain ⟨L⟩ := args
    match L, hs with
    | [w0, w1, w2, w3, w4], _ => exact ⟨w0, w1, w2, w3, w4, rfl⟩
  have hw := fun d (hd : d ∈ tables_1) => atoms_spec (ws := Jvm.Cond.code x code maxLocals ret :: tables_1) hat d (List.mem_cons_of_mem _ hd)
  have hfit : Fit s := fun {y c} hc i hi => by
    obtain ⟨ha, rfl⟩ := Array.getElem?_eq_some_iff.mp hc
    have q := List.all_eq_true.mp ((Array.all_eq_true_iff_forall_mem.mp hF) _ (Array.getElem_mem ha)) i (List.mem_range.mpr hi)
    simpa [Array.getElem?_eq_getElem hi] using q
  obtain ⟨i0, e0⟩ := is_v ga0
  obtain rfl : w0 = (.int i0) := Option.some.inj e0
  obtain ⟨i1, e1⟩ := is_v ga1
  obtain rfl : w1 = (.int i1) := Option.some.inj e1
  obtain ⟨i2, e2⟩ := is_v ga2
  obtain rfl : w2 = (.int i2) := Option.some.inj e2
  obtain ⟨i3, e3⟩ := is_v ga3
  obtain rfl : w3 = (.int i3) := Option.some.inj e3
  obtain ⟨i4, e4⟩ := is_v gr3
  obtain rfl : w4 = (.int i4) := Option.some.inj e4
  obtain ⟨n, o, h1, h2, h3, _, L, rfl, ⟨rfl, N⟩, hq⟩ := rm0 l s _ hw i0 i1 i2 i3 i4  s.heap s.heap.size (Nat.le_refl _)  p e ha hc hk s m _ below hf ((Spec.applies_iff_loose hf).mp happ).1 ⟨rfl, State.Warmed39.refl s, rfl⟩ trivial
  exact ⟨n, _, h1, h2, h3, hpost _ _ _ _ _ _ ⟨Cond.after_iff.mpr rfl, Cond.after_iff.mpr (eq_i res_at (Term.int_eval (1)) rfl), trivial⟩ ⟨hq.1, hq.2.1, (hq.2.2.sift fun y hy => Or.inr (N y hy)).mono (by decide) (by decide)⟩⟩
theorem main_1_1 : Claimed_1_1 := comes_1 fun _ _ _ _ _ _ h hF => ⟨h.1, hF⟩
theorem main_1_2 : Claimed_1_2 := comes_1 fun _ _ _ _ _ _ h hF => ⟨h.2.1, hF⟩
end Jvm.Pilot.@@N@@
namespace Jvm.Pilot.@@N@@
open Jvm Jvm.ClassFile Sem Op Lib Jvm.Free Jvm.Stand Jvm.Pilot.@@N@@.Jvm.D
/-! MADE BY PROGRAM (witnessworld.py) out of the Statement's table words and the real class files: 9 classes; the members and pool entries that the words name. The judged class is class 1, her method 1. -/
namespace start1
open Jvm.ClassFile
def u (s : String) : CpInfo := .utf8 (stringToUtf16 s)
/-- a pool by its gaps: so many unusable entries, then the entry; so many at the end -/
def gap : Nat → List CpInfo → List CpInfo
  | 0, r => r
  | n + 1, r => .unusable :: gap n r
def poolList (es : List (Nat × CpInfo)) (last : Nat) : List CpInfo := es.foldr (fun e r => gap e.1 (e.2 :: r)) (gap last [])
def pool (es : List (Nat × CpInfo)) (last : Nat) : Array CpInfo := ⟨poolList es last⟩
def fileOf (pool : Array CpInfo) (this : Nat) (attrs : Array Attribute := #[]) (ms : Array MethodInfo := #[]) (fl : Nat := 33) (sup : Nat := 0) (ifs : Array Nat := #[]) (fds : Array FieldInfo := #[]) : ClassFile where
  minorVersion := 0
  majorVersion := 65
  constantPool := pool
  accessFlags := fl
  thisClass := this
  superClass := sup
  interfaces := ifs
  fields := fds
  methods := ms
  attributes := attrs
def plain (name : String) (sup : Option ClassId) : Class where
  name := name
  kind := .ordinary
  loader := none
  accessFlags := 33
  super := sup
  interfaces := #[]
  cf := none
  fields := #[]
  methods := #[]
  instanceTypes := #[]
  staticTypes := #[]
  resolved := #[]
  callSites := []
  init := .initialized
  statics := none
  mirror := none

def pool0 : Array CpInfo := pool [(5, u "<init>"), (0, u "()V"), (1, .class_ 10), (1, u "java/lang/Object")] 113

def k0c0 : Code := { maxStack := 0, maxLocals := 1, code := object_method_1_code, exceptionTable := #[], attributes := #[] }
def k0m0 : Method := { name := "<init>", desc := "()V", sig := { parameters := [], returnType := none }, accessFlags := 1, code := some k0c0 }
/-- java/lang/Object -/
def k0 : Class := { plain "java/lang/Object" none with
  accessFlags := 33
  interfaces := #[]
  cf := some (fileOf pool0 8 #[] #[{ accessFlags := 1, nameIndex := 5, descriptorIndex := 6, attributes := #[] }] 33 0 #[] #[])
  fields := #[]
  methods := #[k0m0]
  instanceTypes := #[]
  staticTypes := #[]
  resolved := Array.replicate 124 none
  statics := none }

def pool1 : Array CpInfo := pool [(2, .class_ 4), (1, u "java/lang/Object"), (0, u "<init>"), (0, u "()V"), (0, .class_ 8), (0, u "com/example/libring/libring/slots/SlotRange"), (0, .methodref 7 10), (0, .nameAndType 5 11), (0, u "(II)V"), (0, .methodref 7 13), (0, .nameAndType 14 15), (0, u "hashCode"), (0, u "()I"), (0, .methodref 7 17), (0, .nameAndType 18 19), (0, u "equals"), (0, u "(Ljava/lang/Object;)Z"), (0, .class_ 21), (0, u "com/example/libring/libring/slots/SlotRangeHashCodePinLaw"), (2, u "law"), (0, u "(IIIII)Z")] 3

def k1m0 : Method := { name := "<init>", desc := "()V", sig := { parameters := [], returnType := none }, accessFlags := 1, code := none }
def k1c1 : Code := { maxStack := 4, maxLocals := 15, code := code, exceptionTable := #[], attributes := #[] }
def k1m1 : Method := { name := "law", desc := "(IIIII)Z", sig := { parameters := [.int, .int, .int, .int, .int], returnType := some .boolean }, accessFlags := 9, code := some k1c1 }
/-- com/example/libring/libring/slots/SlotRangeHashCodePinLaw -/
def k1 : Class := { plain "com/example/libring/libring/slots/SlotRangeHashCodePinLaw" (some 0) with
  accessFlags := 49
  interfaces := #[]
  cf := some (fileOf pool1 20 #[] #[{ accessFlags := 1, nameIndex := 5, descriptorIndex := 6, attributes := #[] }, { accessFlags := 9, nameIndex := 24, descriptorIndex := 25, attributes := #[] }] 49 2 #[] #[])
  fields := #[]
  methods := #[k1m0, k1m1]
  instanceTypes := #[]
  staticTypes := #[]
  resolved := Array.replicate 29 none
  statics := none }

def pool2 : Array CpInfo := pool [(1, .methodref 2 3), (0, .class_ 4), (0, .nameAndType 5 6), (0, u "java/lang/Object"), (0, u "<init>"), (0, u "()V"), (0, .fieldref 8 9), (0, .class_ 10), (0, .nameAndType 11 12), (0, u "com/example/libring/libring/slots/SlotRange"), (0, u "first"), (0, u "I"), (0, .fieldref 8 14), (0, .nameAndType 15 12), (0, u "last"), (4, u "(II)V"), (2, u "()I"), (0, u "equals"), (0, u "(Ljava/lang/Object;)Z"), (1, u "hashCode")] 19

def k2c0 : Code := { maxStack := 2, maxLocals := 3, code := prog_15_method_1_code, exceptionTable := #[], attributes := #[] }
def k2m0 : Method := { name := "<init>", desc := "(II)V", sig := { parameters := [.int, .int], returnType := none }, accessFlags := 0, code := some k2c0 }
def k2c1 : Code := { maxStack := 2, maxLocals := 3, code := prog_15_method_4_code, exceptionTable := #[], attributes := #[] }
def k2m1 : Method := { name := "equals", desc := "(Ljava/lang/Object;)Z", sig := { parameters := [(.object "java/lang/Object")], returnType := some .boolean }, accessFlags := 1, code := some k2c1 }
def k2c2 : Code := { maxStack := 2, maxLocals := 1, code := prog_15_method_5_code, exceptionTable := #[], attributes := #[] }
def k2m2 : Method := { name := "hashCode", desc := "()I", sig := { parameters := [], returnType := some .int }, accessFlags := 1, code := some k2c2 }
/-- com/example/libring/libring/slots/SlotRange -/
def k2 : Class := { plain "com/example/libring/libring/slots/SlotRange" (some 0) with
  accessFlags := 49
  interfaces := #[]
  cf := some (fileOf pool2 8 #[] #[{ accessFlags := 0, nameIndex := 5, descriptorIndex := 20, attributes := #[] }, { accessFlags := 1, nameIndex := 24, descriptorIndex := 25, attributes := #[] }, { accessFlags := 1, nameIndex := 27, descriptorIndex := 23, attributes := #[] }] 49 2 #[] #[{ accessFlags := 18, nameIndex := 11, descriptorIndex := 12, attributes := #[] }, { accessFlags := 18, nameIndex := 15, descriptorIndex := 12, attributes := #[] }])
  fields := #[{ name := "first", type := .int, accessFlags := 18, slot := 0, constantValue := 0 }, { name := "last", type := .int, accessFlags := 18, slot := 1, constantValue := 0 }]
  methods := #[k2m0, k2m1, k2m2]
  instanceTypes := #[.int, .int]
  staticTypes := #[]
  resolved := Array.replicate 47 none
  statics := none }

def pool3 : Array CpInfo := pool [(1, u "java/lang/Cloneable"), (0, .class_ 1), (0, u "java/lang/Object"), (0, .class_ 3)] 3

/-- java/lang/Cloneable -/
def k3 : Class := { plain "java/lang/Cloneable" (some 0) with
  accessFlags := 1537
  interfaces := #[]
  cf := some (fileOf pool3 2 #[] #[] 1537 4 #[] #[])
  fields := #[]
  methods := #[]
  instanceTypes := #[]
  staticTypes := #[]
  resolved := Array.replicate 8 none
  statics := none }

def pool4 : Array CpInfo := pool [(1, u "java/io/Serializable"), (0, .class_ 1), (0, u "java/lang/Object"), (0, .class_ 3)] 3

/-- java/io/Serializable -/
def k4 : Class := { plain "java/io/Serializable" (some 0) with
  accessFlags := 1537
  interfaces := #[]
  cf := some (fileOf pool4 2 #[] #[] 1537 4 #[] #[])
  fields := #[]
  methods := #[]
  instanceTypes := #[]
  staticTypes := #[]
  resolved := Array.replicate 8 none
  statics := none }

/-- the primitive byte -/
def k5 : Class := { plain "byte" none with kind := .primitive 'B', accessFlags := 0x411 }
/-- [B -/
def k6 : Class := { plain "[B" (some 0) with kind := .array 5 .byte, interfaces := #[3, 4], accessFlags := 1041 }

/-- the primitive int -/
def k7 : Class := { plain "int" none with kind := .primitive 'I', accessFlags := 0x411 }
/-- [I -/
def k8 : Class := { plain "[I" (some 0) with kind := .array 7 .int, interfaces := #[3, 4], accessFlags := 1041 }

def heap : Heap := #[]
def classes : Array Class := #[k0, k1, k2, k3, k4, k5, k6, k7, k8]
def interned : List (Array UInt16 × Addr) := []
def slotsUsed : Nat := 0
def theMethod : MethodId := ⟨1, 1⟩
def args0 : Array Value := #[.int 5, .int 6, .int 7, .int 8, .int 9]
def aboutOver (below : List Frame) : State where
  vm := { classes := classes, interned := interned.toArray }
  heap := heap
  slotsUsed := slotsUsed
  threads := #[{ frames := .invoking theMethod args0 :: below }]
def below0 : List Frame := [.native { method := ⟨0, 0⟩, args := #[] }]
def about1 : State := aboutOver below0
def p0 : Program := .bare "" "" ""
def e0 : Env := launch0.env 0 0 0
theorem w_frames : about1.frames = Frame.invoking theMethod args0 :: below0 := rfl
set_option maxRecDepth 65536 in
theorem w_args : argsFit about1.vm theMethod args0 = true := by decide +kernel
set_option maxRecDepth 65536 in
theorem w_heap : heapFits about1 = true := by decide +kernel
set_option maxRecDepth 65536 in
theorem w_runnable : about1.curStatus? = some .runnable := by decide +kernel
set_option maxRecDepth 65536 in
theorem w_alone : about1.alone = true := by decide +kernel
set_option maxRecDepth 65536 in
theorem w_named : about1.methodNamed? x = some theMethod := by decide +kernel
set_option maxRecDepth 65536 in
theorem w_hears : about1.hears theMethod below0 = true := by decide +kernel
set_option maxRecDepth 65536 in
theorem w_ripe : about1.ripe theMethod args0 below0 = true := by decide +kernel
theorem w_running : about1.status = .running := rfl
set_option maxRecDepth 65536 in
theorem w_room : about1.hasRoom e0.platform room_1 = true :=
  launch0.hasRoom_least _ room_1 (by decide +kernel) (by decide +kernel) (by decide +kernel) (by decide +kernel) (by decide +kernel) (by decide +kernel)
theorem allAtoms_all (ts : List Jvm.Cond) (a : Array Jvm.Value) (st : Jvm.State) : (allAtoms ts).before a st = ts.all (fun c => c.before a st) := by
  induction ts with
  | nil => rfl
  | cons c t ih =>
    show (Jvm.Cond.and c (allAtoms t)).before a st = _
    rw [Jvm.Cond.before_and, ih, List.all_cons]
def words1 : List Jvm.Cond := Jvm.Cond.code x code maxLocals ret :: tables_1
/-- a 'code' word, met by the world's own term for the bytes: nothing is compared byte by byte -/
theorem code_word {y : MethodName} {bytes : ByteArray} {mx : Nat} {rt : Option FieldType} {a : Array Value} {s : State} {m : MethodId} {meth : Method} {c : Code} (h1 : s.methodNamed? y = some m) (h2 : s.vm.method? m = some meth) (h3 : meth.code = some c) (h4 : c.code = bytes)
    (h5 : (c.maxLocals == mx && c.exceptionTable.isEmpty && decide (c.maxStack ≤ mostOperands) && decide (meth.sig.returnType = rt) && !meth.locks && decide (parseMethodDescriptor y.desc = some meth.sig)) = true) : (Jvm.Cond.code y bytes mx rt).before a s = true := by
  simp only [Bool.and_eq_true, beq_iff_eq, Bool.not_eq_true', decide_eq_true_eq] at h5
  obtain ⟨⟨⟨⟨⟨g1, g2⟩, g3⟩, g4⟩, g5⟩, g6⟩ := h5
  simp [Cond.before, Cond.holds, Cond.value, h1, h2, h3, h4, g1, g2, g3, g4, g5, g6]
def isCode : Jvm.Cond → Bool
  | .code _ _ _ _ => true
  | _ => false
theorem all_split {L : List Jvm.Cond} {P : Jvm.Cond → Bool} (h1 : L.all (fun c => isCode c || P c) = true) (h2 : ∀ c ∈ L.filter isCode, P c = true) : L.all P = true := by
  refine List.all_eq_true.mpr fun c hc => ?_
  have h := List.all_eq_true.mp h1 c hc
  rcases Bool.eq_false_or_eq_true (isCode c) with hi | hi
  · exact h2 c (List.mem_filter.mpr ⟨hc, hi⟩)
  · simpa [hi] using h
set_option maxRecDepth 65536 in
theorem w_c0 : (Jvm.Cond.code x code maxLocals ret).before args0 about1 = true := code_word (m := ⟨1, 1⟩) (meth := k1m1) (c := k1c1) (by decide +kernel) rfl rfl rfl (by decide +kernel)
set_option maxRecDepth 65536 in
theorem w_c1 : (Jvm.Cond.code ({ cls := "com/example/libring/libring/slots/SlotRange", name := "<init>", desc := "(II)V" } : Jvm.MethodName) prog_15_method_1_code (3 : Nat) (Option.none : Option Jvm.ClassFile.FieldType)).before args0 about1 = true := code_word (m := ⟨2, 0⟩) (meth := k2m0) (c := k2c0) (by decide +kernel) rfl rfl rfl (by decide +kernel)
set_option maxRecDepth 65536 in
theorem w_c2 : (Jvm.Cond.code ({ cls := "java/lang/Object", name := "<init>", desc := "()V" } : Jvm.MethodName) object_method_1_code (1 : Nat) (Option.none : Option Jvm.ClassFile.FieldType)).before args0 about1 = true := code_word (m := ⟨0, 0⟩) (meth := k0m0) (c := k0c0) (by decide +kernel) rfl rfl rfl (by decide +kernel)
set_option maxRecDepth 65536 in
theorem w_c3 : (Jvm.Cond.code ({ cls := "com/example/libring/libring/slots/SlotRange", name := "hashCode", desc := "()I" } : Jvm.MethodName) prog_15_method_5_code (1 : Nat) (Option.some Jvm.ClassFile.FieldType.int)).before args0 about1 = true := code_word (m := ⟨2, 2⟩) (meth := k2m2) (c := k2c2) (by decide +kernel) rfl rfl rfl (by decide +kernel)
set_option maxRecDepth 65536 in
theorem w_c4 : (Jvm.Cond.code ({ cls := "com/example/libring/libring/slots/SlotRange", name := "equals", desc := "(Ljava/lang/Object;)Z" } : Jvm.MethodName) prog_15_method_4_code (3 : Nat) (Option.some Jvm.ClassFile.FieldType.boolean)).before args0 about1 = true := code_word (m := ⟨2, 1⟩) (meth := k2m1) (c := k2c1) (by decide +kernel) rfl rfl rfl (by decide +kernel)
def codes1 : List Jvm.Cond := [Jvm.Cond.code x code maxLocals ret, Jvm.Cond.code ({ cls := "com/example/libring/libring/slots/SlotRange", name := "<init>", desc := "(II)V" } : Jvm.MethodName) prog_15_method_1_code (3 : Nat) (Option.none : Option Jvm.ClassFile.FieldType), Jvm.Cond.code ({ cls := "java/lang/Object", name := "<init>", desc := "()V" } : Jvm.MethodName) object_method_1_code (1 : Nat) (Option.none : Option Jvm.ClassFile.FieldType), Jvm.Cond.code ({ cls := "com/example/libring/libring/slots/SlotRange", name := "hashCode", desc := "()I" } : Jvm.MethodName) prog_15_method_5_code (1 : Nat) (Option.some Jvm.ClassFile.FieldType.int), Jvm.Cond.code ({ cls := "com/example/libring/libring/slots/SlotRange", name := "equals", desc := "(Ljava/lang/Object;)Z" } : Jvm.MethodName) prog_15_method_4_code (3 : Nat) (Option.some Jvm.ClassFile.FieldType.boolean)]
set_option maxRecDepth 65536 in
theorem codes_eq : words1.filter isCode = codes1 := rfl
theorem w_codes : ∀ c ∈ words1.filter isCode, c.before args0 about1 = true := by
  rw [codes_eq]
  intro c hc
  simp only [codes1, List.mem_cons, List.not_mem_nil, or_false] at hc
  rcases hc with rfl | rfl | rfl | rfl | rfl
  · exact w_c0
  · exact w_c1
  · exact w_c2
  · exact w_c3
  · exact w_c4
set_option maxRecDepth 65536 in
theorem w_t1 : (words1.take 24).all (fun c => isCode c || c.before args0 about1) = true := by decide +kernel
set_option maxRecDepth 65536 in
theorem w_t2 : (words1.drop 24).all (fun c => isCode c || c.before args0 about1) = true := by decide +kernel
theorem w_tables : (allAtoms (Jvm.Cond.code x code maxLocals ret :: tables_1)).before args0 about1 = true := by
  rw [allAtoms_all]
  show words1.all (fun c => c.before args0 about1) = true
  refine all_split ?_ w_codes
  rw [← List.take_append_drop 24 words1, List.all_append, w_t1, w_t2]
  rfl
set_option maxRecDepth 65536 in
theorem w_case : (Jvm.Cond.and given_1 narrow_1).before args0 about1 = true := by decide +kernel
theorem w_applies : (headSpec (Jvm.Cond.code x code maxLocals ret :: tables_1) room_1).applies x e0.platform about1 = true :=
  (Spec.applies_iff w_frames).mpr ⟨w_running, w_runnable, w_alone, w_named, w_hears, w_ripe, w_room, w_tables⟩
theorem atStart : AtStart classFile x code maxLocals ret World_1 tables_1 room_1 Calls_1 rest_1 Pre_1 launch0 p0 e0 about1 theMethod args0 below0 :=
  ⟨lists_1, trivial, launch0.admits_env _ _ _, launch0.least_env, fairChoices_fair.cas, fairChoices_fair.clock, w_frames, w_args, w_heap, w_applies, trivial, trivial, w_case⟩
end start1
theorem witness_1 : WitnessClaimed_1 := ⟨start1.p0, start1.e0, start1.about1, start1.theMethod, start1.args0, start1.below0, start1.atStart⟩
end Jvm.Pilot.@@N@@
